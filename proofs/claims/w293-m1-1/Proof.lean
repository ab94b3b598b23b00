import JvmDerived
import JvmDerived.Pilot.@@N@@Statement
import JvmDerived.Pilot.@@N@@Code
set_option linter.unusedVariables false
set_option linter.unusedSimpArgs false
namespace Jvm.RoadKit
open Sem ClassFile Op Lib Jvm.Stand Jvm.Free Jvm.LawKit
section New
variable {p : Program} {l : Launch} {e : Env} {R : Room} {s : State} {m : MethodId} {args : Array Value} {below : List Frame} {meth : Method} {c : Code} {T : State} {locs : List Loc} {cells slots : Nat}
theorem retI (X : Stand p l e R s m args below meth c T locs cells slots) (hx : p.tables.exec = Jvm.exec) {pc : Nat} {Ls : Array Slot} {z : Int32} {rest : List Value} (hret : meth.sig.returnType = some .int) (hd : decode c.code pc = .ok (.ireturn, 1)) {fs : List Frame}
    (hl : ∀ (f : JFrame) (acts : List Action), f.method = m → f.locked = none → f.entered = [] → (doReturn e (T.setTop f) acts (some (.int z))).1 = T.setFrames fs) : Steps p.tables e below (T.setTop (mkF m pc Ls (.int z :: rest))) (T.setFrames fs) :=
  retOut X hx hret rfl (Or.inl ⟨rfl, Or.inl rfl, z, rfl⟩) hd hl
end New
end Jvm.RoadKit
namespace Jvm.Pilot.@@N@@
open Jvm Jvm.ClassFile Sem Op Lib Jvm.Free Jvm.Stand Jvm.LawKit Jvm.RoadKit Bundle Jvm.Pilot.@@N@@.Jvm.D
def own_b (P : Prop) [Decidable P] : Int32 := if P then (1 : Int32) else (0 : Int32)
theorem own_bt {P : Prop} [Decidable P] (h : P) : own_b P = (1 : Int32) := if_pos h
theorem own_bf {P : Prop} [Decidable P] (h : ¬ P) : own_b P = (0 : Int32) := if_neg h
theorem own_btn {P : Prop} [Decidable P] (h : P) : ¬ (own_b P = (0 : Int32)) := by rw [own_bt h]; decide
theorem own_bfn {P : Prop} [Decidable P] (h : ¬ P) : ¬ (own_b P = (1 : Int32)) := by rw [own_bf h]; decide
theorem own_b_congr {P Q : Prop} [Decidable P] [Decidable Q] (h : P ↔ Q) : own_b P = own_b Q := by
  by_cases q : P
  · rw [own_bt q, own_bt (h.mp q)]
  · rw [own_bf q, own_bf fun z => q (h.mpr z)]
theorem own_eqI {args : Array Value} {s : State} {t : Term} {k : Int32} (h : (Jvm.Cond.eq t (.int k)).value args s none s [] = some true) : t.eval args s none [] s = some (.int k) := by
  obtain ⟨x, y, h1, h2, -, h4⟩ := cmp_v (Or.inl h)
  cases Option.some.inj (h2.symm.trans (Term.int_eval k))
  obtain ⟨z, rfl⟩ := h4
  rw [h1, gotT (Cond.eq_ints h1 h2) h]
theorem own_eqR {args : Array Value} {s : State} {t u : Term} {y : Addr} (hu : u.eval args s none [] s = some (.ref y)) (h : (Jvm.Cond.eq t u).value args s none s [] = some true) : t.eval args s none [] s = some (.ref y) := by
  obtain ⟨x, y', h1, h2, -, h4⟩ := cmp_v (Or.inl h)
  cases Option.some.inj (h2.symm.trans hu)
  rw [h1, gotT (eq_R h1 h2 h4.2 rfl) h]
theorem own_len {args : Array Value} {s : State} {t : Term} {a : Addr} {cl : Cell} {ty : FieldType} {k : Int32} (ev : t.eval args s none [] s = some (.ref a)) (A : Arr s s.heap a cl ty) (h : (Term.length t).eval args s none [] s = some (.int k)) : cl.slots.size < 2 ^ 31 ∧ cl.slots.size.toInt32 = k := by
  have ha : s.arrayAt? a = some cl := A.fin (Vm.Alike.refl _)
  by_cases hl : cl.slots.size < 2 ^ 31
  · rw [len_f ev ha hl] at h
    exact ⟨hl, by simpa using h⟩
  · simp [Term.eval, ev, ha, hl] at h
theorem own_eqL {args : Array Value} {s : State} {t : Term} {k : Int64} (h : (Jvm.Cond.eq t (.long k)).value args s none s [] = some true) : t.eval args s none [] s = some (.long k) := by
  obtain ⟨x, y, h1, h2, -, h4⟩ := cmp_v (Or.inl h)
  cases Option.some.inj (h2.symm.trans (long_at k))
  obtain ⟨z, rfl⟩ := h4
  rw [h1, gotT (eq_L h1 h2) h]

theorem d2_0 : decode jdk_30_method_1_code 0 = .ok (.aload_n 0, 1) := by decide +kernel
theorem d2_1 : decode jdk_30_method_1_code 1 = .ok (.invokespecial 1, 3) := by decide +kernel
theorem d2_4 : decode jdk_30_method_1_code 4 = .ok (.return_, 1) := by decide +kernel
theorem pn_java_lang_Record : plainName "java/lang/Record" = true := by first | (simp [plainName, overriddenIn]; done) | decide +kernel
theorem ef2 (m : MethodId) (tz : Addr) : entryFrame m #[(.ref tz)] 1 = mkF m 0 #[.val (.ref tz)] [] := by first | (simp [entryFrame, mkF, argsToLocals, Value.category]; done) | rfl
def Q2 (Z : State) (tz : Addr) (h0 : Heap) (n0 : Nat) (v : Option Value) (h : Heap) (L : List Loc) : Prop := v = none ∧ Fr n0 L ∧ h = h0
set_option maxRecDepth 65536 in
set_option maxHeartbeats 40000000 in
theorem rm2 (l : Launch) (Z : State) (a0 : Array Value) (hw : ∀ d ∈ tables_1, d.before a0 Z = true) (ws : List Jvm.Cond) (tz : Addr) (h0 : Heap) (n0 : Nat) (Z0 : n0 ≤ h0.size) (O0 : Old Z n0 h0) :
    MetFree l (⟨"java/lang/Record", "<init>", "()V"⟩ : MethodName) (head1 (Jvm.Cond.code (⟨"java/lang/Record", "<init>", "()V"⟩ : MethodName) jdk_30_method_1_code 1 none :: ws) ({ frames := 1, cells := 0, slots := 0, locals := 12 } : Room)) (fun a U => a = #[(.ref tz)] ∧ Z.Warmed39 U.vm ∧ U.heap = h0) (fun _ _ _ _ _ => True) (fun _ U o U' => ∃ v L, o = .returned v ∧ Q2 Z tz h0 n0 v U'.heap L ∧ FrameEnd U o U' L ({ frames := 1, cells := 0, slots := 0, locals := 12 } : Room).cells ({ frames := 1, cells := 0, slots := 0, locals := 12 } : Room).slots) := by
  refine MetFree.of_bodySF (plainFor_of_name pn_java_lang_Record) hisR ?_
  intro p e s m args below meth c s₁ Bd hml0 hP hK
  obtain ⟨rfl, hZ, hh⟩ := hP
  have hx := Bd.exec
  have hby := Bd.bytes
  have hml : c.maxLocals = 1 := hml0
  have hown : s.vm.findClass "java/lang/Record" = some m.cls := findClass_of_methodNamed Bd.named
  have hnm := (name_of_methodNamed Bd.named Bd.method).1
  have X0 : Stand p l e ({ frames := 1, cells := 0, slots := 0, locals := 12 } : Room) s m #[(.ref tz)] below meth c s₁ [] 0 0 := Stand.of_body Bd
  have e0 : s₁.heap = h0 := by rw [← hh, Bd.state]; rfl
  have N0 := Fr.nil n0
  have K0 : Keep h0 h0 [] := Keep.refl _ _
  have pre0 : ∀ t, Steps p.tables e below (s₁.setTop (mkF m 0 #[.val (.ref tz)] [])) t → Steps p.tables e below (s₁.setTop (entryFrame m #[(.ref tz)] 1)) t := fun t k => castTop (ef2 m tz) k
  obtain ⟨T1, X1, e1, st1⟩ := initO X0 hx hZ hown (hw _ (List.mem_of_getElem? (i := 11) rfl)) (hw _ (List.mem_of_getElem? (i := 12) rfl)) (hw _ (List.mem_of_getElem? (i := 13) rfl)) e0 (g := (mkF m 1 #[.val (.ref tz)] [(.ref tz)])) rfl (by rw [hml]; rfl) rfl (hb hby d2_1) (by decide) (W := 0) (by show 2 * 0 + _ ≤ _; exact Nat.le_of_eq rfl) (by decide)
  obtain ⟨fs, hr, hrun, hended, hW, hsame⟩ := X1.leave (v := none) (fun _ => rfl)
  refine ⟨_, _, pre0 _ ?_, hrun, hended, _, _, rfl, ?_, ⟨_, rfl⟩, hW, hsame.mono (by decide) (by decide)⟩
  · show Steps p.tables e below (s₁.setTop (mkF m 0 #[.val (.ref tz)] [])) _
    refine XS.aloadN X0.here hx rfl (hb hby d2_0) rfl rfl ?_
    show Steps p.tables e below (s₁.setTop (mkF m 1 #[.val (.ref tz)] [(.ref tz)])) _
    refine st1 _ ?_
    show Steps p.tables e below (T1.setTop (mkF m 4 #[.val (.ref tz)] [])) _
    exact X1.returnOut hx Bd.returns (hb hby d2_4) hr
  · show Q2 Z tz h0 n0 _ T1.heap _
    rw [e1]
    exact ⟨rfl, N0, rfl⟩
theorem d1_0 : decode prog_14_method_1_code 0 = .ok (.aload_n 0, 1) := by decide +kernel
theorem pd_0 : parseMethodDescriptor "()V" = some ⟨[], none⟩ := by decide +kernel
theorem d1_1 : decode prog_14_method_1_code 1 = .ok (.invokespecial 1, 3) := by decide +kernel
theorem d1_4 : decode prog_14_method_1_code 4 = .ok (.aload_n 0, 1) := by decide +kernel
theorem d1_5 : decode prog_14_method_1_code 5 = .ok (.iload_n 1, 1) := by decide +kernel
theorem d1_6 : decode prog_14_method_1_code 6 = .ok (.putfield 7, 3) := by decide +kernel
theorem d1_9 : decode prog_14_method_1_code 9 = .ok (.aload_n 0, 1) := by decide +kernel
theorem d1_10 : decode prog_14_method_1_code 10 = .ok (.iload_n 2, 1) := by decide +kernel
theorem d1_11 : decode prog_14_method_1_code 11 = .ok (.putfield 13, 3) := by decide +kernel
theorem d1_14 : decode prog_14_method_1_code 14 = .ok (.return_, 1) := by decide +kernel
theorem pn_com_example_headmast_headmast_Pin : plainName "com/example/headmast/headmast/Pin" = true := by first | (simp [plainName, overriddenIn]; done) | decide +kernel
theorem ef1 (m : MethodId) (tz : Addr) (x1 : Int32) (x2 : Int32) : entryFrame m #[(.ref tz), (.int x1), (.int x2)] 3 = mkF m 0 #[.val (.ref tz), .val (.int x1), .val (.int x2)] [] := by first | (simp [entryFrame, mkF, argsToLocals, Value.category]; done) | rfl
def Q1 (Z : State) (tz : Addr) (x1 : Int32) (x2 : Int32) (u_tz_section : Value) (u_tz_push : Value) (h0 : Heap) (n0 : Nat) (v : Option Value) (h : Heap) (L : List Loc) : Prop := v = none ∧ Fr n0 L ∧ Keep h0 h [tz] ∧ Exa Z h tz "com/example/headmast/headmast/Pin" ∧ Fld Z h tz "com/example/headmast/headmast/Pin" "section" "I" (.int x1) ∧ Fld Z h tz "com/example/headmast/headmast/Pin" "push" "I" (.int x2)
set_option maxRecDepth 65536 in
set_option maxHeartbeats 40000000 in
theorem rm1 (l : Launch) (Z : State) (a0 : Array Value) (hw : ∀ d ∈ tables_1, d.before a0 Z = true) (ws : List Jvm.Cond) (tz : Addr) (x1 : Int32) (x2 : Int32) (u_tz_section : Value) (u_tz_push : Value) (h0 : Heap) (n0 : Nat) (Z0 : n0 ≤ h0.size) (O0 : Old Z n0 h0) (E_tz : Exa Z h0 tz "com/example/headmast/headmast/Pin") (F_u_tz_section : Fld Z h0 tz "com/example/headmast/headmast/Pin" "section" "I" u_tz_section) (g_tz : n0 ≤ tz) (F_u_tz_push : Fld Z h0 tz "com/example/headmast/headmast/Pin" "push" "I" u_tz_push) :
    MetFree l (⟨"com/example/headmast/headmast/Pin", "<init>", "(II)V"⟩ : MethodName) (head1 (Jvm.Cond.code (⟨"com/example/headmast/headmast/Pin", "<init>", "(II)V"⟩ : MethodName) prog_14_method_1_code 3 none :: ws) ({ frames := 2, cells := 0, slots := 0, locals := 24 } : Room)) (fun a U => a = #[(.ref tz), (.int x1), (.int x2)] ∧ Z.Warmed39 U.vm ∧ U.heap = h0) (fun _ _ _ _ _ => True) (fun _ U o U' => ∃ v L, o = .returned v ∧ Q1 Z tz x1 x2 u_tz_section u_tz_push h0 n0 v U'.heap L ∧ FrameEnd U o U' L ({ frames := 2, cells := 0, slots := 0, locals := 24 } : Room).cells ({ frames := 2, cells := 0, slots := 0, locals := 24 } : Room).slots) := by
  refine MetFree.of_bodySF (plainFor_of_name pn_com_example_headmast_headmast_Pin) hisR ?_
  intro p e s m args below meth c s₁ Bd hml0 hP hK
  obtain ⟨rfl, hZ, hh⟩ := hP
  have hx := Bd.exec
  have hby := Bd.bytes
  have hml : c.maxLocals = 3 := hml0
  have hown : s.vm.findClass "com/example/headmast/headmast/Pin" = some m.cls := findClass_of_methodNamed Bd.named
  have hnm := (name_of_methodNamed Bd.named Bd.method).1
  have X0 : Stand p l e ({ frames := 2, cells := 0, slots := 0, locals := 24 } : Room) s m #[(.ref tz), (.int x1), (.int x2)] below meth c s₁ [] 0 0 := Stand.of_body Bd
  have e0 : s₁.heap = h0 := by rw [← hh, Bd.state]; rfl
  have N0 := Fr.nil n0
  have K0 : Keep h0 h0 [tz] := Keep.refl _ _
  have pre0 : ∀ t, Steps p.tables e below (s₁.setTop (mkF m 0 #[.val (.ref tz), .val (.int x1), .val (.int x2)] [])) t → Steps p.tables e below (s₁.setTop (entryFrame m #[(.ref tz), (.int x1), (.int x2)] 3)) t := fun t k => castTop (ef1 m tz x1 x2) k
  obtain ⟨_, _, ⟨T2, L2, k2, n2⟩, -, X2, ⟨Lc2, hQ2, l2, y2, z2⟩, st2⟩ := X0.specialBack hx (y := (⟨"java/lang/Record", "<init>", "()V"⟩ : MethodName)) rfl hown (mvT hZ (hw _ (List.mem_of_getElem? (i := 6) rfl))) (mvT hZ (hw _ (List.mem_of_getElem? (i := 7) rfl))) (mvT hZ (hw _ (List.mem_of_getElem? (i := 10) rfl))) (by decide) (backOf (W := 0) (rm2 l Z a0 hw [] tz h0 n0 Z0 O0) hZ (hw _ (List.mem_of_getElem? (i := 10) rfl)) (hw _ (List.mem_of_getElem? (i := 9) rfl)) (by decide) (by decide)) (g := (mkF m 1 #[.val (.ref tz), .val (.int x1), .val (.int x2)] [(.ref tz)])) rfl (by rw [hml]; rfl) (Steps.refl _) (a := tz) (argsL := []) (rest := []) (lenOf pd_0 rfl) rfl (by show 2 * 0 + _ ≤ _; exact Nat.le_of_eq rfl) (hb hby d1_1) (fun _ _ => ⟨rfl, e0, (by decide : 0 + 0 ≤ _), (by decide : 0 + 0 ≤ _)⟩)
  dsimp only [Pt.U, Pt.locs, Pt.cells, Pt.slots] at X2 l2 y2 z2 st2 hQ2
  subst l2 y2 z2
  obtain ⟨rfl, N2q, eh2⟩ := hQ2
  have N2 := Fr.app N0 N2q
  obtain ⟨T3, h3, X3, e3, W3, st3⟩ := putF X2 hx hZ hown (host := "") (Or.inl (hw _ (List.mem_of_getElem? (i := 14) rfl))) Via.refl eh2 F_u_tz_section E_tz (Or.inr ⟨(hw _ (List.mem_of_getElem? (i := 15) rfl)), rfl, hnm⟩) (hw _ (List.mem_of_getElem? (i := 1) rfl)) (ty := .int) (by decide) rfl rfl (g := (mkF m 6 #[.val (.ref tz), .val (.int x1), .val (.int x2)] [(.int x1), (.ref tz)])) rfl rfl (hb hby d1_6)
  have O3 : Old Z n0 h3 := O0.wr W3 g_tz
  have Z3 : n0 ≤ h3.size := Nat.le_trans Z0 (Keep.of_wr W3).1
  have K3 : Keep h0 h3 [tz] := K0.wr W3 (Or.inl (List.mem_of_getElem? (i := 0) rfl))
  have N3 := Fr.snoc X3 N2 g_tz
  have Fw3 : Fld Z h3 tz "com/example/headmast/headmast/Pin" "section" "I" (.int x1) := F_u_tz_section.same W3
  have C4 : Exa Z h3 tz "com/example/headmast/headmast/Pin" := (E_tz.wr W3)
  have F5 : Fld Z h3 tz "com/example/headmast/headmast/Pin" "push" "I" u_tz_push := (F_u_tz_push.other W3 (Or.inr (slot_ne (Or.inr (hw _ (List.mem_of_getElem? (i := 17) rfl))) (Or.inr (hw _ (List.mem_of_getElem? (i := 15) rfl))) (by decide) (t := .int) (t' := .int) (by decide) (by decide))))
  obtain ⟨T6, h6, X6, e6, W6, st6⟩ := putF X3 hx hZ hown (host := "") (Or.inl (hw _ (List.mem_of_getElem? (i := 16) rfl))) Via.refl e3 F5 C4 (Or.inr ⟨(hw _ (List.mem_of_getElem? (i := 17) rfl)), rfl, hnm⟩) (hw _ (List.mem_of_getElem? (i := 1) rfl)) (ty := .int) (by decide) rfl rfl (g := (mkF m 11 #[.val (.ref tz), .val (.int x1), .val (.int x2)] [(.int x2), (.ref tz)])) rfl rfl (hb hby d1_11)
  have O6 : Old Z n0 h6 := O3.wr W6 g_tz
  have Z6 : n0 ≤ h6.size := Nat.le_trans Z3 (Keep.of_wr W6).1
  have K6 : Keep h0 h6 [tz] := K3.wr W6 (Or.inl (List.mem_of_getElem? (i := 0) rfl))
  have N6 := Fr.snoc X6 N3 g_tz
  have Fw6 : Fld Z h6 tz "com/example/headmast/headmast/Pin" "push" "I" (.int x2) := F5.same W6
  have C7 : Exa Z h6 tz "com/example/headmast/headmast/Pin" := (C4.wr W6)
  have F8 : Fld Z h6 tz "com/example/headmast/headmast/Pin" "section" "I" (.int x1) := (Fw3.other W6 (Or.inr (slot_ne (Or.inr (hw _ (List.mem_of_getElem? (i := 15) rfl))) (Or.inr (hw _ (List.mem_of_getElem? (i := 17) rfl))) (by decide) (t := .int) (t' := .int) (by decide) (by decide))))
  obtain ⟨fs, hr, hrun, hended, hW, hsame⟩ := X6.leave (v := none) (fun _ => rfl)
  refine ⟨_, _, pre0 _ ?_, hrun, hended, _, _, rfl, ?_, ⟨_, rfl⟩, hW, hsame.mono (by decide) (by decide)⟩
  · show Steps p.tables e below (s₁.setTop (mkF m 0 #[.val (.ref tz), .val (.int x1), .val (.int x2)] [])) _
    refine XS.aloadN X0.here hx rfl (hb hby d1_0) rfl rfl ?_
    show Steps p.tables e below (s₁.setTop (mkF m 1 #[.val (.ref tz), .val (.int x1), .val (.int x2)] [(.ref tz)])) _
    refine st2.trans ?_
    show Steps p.tables e below (T2.setTop (mkF m 4 #[.val (.ref tz), .val (.int x1), .val (.int x2)] [])) _
    refine XS.aloadN X2.here hx rfl (hb hby d1_4) rfl rfl ?_
    show Steps p.tables e below (T2.setTop (mkF m 5 #[.val (.ref tz), .val (.int x1), .val (.int x2)] [(.ref tz)])) _
    refine XS.iloadN X2.here hx rfl (hb hby d1_5) rfl ?_
    show Steps p.tables e below (T2.setTop (mkF m 6 #[.val (.ref tz), .val (.int x1), .val (.int x2)] [(.int x1), (.ref tz)])) _
    refine st3 _ ?_
    show Steps p.tables e below (T3.setTop (mkF m 9 #[.val (.ref tz), .val (.int x1), .val (.int x2)] [])) _
    refine XS.aloadN X3.here hx rfl (hb hby d1_9) rfl rfl ?_
    show Steps p.tables e below (T3.setTop (mkF m 10 #[.val (.ref tz), .val (.int x1), .val (.int x2)] [(.ref tz)])) _
    refine XS.iloadN X3.here hx rfl (hb hby d1_10) rfl ?_
    show Steps p.tables e below (T3.setTop (mkF m 11 #[.val (.ref tz), .val (.int x1), .val (.int x2)] [(.int x2), (.ref tz)])) _
    refine st6 _ ?_
    show Steps p.tables e below (T6.setTop (mkF m 14 #[.val (.ref tz), .val (.int x1), .val (.int x2)] [])) _
    exact X6.returnOut hx Bd.returns (hb hby d1_14) hr
  · show Q1 Z tz x1 x2 u_tz_section u_tz_push h0 n0 _ T6.heap _
    rw [e6]
    exact ⟨rfl, N6, K6, C7, F8, Fw6⟩
theorem d4_0 : decode prog_5_method_1_code 0 = .ok (.aload_n 0, 1) := by decide +kernel
theorem d4_1 : decode prog_5_method_1_code 1 = .ok (.invokespecial 1, 3) := by decide +kernel
theorem d4_4 : decode prog_5_method_1_code 4 = .ok (.aload_n 0, 1) := by decide +kernel
theorem d4_5 : decode prog_5_method_1_code 5 = .ok (.aload_n 1, 1) := by decide +kernel
theorem d4_6 : decode prog_5_method_1_code 6 = .ok (.putfield 7, 3) := by decide +kernel
theorem d4_9 : decode prog_5_method_1_code 9 = .ok (.aload_n 0, 1) := by decide +kernel
theorem d4_10 : decode prog_5_method_1_code 10 = .ok (.iload_n 2, 1) := by decide +kernel
theorem d4_11 : decode prog_5_method_1_code 11 = .ok (.putfield 13, 3) := by decide +kernel
theorem d4_14 : decode prog_5_method_1_code 14 = .ok (.aload_n 0, 1) := by decide +kernel
theorem d4_15 : decode prog_5_method_1_code 15 = .ok (.iload_n 3, 1) := by decide +kernel
theorem d4_16 : decode prog_5_method_1_code 16 = .ok (.putfield 17, 3) := by decide +kernel
theorem d4_19 : decode prog_5_method_1_code 19 = .ok (.aload_n 0, 1) := by decide +kernel
theorem d4_20 : decode prog_5_method_1_code 20 = .ok (.iload 4, 2) := by decide +kernel
theorem d4_22 : decode prog_5_method_1_code 22 = .ok (.putfield 20, 3) := by decide +kernel
theorem d4_25 : decode prog_5_method_1_code 25 = .ok (.aload_n 0, 1) := by decide +kernel
theorem d4_26 : decode prog_5_method_1_code 26 = .ok (.iload 5, 2) := by decide +kernel
theorem d4_28 : decode prog_5_method_1_code 28 = .ok (.putfield 23, 3) := by decide +kernel
theorem d4_31 : decode prog_5_method_1_code 31 = .ok (.return_, 1) := by decide +kernel
theorem pn_com_example_headmast_headmast_HandOver : plainName "com/example/headmast/headmast/HandOver" = true := by first | (simp [plainName, overriddenIn]; done) | decide +kernel
theorem ef4 (m : MethodId) (tz : Addr) (x1 : Addr) (x2 : Int32) (x3 : Int32) (x4 : Int32) (x5 : Int32) : entryFrame m #[(.ref tz), (.ref x1), (.int x2), (.int x3), (.int x4), (.int x5)] 6 = mkF m 0 #[.val (.ref tz), .val (.ref x1), .val (.int x2), .val (.int x3), .val (.int x4), .val (.int x5)] [] := by first | (simp [entryFrame, mkF, argsToLocals, Value.category]; done) | rfl
def Q4 (Z : State) (tz : Addr) (x1 : Addr) (x2 : Int32) (x3 : Int32) (x4 : Int32) (x5 : Int32) (u_tz_pin : Value) (u_tz_headerHeight : Value) (u_tz_pinned : Value) (u_tz_alpha : Value) (u_tz_over : Value) (h0 : Heap) (n0 : Nat) (v : Option Value) (h : Heap) (L : List Loc) : Prop := v = none ∧ Fr n0 L ∧ Keep h0 h [tz] ∧ Exa Z h tz "com/example/headmast/headmast/HandOver" ∧ Fld Z h tz "com/example/headmast/headmast/HandOver" "pin" "Lcom/example/headmast/headmast/Pin;" (.ref x1) ∧ Fld Z h tz "com/example/headmast/headmast/HandOver" "over" "Z" (.int (x5 &&& (1 : Int32)))
set_option maxRecDepth 65536 in
set_option maxHeartbeats 40000000 in
theorem rm4 (l : Launch) (Z : State) (a0 : Array Value) (hw : ∀ d ∈ tables_1, d.before a0 Z = true) (ws : List Jvm.Cond) (tz : Addr) (x1 : Addr) (x2 : Int32) (x3 : Int32) (x4 : Int32) (x5 : Int32) (u_tz_pin : Value) (u_tz_headerHeight : Value) (u_tz_pinned : Value) (u_tz_alpha : Value) (u_tz_over : Value) (h0 : Heap) (n0 : Nat) (Z0 : n0 ≤ h0.size) (O0 : Old Z n0 h0) (E_tz : Exa Z h0 tz "com/example/headmast/headmast/HandOver") (F_u_tz_pin : Fld Z h0 tz "com/example/headmast/headmast/HandOver" "pin" "Lcom/example/headmast/headmast/Pin;" u_tz_pin) (g_tz : n0 ≤ tz) (F_u_tz_headerHeight : Fld Z h0 tz "com/example/headmast/headmast/HandOver" "headerHeight" "I" u_tz_headerHeight) (F_u_tz_pinned : Fld Z h0 tz "com/example/headmast/headmast/HandOver" "pinned" "I" u_tz_pinned) (F_u_tz_alpha : Fld Z h0 tz "com/example/headmast/headmast/HandOver" "alpha" "I" u_tz_alpha) (F_u_tz_over : Fld Z h0 tz "com/example/headmast/headmast/HandOver" "over" "Z" u_tz_over) :
    MetFree l (⟨"com/example/headmast/headmast/HandOver", "<init>", "(Lcom/example/headmast/headmast/Pin;IIIZ)V"⟩ : MethodName) (head1 (Jvm.Cond.code (⟨"com/example/headmast/headmast/HandOver", "<init>", "(Lcom/example/headmast/headmast/Pin;IIIZ)V"⟩ : MethodName) prog_5_method_1_code 6 none :: ws) ({ frames := 2, cells := 0, slots := 0, locals := 24 } : Room)) (fun a U => a = #[(.ref tz), (.ref x1), (.int x2), (.int x3), (.int x4), (.int x5)] ∧ Z.Warmed39 U.vm ∧ U.heap = h0) (fun _ _ _ _ _ => True) (fun _ U o U' => ∃ v L, o = .returned v ∧ Q4 Z tz x1 x2 x3 x4 x5 u_tz_pin u_tz_headerHeight u_tz_pinned u_tz_alpha u_tz_over h0 n0 v U'.heap L ∧ FrameEnd U o U' L ({ frames := 2, cells := 0, slots := 0, locals := 24 } : Room).cells ({ frames := 2, cells := 0, slots := 0, locals := 24 } : Room).slots) := by
  refine MetFree.of_bodySF (plainFor_of_name pn_com_example_headmast_headmast_HandOver) hisR ?_
  intro p e s m args below meth c s₁ Bd hml0 hP hK
  obtain ⟨rfl, hZ, hh⟩ := hP
  have hx := Bd.exec
  have hby := Bd.bytes
  have hml : c.maxLocals = 6 := hml0
  have hown : s.vm.findClass "com/example/headmast/headmast/HandOver" = some m.cls := findClass_of_methodNamed Bd.named
  have hnm := (name_of_methodNamed Bd.named Bd.method).1
  have X0 : Stand p l e ({ frames := 2, cells := 0, slots := 0, locals := 24 } : Room) s m #[(.ref tz), (.ref x1), (.int x2), (.int x3), (.int x4), (.int x5)] below meth c s₁ [] 0 0 := Stand.of_body Bd
  have e0 : s₁.heap = h0 := by rw [← hh, Bd.state]; rfl
  have N0 := Fr.nil n0
  have K0 : Keep h0 h0 [tz] := Keep.refl _ _
  have pre0 : ∀ t, Steps p.tables e below (s₁.setTop (mkF m 0 #[.val (.ref tz), .val (.ref x1), .val (.int x2), .val (.int x3), .val (.int x4), .val (.int x5)] [])) t → Steps p.tables e below (s₁.setTop (entryFrame m #[(.ref tz), (.ref x1), (.int x2), (.int x3), (.int x4), (.int x5)] 6)) t := fun t k => castTop (ef4 m tz x1 x2 x3 x4 x5) k
  obtain ⟨_, _, ⟨T9, L9, k9, n9⟩, -, X9, ⟨Lc9, hQ9, l9, y9, z9⟩, st9⟩ := X0.specialBack hx (y := (⟨"java/lang/Record", "<init>", "()V"⟩ : MethodName)) rfl hown (mvT hZ (hw _ (List.mem_of_getElem? (i := 24) rfl))) (mvT hZ (hw _ (List.mem_of_getElem? (i := 7) rfl))) (mvT hZ (hw _ (List.mem_of_getElem? (i := 10) rfl))) (by decide) (backOf (W := 0) (rm2 l Z a0 hw [] tz h0 n0 Z0 O0) hZ (hw _ (List.mem_of_getElem? (i := 10) rfl)) (hw _ (List.mem_of_getElem? (i := 9) rfl)) (by decide) (by decide)) (g := (mkF m 1 #[.val (.ref tz), .val (.ref x1), .val (.int x2), .val (.int x3), .val (.int x4), .val (.int x5)] [(.ref tz)])) rfl (by rw [hml]; rfl) (Steps.refl _) (a := tz) (argsL := []) (rest := []) (lenOf pd_0 rfl) rfl (by show 2 * 0 + _ ≤ _; exact Nat.le_of_eq rfl) (hb hby d4_1) (fun _ _ => ⟨rfl, e0, (by decide : 0 + 0 ≤ _), (by decide : 0 + 0 ≤ _)⟩)
  dsimp only [Pt.U, Pt.locs, Pt.cells, Pt.slots] at X9 l9 y9 z9 st9 hQ9
  subst l9 y9 z9
  obtain ⟨rfl, N9q, eh9⟩ := hQ9
  have N9 := Fr.app N0 N9q
  obtain ⟨T10, h10, X10, e10, W10, st10⟩ := putF X9 hx hZ hown (host := "") (Or.inl (hw _ (List.mem_of_getElem? (i := 25) rfl))) Via.refl eh9 F_u_tz_pin E_tz (Or.inr ⟨(hw _ (List.mem_of_getElem? (i := 26) rfl)), rfl, hnm⟩) (hw _ (List.mem_of_getElem? (i := 19) rfl)) (ty := (.object "com/example/headmast/headmast/Pin")) (by decide) rfl rfl (g := (mkF m 6 #[.val (.ref tz), .val (.ref x1), .val (.int x2), .val (.int x3), .val (.int x4), .val (.int x5)] [(.ref x1), (.ref tz)])) rfl rfl (hb hby d4_6)
  have O10 : Old Z n0 h10 := O0.wr W10 g_tz
  have Z10 : n0 ≤ h10.size := Nat.le_trans Z0 (Keep.of_wr W10).1
  have K10 : Keep h0 h10 [tz] := K0.wr W10 (Or.inl (List.mem_of_getElem? (i := 0) rfl))
  have N10 := Fr.snoc X10 N9 g_tz
  have Fw10 : Fld Z h10 tz "com/example/headmast/headmast/HandOver" "pin" "Lcom/example/headmast/headmast/Pin;" (.ref x1) := F_u_tz_pin.same W10
  have C11 : Exa Z h10 tz "com/example/headmast/headmast/HandOver" := (E_tz.wr W10)
  have F12 : Fld Z h10 tz "com/example/headmast/headmast/HandOver" "headerHeight" "I" u_tz_headerHeight := (F_u_tz_headerHeight.other W10 (Or.inr (slot_ne (Or.inr (hw _ (List.mem_of_getElem? (i := 28) rfl))) (Or.inr (hw _ (List.mem_of_getElem? (i := 26) rfl))) (by decide) (t := .int) (t' := (.object "com/example/headmast/headmast/Pin")) (by decide) (by decide))))
  obtain ⟨T13, h13, X13, e13, W13, st13⟩ := putF X10 hx hZ hown (host := "") (Or.inl (hw _ (List.mem_of_getElem? (i := 27) rfl))) Via.refl e10 F12 C11 (Or.inr ⟨(hw _ (List.mem_of_getElem? (i := 28) rfl)), rfl, hnm⟩) (hw _ (List.mem_of_getElem? (i := 19) rfl)) (ty := .int) (by decide) rfl rfl (g := (mkF m 11 #[.val (.ref tz), .val (.ref x1), .val (.int x2), .val (.int x3), .val (.int x4), .val (.int x5)] [(.int x2), (.ref tz)])) rfl rfl (hb hby d4_11)
  have O13 : Old Z n0 h13 := O10.wr W13 g_tz
  have Z13 : n0 ≤ h13.size := Nat.le_trans Z10 (Keep.of_wr W13).1
  have K13 : Keep h0 h13 [tz] := K10.wr W13 (Or.inl (List.mem_of_getElem? (i := 0) rfl))
  have N13 := Fr.snoc X13 N10 g_tz
  have Fw13 : Fld Z h13 tz "com/example/headmast/headmast/HandOver" "headerHeight" "I" (.int x2) := F12.same W13
  have C14 : Exa Z h13 tz "com/example/headmast/headmast/HandOver" := (C11.wr W13)
  have F15 : Fld Z h13 tz "com/example/headmast/headmast/HandOver" "pinned" "I" u_tz_pinned := ((F_u_tz_pinned.other W10 (Or.inr (slot_ne (Or.inr (hw _ (List.mem_of_getElem? (i := 30) rfl))) (Or.inr (hw _ (List.mem_of_getElem? (i := 26) rfl))) (by decide) (t := .int) (t' := (.object "com/example/headmast/headmast/Pin")) (by decide) (by decide)))).other W13 (Or.inr (slot_ne (Or.inr (hw _ (List.mem_of_getElem? (i := 30) rfl))) (Or.inr (hw _ (List.mem_of_getElem? (i := 28) rfl))) (by decide) (t := .int) (t' := .int) (by decide) (by decide))))
  obtain ⟨T16, h16, X16, e16, W16, st16⟩ := putF X13 hx hZ hown (host := "") (Or.inl (hw _ (List.mem_of_getElem? (i := 29) rfl))) Via.refl e13 F15 C14 (Or.inr ⟨(hw _ (List.mem_of_getElem? (i := 30) rfl)), rfl, hnm⟩) (hw _ (List.mem_of_getElem? (i := 19) rfl)) (ty := .int) (by decide) rfl rfl (g := (mkF m 16 #[.val (.ref tz), .val (.ref x1), .val (.int x2), .val (.int x3), .val (.int x4), .val (.int x5)] [(.int x3), (.ref tz)])) rfl rfl (hb hby d4_16)
  have O16 : Old Z n0 h16 := O13.wr W16 g_tz
  have Z16 : n0 ≤ h16.size := Nat.le_trans Z13 (Keep.of_wr W16).1
  have K16 : Keep h0 h16 [tz] := K13.wr W16 (Or.inl (List.mem_of_getElem? (i := 0) rfl))
  have N16 := Fr.snoc X16 N13 g_tz
  have Fw16 : Fld Z h16 tz "com/example/headmast/headmast/HandOver" "pinned" "I" (.int x3) := F15.same W16
  have C17 : Exa Z h16 tz "com/example/headmast/headmast/HandOver" := (C14.wr W16)
  have F18 : Fld Z h16 tz "com/example/headmast/headmast/HandOver" "alpha" "I" u_tz_alpha := (((F_u_tz_alpha.other W10 (Or.inr (slot_ne (Or.inr (hw _ (List.mem_of_getElem? (i := 32) rfl))) (Or.inr (hw _ (List.mem_of_getElem? (i := 26) rfl))) (by decide) (t := .int) (t' := (.object "com/example/headmast/headmast/Pin")) (by decide) (by decide)))).other W13 (Or.inr (slot_ne (Or.inr (hw _ (List.mem_of_getElem? (i := 32) rfl))) (Or.inr (hw _ (List.mem_of_getElem? (i := 28) rfl))) (by decide) (t := .int) (t' := .int) (by decide) (by decide)))).other W16 (Or.inr (slot_ne (Or.inr (hw _ (List.mem_of_getElem? (i := 32) rfl))) (Or.inr (hw _ (List.mem_of_getElem? (i := 30) rfl))) (by decide) (t := .int) (t' := .int) (by decide) (by decide))))
  obtain ⟨T19, h19, X19, e19, W19, st19⟩ := putF X16 hx hZ hown (host := "") (Or.inl (hw _ (List.mem_of_getElem? (i := 31) rfl))) Via.refl e16 F18 C17 (Or.inr ⟨(hw _ (List.mem_of_getElem? (i := 32) rfl)), rfl, hnm⟩) (hw _ (List.mem_of_getElem? (i := 19) rfl)) (ty := .int) (by decide) rfl rfl (g := (mkF m 22 #[.val (.ref tz), .val (.ref x1), .val (.int x2), .val (.int x3), .val (.int x4), .val (.int x5)] [(.int x4), (.ref tz)])) rfl rfl (hb hby d4_22)
  have O19 : Old Z n0 h19 := O16.wr W19 g_tz
  have Z19 : n0 ≤ h19.size := Nat.le_trans Z16 (Keep.of_wr W19).1
  have K19 : Keep h0 h19 [tz] := K16.wr W19 (Or.inl (List.mem_of_getElem? (i := 0) rfl))
  have N19 := Fr.snoc X19 N16 g_tz
  have Fw19 : Fld Z h19 tz "com/example/headmast/headmast/HandOver" "alpha" "I" (.int x4) := F18.same W19
  have C20 : Exa Z h19 tz "com/example/headmast/headmast/HandOver" := (C17.wr W19)
  have F21 : Fld Z h19 tz "com/example/headmast/headmast/HandOver" "over" "Z" u_tz_over := ((((F_u_tz_over.other W10 (Or.inr (slot_ne (Or.inr (hw _ (List.mem_of_getElem? (i := 34) rfl))) (Or.inr (hw _ (List.mem_of_getElem? (i := 26) rfl))) (by decide) (t := .boolean) (t' := (.object "com/example/headmast/headmast/Pin")) (by decide) (by decide)))).other W13 (Or.inr (slot_ne (Or.inr (hw _ (List.mem_of_getElem? (i := 34) rfl))) (Or.inr (hw _ (List.mem_of_getElem? (i := 28) rfl))) (by decide) (t := .boolean) (t' := .int) (by decide) (by decide)))).other W16 (Or.inr (slot_ne (Or.inr (hw _ (List.mem_of_getElem? (i := 34) rfl))) (Or.inr (hw _ (List.mem_of_getElem? (i := 30) rfl))) (by decide) (t := .boolean) (t' := .int) (by decide) (by decide)))).other W19 (Or.inr (slot_ne (Or.inr (hw _ (List.mem_of_getElem? (i := 34) rfl))) (Or.inr (hw _ (List.mem_of_getElem? (i := 32) rfl))) (by decide) (t := .boolean) (t' := .int) (by decide) (by decide))))
  obtain ⟨T22, h22, X22, e22, W22, st22⟩ := putFN X19 hx hZ hown (hw _ (List.mem_of_getElem? (i := 33) rfl)) Via.refl e19 F21 C20 (Or.inr ⟨(hw _ (List.mem_of_getElem? (i := 34) rfl)), rfl, hnm⟩) (hw _ (List.mem_of_getElem? (i := 19) rfl)) (ty := .boolean) (v' := (.int (x5 &&& (1 : Int32)))) (by decide) rfl (fits_nar_bool _) (g := (mkF m 28 #[.val (.ref tz), .val (.ref x1), .val (.int x2), .val (.int x3), .val (.int x4), .val (.int x5)] [(.int x5), (.ref tz)])) rfl rfl (hb hby d4_28)
  have O22 : Old Z n0 h22 := O19.wr W22 g_tz
  have Z22 : n0 ≤ h22.size := Nat.le_trans Z19 (Keep.of_wr W22).1
  have K22 : Keep h0 h22 [tz] := K19.wr W22 (Or.inl (List.mem_of_getElem? (i := 0) rfl))
  have N22 := Fr.snoc X22 N19 g_tz
  have Fw22 : Fld Z h22 tz "com/example/headmast/headmast/HandOver" "over" "Z" (.int (x5 &&& (1 : Int32))) := F21.same W22
  have C23 : Exa Z h22 tz "com/example/headmast/headmast/HandOver" := (C20.wr W22)
  have F24 : Fld Z h22 tz "com/example/headmast/headmast/HandOver" "pin" "Lcom/example/headmast/headmast/Pin;" (.ref x1) := ((((Fw10.other W13 (Or.inr (slot_ne (Or.inr (hw _ (List.mem_of_getElem? (i := 26) rfl))) (Or.inr (hw _ (List.mem_of_getElem? (i := 28) rfl))) (by decide) (t := (.object "com/example/headmast/headmast/Pin")) (t' := .int) (by decide) (by decide)))).other W16 (Or.inr (slot_ne (Or.inr (hw _ (List.mem_of_getElem? (i := 26) rfl))) (Or.inr (hw _ (List.mem_of_getElem? (i := 30) rfl))) (by decide) (t := (.object "com/example/headmast/headmast/Pin")) (t' := .int) (by decide) (by decide)))).other W19 (Or.inr (slot_ne (Or.inr (hw _ (List.mem_of_getElem? (i := 26) rfl))) (Or.inr (hw _ (List.mem_of_getElem? (i := 32) rfl))) (by decide) (t := (.object "com/example/headmast/headmast/Pin")) (t' := .int) (by decide) (by decide)))).other W22 (Or.inr (slot_ne (Or.inr (hw _ (List.mem_of_getElem? (i := 26) rfl))) (Or.inr (hw _ (List.mem_of_getElem? (i := 34) rfl))) (by decide) (t := (.object "com/example/headmast/headmast/Pin")) (t' := .boolean) (by decide) (by decide))))
  obtain ⟨fs, hr, hrun, hended, hW, hsame⟩ := X22.leave (v := none) (fun _ => rfl)
  refine ⟨_, _, pre0 _ ?_, hrun, hended, _, _, rfl, ?_, ⟨_, rfl⟩, hW, hsame.mono (by decide) (by decide)⟩
  · show Steps p.tables e below (s₁.setTop (mkF m 0 #[.val (.ref tz), .val (.ref x1), .val (.int x2), .val (.int x3), .val (.int x4), .val (.int x5)] [])) _
    refine XS.aloadN X0.here hx rfl (hb hby d4_0) rfl rfl ?_
    show Steps p.tables e below (s₁.setTop (mkF m 1 #[.val (.ref tz), .val (.ref x1), .val (.int x2), .val (.int x3), .val (.int x4), .val (.int x5)] [(.ref tz)])) _
    refine st9.trans ?_
    show Steps p.tables e below (T9.setTop (mkF m 4 #[.val (.ref tz), .val (.ref x1), .val (.int x2), .val (.int x3), .val (.int x4), .val (.int x5)] [])) _
    refine XS.aloadN X9.here hx rfl (hb hby d4_4) rfl rfl ?_
    show Steps p.tables e below (T9.setTop (mkF m 5 #[.val (.ref tz), .val (.ref x1), .val (.int x2), .val (.int x3), .val (.int x4), .val (.int x5)] [(.ref tz)])) _
    refine XS.aloadN X9.here hx rfl (hb hby d4_5) rfl rfl ?_
    show Steps p.tables e below (T9.setTop (mkF m 6 #[.val (.ref tz), .val (.ref x1), .val (.int x2), .val (.int x3), .val (.int x4), .val (.int x5)] [(.ref x1), (.ref tz)])) _
    refine st10 _ ?_
    show Steps p.tables e below (T10.setTop (mkF m 9 #[.val (.ref tz), .val (.ref x1), .val (.int x2), .val (.int x3), .val (.int x4), .val (.int x5)] [])) _
    refine XS.aloadN X10.here hx rfl (hb hby d4_9) rfl rfl ?_
    show Steps p.tables e below (T10.setTop (mkF m 10 #[.val (.ref tz), .val (.ref x1), .val (.int x2), .val (.int x3), .val (.int x4), .val (.int x5)] [(.ref tz)])) _
    refine XS.iloadN X10.here hx rfl (hb hby d4_10) rfl ?_
    show Steps p.tables e below (T10.setTop (mkF m 11 #[.val (.ref tz), .val (.ref x1), .val (.int x2), .val (.int x3), .val (.int x4), .val (.int x5)] [(.int x2), (.ref tz)])) _
    refine st13 _ ?_
    show Steps p.tables e below (T13.setTop (mkF m 14 #[.val (.ref tz), .val (.ref x1), .val (.int x2), .val (.int x3), .val (.int x4), .val (.int x5)] [])) _
    refine XS.aloadN X13.here hx rfl (hb hby d4_14) rfl rfl ?_
    show Steps p.tables e below (T13.setTop (mkF m 15 #[.val (.ref tz), .val (.ref x1), .val (.int x2), .val (.int x3), .val (.int x4), .val (.int x5)] [(.ref tz)])) _
    refine XS.iloadN X13.here hx rfl (hb hby d4_15) rfl ?_
    show Steps p.tables e below (T13.setTop (mkF m 16 #[.val (.ref tz), .val (.ref x1), .val (.int x2), .val (.int x3), .val (.int x4), .val (.int x5)] [(.int x3), (.ref tz)])) _
    refine st16 _ ?_
    show Steps p.tables e below (T16.setTop (mkF m 19 #[.val (.ref tz), .val (.ref x1), .val (.int x2), .val (.int x3), .val (.int x4), .val (.int x5)] [])) _
    refine XS.aloadN X16.here hx rfl (hb hby d4_19) rfl rfl ?_
    show Steps p.tables e below (T16.setTop (mkF m 20 #[.val (.ref tz), .val (.ref x1), .val (.int x2), .val (.int x3), .val (.int x4), .val (.int x5)] [(.ref tz)])) _
    refine XS.iload X16.here hx rfl (hb hby d4_20) rfl ?_
    show Steps p.tables e below (T16.setTop (mkF m 22 #[.val (.ref tz), .val (.ref x1), .val (.int x2), .val (.int x3), .val (.int x4), .val (.int x5)] [(.int x4), (.ref tz)])) _
    refine st19 _ ?_
    show Steps p.tables e below (T19.setTop (mkF m 25 #[.val (.ref tz), .val (.ref x1), .val (.int x2), .val (.int x3), .val (.int x4), .val (.int x5)] [])) _
    refine XS.aloadN X19.here hx rfl (hb hby d4_25) rfl rfl ?_
    show Steps p.tables e below (T19.setTop (mkF m 26 #[.val (.ref tz), .val (.ref x1), .val (.int x2), .val (.int x3), .val (.int x4), .val (.int x5)] [(.ref tz)])) _
    refine XS.iload X19.here hx rfl (hb hby d4_26) rfl ?_
    show Steps p.tables e below (T19.setTop (mkF m 28 #[.val (.ref tz), .val (.ref x1), .val (.int x2), .val (.int x3), .val (.int x4), .val (.int x5)] [(.int x5), (.ref tz)])) _
    refine st22 _ ?_
    show Steps p.tables e below (T22.setTop (mkF m 31 #[.val (.ref tz), .val (.ref x1), .val (.int x2), .val (.int x3), .val (.int x4), .val (.int x5)] [])) _
    exact X22.returnOut hx Bd.returns (hb hby d4_31) hr
  · show Q4 Z tz x1 x2 x3 x4 x5 u_tz_pin u_tz_headerHeight u_tz_pinned u_tz_alpha u_tz_over h0 n0 _ T22.heap _
    rw [e22]
    exact ⟨rfl, N22, K22, C23, F24, Fw22⟩
theorem d6_0 : decode prog_14_method_6_code 0 = .ok (.aload_n 0, 1) := by decide +kernel
theorem d6_1 : decode prog_14_method_6_code 1 = .ok (.getfield 13, 3) := by decide +kernel
theorem d6_4 : decode prog_14_method_6_code 4 = .ok (.ireturn, 1) := by decide +kernel
theorem ef6 (m : MethodId) (tz : Addr) : entryFrame m #[(.ref tz)] 1 = mkF m 0 #[.val (.ref tz)] [] := by first | (simp [entryFrame, mkF, argsToLocals, Value.category]; done) | rfl
def Q6 (Z : State) (tz : Addr) (tz_push : Int32) (h0 : Heap) (n0 : Nat) (v : Option Value) (h : Heap) (L : List Loc) : Prop := v = some (.int tz_push) ∧ Fr n0 L ∧ h = h0
set_option maxRecDepth 65536 in
set_option maxHeartbeats 40000000 in
theorem rm6 (l : Launch) (Z : State) (a0 : Array Value) (hw : ∀ d ∈ tables_1, d.before a0 Z = true) (ws : List Jvm.Cond) (tz : Addr) (tz_push : Int32) (h0 : Heap) (n0 : Nat) (Z0 : n0 ≤ h0.size) (O0 : Old Z n0 h0) (F_tz_push : Fld Z h0 tz "com/example/headmast/headmast/Pin" "push" "I" (.int tz_push)) :
    MetFree l (⟨"com/example/headmast/headmast/Pin", "push", "()I"⟩ : MethodName) (head1 (Jvm.Cond.code (⟨"com/example/headmast/headmast/Pin", "push", "()I"⟩ : MethodName) prog_14_method_6_code 1 (some .int) :: ws) ({ frames := 0, cells := 0, slots := 0, locals := 0 } : Room)) (fun a U => a = #[(.ref tz)] ∧ Z.Warmed39 U.vm ∧ U.heap = h0) (fun _ _ _ _ _ => True) (fun _ U o U' => ∃ v L, o = .returned v ∧ Q6 Z tz tz_push h0 n0 v U'.heap L ∧ FrameEnd U o U' L ({ frames := 0, cells := 0, slots := 0, locals := 0 } : Room).cells ({ frames := 0, cells := 0, slots := 0, locals := 0 } : Room).slots) := by
  refine MetFree.of_bodySF (plainFor_of_name pn_com_example_headmast_headmast_Pin) hisR ?_
  intro p e s m args below meth c s₁ Bd hml0 hP hK
  obtain ⟨rfl, hZ, hh⟩ := hP
  have hx := Bd.exec
  have hby := Bd.bytes
  have hml : c.maxLocals = 1 := hml0
  have hown : s.vm.findClass "com/example/headmast/headmast/Pin" = some m.cls := findClass_of_methodNamed Bd.named
  have hnm := (name_of_methodNamed Bd.named Bd.method).1
  have X0 : Stand p l e ({ frames := 0, cells := 0, slots := 0, locals := 0 } : Room) s m #[(.ref tz)] below meth c s₁ [] 0 0 := Stand.of_body Bd
  have e0 : s₁.heap = h0 := by rw [← hh, Bd.state]; rfl
  have N0 := Fr.nil n0
  have K0 : Keep h0 h0 [] := Keep.refl _ _
  have pre0 : ∀ t, Steps p.tables e below (s₁.setTop (mkF m 0 #[.val (.ref tz)] [])) t → Steps p.tables e below (s₁.setTop (entryFrame m #[(.ref tz)] 1)) t := fun t k => castTop (ef6 m tz) k
  obtain ⟨T25, X25, e25, st25⟩ := getF X0 hx hZ hown (host := "") (Or.inl (hw _ (List.mem_of_getElem? (i := 16) rfl))) Via.refl e0 F_tz_push (g := (mkF m 1 #[.val (.ref tz)] [(.ref tz)])) rfl rfl (hb hby d6_1)
  obtain ⟨fs, hr, hrun, hended, hW, hsame⟩ := X25.leave (v := some (.int tz_push)) (fun h => by rw [Bd.returns] at h; cases h)
  refine ⟨_, _, pre0 _ ?_, hrun, hended, _, _, rfl, ?_, ⟨_, rfl⟩, hW, hsame.mono (by decide) (by decide)⟩
  · show Steps p.tables e below (s₁.setTop (mkF m 0 #[.val (.ref tz)] [])) _
    refine XS.aloadN X0.here hx rfl (hb hby d6_0) rfl rfl ?_
    show Steps p.tables e below (s₁.setTop (mkF m 1 #[.val (.ref tz)] [(.ref tz)])) _
    refine st25 _ ?_
    show Steps p.tables e below (T25.setTop (mkF m 4 #[.val (.ref tz)] [(.int tz_push)])) _
    exact retI X25 hx Bd.returns (hb hby d6_4) hr
  · show Q6 Z tz tz_push h0 n0 _ T25.heap _
    rw [e25]
    exact ⟨rfl, N0, rfl⟩
theorem d5_0 : decode prog_5_method_3_code 0 = .ok (.aload_n 0, 1) := by decide +kernel
theorem d5_1 : decode prog_5_method_3_code 1 = .ok (.getfield 7, 3) := by decide +kernel
theorem pd_1 : parseMethodDescriptor "()I" = some ⟨[], some .int⟩ := by decide +kernel
theorem d5_4 : decode prog_5_method_3_code 4 = .ok (.invokevirtual 27, 3) := by decide +kernel
theorem d5_7 : decode prog_5_method_3_code 7 = .ok (.ifCond .ge 7, 3) := by decide +kernel
theorem d5_10 : decode prog_5_method_3_code 10 = .ok (.iconst 1, 1) := by decide +kernel
theorem d5_11 : decode prog_5_method_3_code 11 = .ok (.goto 4, 3) := by decide +kernel
theorem d5_15 : decode prog_5_method_3_code 15 = .ok (.ireturn, 1) := by decide +kernel
theorem d5_14 : decode prog_5_method_3_code 14 = .ok (.iconst 0, 1) := by decide +kernel
theorem ef5 (m : MethodId) (tz : Addr) : entryFrame m #[(.ref tz)] 1 = mkF m 0 #[.val (.ref tz)] [] := by first | (simp [entryFrame, mkF, argsToLocals, Value.category]; done) | rfl
def Q5 (Z : State) (tz : Addr) (tz_pin : Addr) (tz_pin_push : Int32) (h0 : Heap) (n0 : Nat) (v : Option Value) (h : Heap) (L : List Loc) : Prop := v = some (.int (own_b (tz_pin_push < (0 : Int32)))) ∧ Fr n0 L ∧ h = h0
set_option maxRecDepth 65536 in
set_option maxHeartbeats 40000000 in
theorem rm5 (l : Launch) (Z : State) (a0 : Array Value) (hw : ∀ d ∈ tables_1, d.before a0 Z = true) (ws : List Jvm.Cond) (tz : Addr) (tz_pin : Addr) (tz_pin_push : Int32) (h0 : Heap) (n0 : Nat) (Z0 : n0 ≤ h0.size) (O0 : Old Z n0 h0) (F_tz_pin : Fld Z h0 tz "com/example/headmast/headmast/HandOver" "pin" "Lcom/example/headmast/headmast/Pin;" (.ref tz_pin)) (F_tz_pin_push : Fld Z h0 tz_pin "com/example/headmast/headmast/Pin" "push" "I" (.int tz_pin_push)) (E_tz_pin : Exa Z h0 tz_pin "com/example/headmast/headmast/Pin") :
    MetFree l (⟨"com/example/headmast/headmast/HandOver", "inFlight", "()Z"⟩ : MethodName) (head1 (Jvm.Cond.code (⟨"com/example/headmast/headmast/HandOver", "inFlight", "()Z"⟩ : MethodName) prog_5_method_3_code 1 (some .boolean) :: ws) ({ frames := 1, cells := 0, slots := 0, locals := 12 } : Room)) (fun a U => a = #[(.ref tz)] ∧ Z.Warmed39 U.vm ∧ U.heap = h0) (fun _ _ _ _ _ => True) (fun _ U o U' => ∃ v L, o = .returned v ∧ Q5 Z tz tz_pin tz_pin_push h0 n0 v U'.heap L ∧ FrameEnd U o U' L ({ frames := 1, cells := 0, slots := 0, locals := 12 } : Room).cells ({ frames := 1, cells := 0, slots := 0, locals := 12 } : Room).slots) := by
  refine MetFree.of_bodySF (plainFor_of_name pn_com_example_headmast_headmast_HandOver) hisR ?_
  intro p e s m args below meth c s₁ Bd hml0 hP hK
  obtain ⟨rfl, hZ, hh⟩ := hP
  have hx := Bd.exec
  have hby := Bd.bytes
  have hml : c.maxLocals = 1 := hml0
  have hown : s.vm.findClass "com/example/headmast/headmast/HandOver" = some m.cls := findClass_of_methodNamed Bd.named
  have hnm := (name_of_methodNamed Bd.named Bd.method).1
  have X0 : Stand p l e ({ frames := 1, cells := 0, slots := 0, locals := 12 } : Room) s m #[(.ref tz)] below meth c s₁ [] 0 0 := Stand.of_body Bd
  have e0 : s₁.heap = h0 := by rw [← hh, Bd.state]; rfl
  have N0 := Fr.nil n0
  have K0 : Keep h0 h0 [] := Keep.refl _ _
  have pre0 : ∀ t, Steps p.tables e below (s₁.setTop (mkF m 0 #[.val (.ref tz)] [])) t → Steps p.tables e below (s₁.setTop (entryFrame m #[(.ref tz)] 1)) t := fun t k => castTop (ef5 m tz) k
  obtain ⟨T26, X26, e26, st26⟩ := getF X0 hx hZ hown (host := "") (Or.inl (hw _ (List.mem_of_getElem? (i := 25) rfl))) Via.refl e0 F_tz_pin (g := (mkF m 1 #[.val (.ref tz)] [(.ref tz)])) rfl rfl (hb hby d5_1)
  obtain ⟨cq27, kq27, q27a, q27b, q27c⟩ := isOf hZ e26 E_tz_pin
  obtain ⟨_, _, ⟨T27, L27, k27, n27⟩, -, X27, ⟨Lc27, hQ27, l27, y27, z27⟩, st27⟩ := X26.virtualBack hx (y := (⟨"com/example/headmast/headmast/Pin", "push", "()I"⟩ : MethodName)) (z := (⟨"com/example/headmast/headmast/Pin", "push", "()I"⟩ : MethodName)) hown (mvT hZ (hw _ (List.mem_of_getElem? (i := 40) rfl))) (mvT hZ (hw _ (List.mem_of_getElem? (i := 41) rfl))) (notFace_of_selects (args := #[]) (mvT hZ (hw _ (List.mem_of_getElem? (i := 43) rfl)))) (mvT hZ (hw _ (List.mem_of_getElem? (i := 43) rfl))) (mvT hZ (hw _ (List.mem_of_getElem? (i := 42) rfl))) (by decide) (backOf (W := 0) (rm6 l Z a0 hw [] tz_pin tz_pin_push h0 n0 Z0 O0 F_tz_pin_push) hZ (hw _ (List.mem_of_getElem? (i := 44) rfl)) (hw _ (List.mem_of_getElem? (i := 2) rfl)) (by decide) (by decide)) q27a q27c (g := (mkF m 4 #[.val (.ref tz)] [(.ref tz_pin)])) rfl (by rw [hml]; rfl) (Steps.refl _) (argsL := []) (rest := []) (lenOf pd_1 rfl) rfl (by show 2 * 0 + _ ≤ _; exact Nat.le_of_eq rfl) (hb hby d5_4) (fun _ _ => ⟨rfl, e26, (by decide : 0 + 0 ≤ _), (by decide : 0 + 0 ≤ _)⟩)
  dsimp only [Pt.U, Pt.locs, Pt.cells, Pt.slots] at X27 l27 y27 z27 st27 hQ27
  subst l27 y27 z27
  obtain ⟨rfl, N27q, eh27⟩ := hQ27
  have N27 := Fr.app N0 N27q
  have pre28 : ∀ t, Steps p.tables e below (T27.setTop (mkF m 7 #[.val (.ref tz)] [(.int tz_pin_push)])) t → Steps p.tables e below (s₁.setTop (entryFrame m #[(.ref tz)] 1)) t := by
    intro t kt
    refine pre0 t ?_
    show Steps p.tables e below (s₁.setTop (mkF m 0 #[.val (.ref tz)] [])) _
    refine XS.aloadN X0.here hx rfl (hb hby d5_0) rfl rfl ?_
    show Steps p.tables e below (s₁.setTop (mkF m 1 #[.val (.ref tz)] [(.ref tz)])) _
    refine st26 _ ?_
    show Steps p.tables e below (T26.setTop (mkF m 4 #[.val (.ref tz)] [(.ref tz_pin)])) _
    refine st27.trans ?_
    exact kt
  by_cases hc7 : tz_pin_push < (0 : Int32)
  · skip
    obtain ⟨fs, hr, hrun, hended, hW, hsame⟩ := X27.leave (v := some (.int (1 : Int32))) (fun h => by rw [Bd.returns] at h; cases h)
    refine ⟨_, _, pre28 _ ?_, hrun, hended, _, _, rfl, ?_, ⟨_, rfl⟩, hW, hsame.mono (by decide) (by decide)⟩
    · show Steps p.tables e below (T27.setTop (mkF m 7 #[.val (.ref tz)] [(.int tz_pin_push)])) _
      refine XS.ifNo X27.here hx rfl (hb hby d5_7) rfl ((if0 _ _).trans (tlt hc7).2.1) ?_
      show Steps p.tables e below (T27.setTop (mkF m 10 #[.val (.ref tz)] [])) _
      refine XS.iconst X27.here hx rfl (hb hby d5_10) ?_
      show Steps p.tables e below (T27.setTop (mkF m 11 #[.val (.ref tz)] [(.int (1 : Int32))])) _
      refine XS.goto X27.here hx rfl (pc0 := 11) (pc' := 15) rfl (hb hby d5_11) (by decide) (by decide) ?_
      show Steps p.tables e below (T27.setTop (mkF m 15 #[.val (.ref tz)] [(.int (1 : Int32))])) _
      exact retN X27 hx (t := .boolean) Bd.returns (by simp) (hb hby d5_15) hr
    · show Q5 Z tz tz_pin tz_pin_push h0 n0 _ T27.heap _
      rw [eh27]
      exact ⟨(by rw [own_bt hc7]; try rfl), N27, rfl⟩
  · skip
    obtain ⟨fs, hr, hrun, hended, hW, hsame⟩ := X27.leave (v := some (.int (0 : Int32))) (fun h => by rw [Bd.returns] at h; cases h)
    refine ⟨_, _, pre28 _ ?_, hrun, hended, _, _, rfl, ?_, ⟨_, rfl⟩, hW, hsame.mono (by decide) (by decide)⟩
    · show Steps p.tables e below (T27.setTop (mkF m 7 #[.val (.ref tz)] [(.int tz_pin_push)])) _
      refine XS.ifYes X27.here hx rfl (pc0 := 7) (pc' := 14) rfl (hb hby d5_7) rfl ((if0 _ _).trans (flt hc7).2.1) (by decide) (by decide) ?_
      show Steps p.tables e below (T27.setTop (mkF m 14 #[.val (.ref tz)] [])) _
      refine XS.iconst X27.here hx rfl (hb hby d5_14) ?_
      show Steps p.tables e below (T27.setTop (mkF m 15 #[.val (.ref tz)] [(.int (0 : Int32))])) _
      exact retN X27 hx (t := .boolean) Bd.returns (by simp) (hb hby d5_15) hr
    · show Q5 Z tz tz_pin tz_pin_push h0 n0 _ T27.heap _
      rw [eh27]
      exact ⟨(by rw [own_bf hc7]; try rfl), N27, rfl⟩
theorem d8_0 : decode prog_7_method_4_code 0 = .ok (.aload_n 0, 1) := by decide +kernel
theorem d8_1 : decode prog_7_method_4_code 1 = .ok (.getfield 35, 3) := by decide +kernel
theorem d8_4 : decode prog_7_method_4_code 4 = .ok (.ireturn, 1) := by decide +kernel
theorem pn_com_example_headmast_headmast_HandOverStyle : plainName "com/example/headmast/headmast/HandOverStyle" = true := by first | (simp [plainName, overriddenIn]; done) | decide +kernel
theorem ef8 (m : MethodId) (tz : Addr) : entryFrame m #[(.ref tz)] 1 = mkF m 0 #[.val (.ref tz)] [] := by first | (simp [entryFrame, mkF, argsToLocals, Value.category]; done) | rfl
def Q8 (Z : State) (tz : Addr) (tz_followsPush : Int32) (h0 : Heap) (n0 : Nat) (v : Option Value) (h : Heap) (L : List Loc) : Prop := v = some (.int (tz_followsPush &&& (1 : Int32))) ∧ Fr n0 L ∧ h = h0
set_option maxRecDepth 65536 in
set_option maxHeartbeats 40000000 in
theorem rm8 (l : Launch) (Z : State) (a0 : Array Value) (hw : ∀ d ∈ tables_1, d.before a0 Z = true) (ws : List Jvm.Cond) (tz : Addr) (tz_followsPush : Int32) (h0 : Heap) (n0 : Nat) (Z0 : n0 ≤ h0.size) (O0 : Old Z n0 h0) (F_tz_followsPush : Fld Z h0 tz "com/example/headmast/headmast/HandOverStyle" "followsPush" "Z" (.int tz_followsPush)) :
    MetFree l (⟨"com/example/headmast/headmast/HandOverStyle", "followsPush", "()Z"⟩ : MethodName) (head1 (Jvm.Cond.code (⟨"com/example/headmast/headmast/HandOverStyle", "followsPush", "()Z"⟩ : MethodName) prog_7_method_4_code 1 (some .boolean) :: ws) ({ frames := 0, cells := 0, slots := 0, locals := 0 } : Room)) (fun a U => a = #[(.ref tz)] ∧ Z.Warmed39 U.vm ∧ U.heap = h0) (fun _ _ _ _ _ => True) (fun _ U o U' => ∃ v L, o = .returned v ∧ Q8 Z tz tz_followsPush h0 n0 v U'.heap L ∧ FrameEnd U o U' L ({ frames := 0, cells := 0, slots := 0, locals := 0 } : Room).cells ({ frames := 0, cells := 0, slots := 0, locals := 0 } : Room).slots) := by
  refine MetFree.of_bodySF (plainFor_of_name pn_com_example_headmast_headmast_HandOverStyle) hisR ?_
  intro p e s m args below meth c s₁ Bd hml0 hP hK
  obtain ⟨rfl, hZ, hh⟩ := hP
  have hx := Bd.exec
  have hby := Bd.bytes
  have hml : c.maxLocals = 1 := hml0
  have hown : s.vm.findClass "com/example/headmast/headmast/HandOverStyle" = some m.cls := findClass_of_methodNamed Bd.named
  have hnm := (name_of_methodNamed Bd.named Bd.method).1
  have X0 : Stand p l e ({ frames := 0, cells := 0, slots := 0, locals := 0 } : Room) s m #[(.ref tz)] below meth c s₁ [] 0 0 := Stand.of_body Bd
  have e0 : s₁.heap = h0 := by rw [← hh, Bd.state]; rfl
  have N0 := Fr.nil n0
  have K0 : Keep h0 h0 [] := Keep.refl _ _
  have pre0 : ∀ t, Steps p.tables e below (s₁.setTop (mkF m 0 #[.val (.ref tz)] [])) t → Steps p.tables e below (s₁.setTop (entryFrame m #[(.ref tz)] 1)) t := fun t k => castTop (ef8 m tz) k
  obtain ⟨T29, X29, e29, st29⟩ := getF X0 hx hZ hown (host := "") (Or.inl (hw _ (List.mem_of_getElem? (i := 56) rfl))) Via.refl e0 F_tz_followsPush (g := (mkF m 1 #[.val (.ref tz)] [(.ref tz)])) rfl rfl (hb hby d8_1)
  obtain ⟨fs, hr, hrun, hended, hW, hsame⟩ := X29.leave (v := some (.int (tz_followsPush &&& (1 : Int32)))) (fun h => by rw [Bd.returns] at h; cases h)
  refine ⟨_, _, pre0 _ ?_, hrun, hended, _, _, rfl, ?_, ⟨_, rfl⟩, hW, hsame.mono (by decide) (by decide)⟩
  · show Steps p.tables e below (s₁.setTop (mkF m 0 #[.val (.ref tz)] [])) _
    refine XS.aloadN X0.here hx rfl (hb hby d8_0) rfl rfl ?_
    show Steps p.tables e below (s₁.setTop (mkF m 1 #[.val (.ref tz)] [(.ref tz)])) _
    refine st29 _ ?_
    show Steps p.tables e below (T29.setTop (mkF m 4 #[.val (.ref tz)] [(.int tz_followsPush)])) _
    exact retN X29 hx (t := .boolean) Bd.returns (by simp) (hb hby d8_4) hr
  · show Q8 Z tz tz_followsPush h0 n0 _ T29.heap _
    rw [e29]
    exact ⟨rfl, N0, rfl⟩
theorem d10_0 : decode prog_7_method_6_code 0 = .ok (.aload_n 0, 1) := by decide +kernel
theorem d10_1 : decode prog_7_method_6_code 1 = .ok (.getfield 42, 3) := by decide +kernel
theorem d10_4 : decode prog_7_method_6_code 4 = .ok (.ireturn, 1) := by decide +kernel
theorem ef10 (m : MethodId) (tz : Addr) : entryFrame m #[(.ref tz)] 1 = mkF m 0 #[.val (.ref tz)] [] := by first | (simp [entryFrame, mkF, argsToLocals, Value.category]; done) | rfl
def Q10 (Z : State) (tz : Addr) (tz_fades : Int32) (h0 : Heap) (n0 : Nat) (v : Option Value) (h : Heap) (L : List Loc) : Prop := v = some (.int (tz_fades &&& (1 : Int32))) ∧ Fr n0 L ∧ h = h0
set_option maxRecDepth 65536 in
set_option maxHeartbeats 40000000 in
theorem rm10 (l : Launch) (Z : State) (a0 : Array Value) (hw : ∀ d ∈ tables_1, d.before a0 Z = true) (ws : List Jvm.Cond) (tz : Addr) (tz_fades : Int32) (h0 : Heap) (n0 : Nat) (Z0 : n0 ≤ h0.size) (O0 : Old Z n0 h0) (F_tz_fades : Fld Z h0 tz "com/example/headmast/headmast/HandOverStyle" "fades" "Z" (.int tz_fades)) :
    MetFree l (⟨"com/example/headmast/headmast/HandOverStyle", "fades", "()Z"⟩ : MethodName) (head1 (Jvm.Cond.code (⟨"com/example/headmast/headmast/HandOverStyle", "fades", "()Z"⟩ : MethodName) prog_7_method_6_code 1 (some .boolean) :: ws) ({ frames := 0, cells := 0, slots := 0, locals := 0 } : Room)) (fun a U => a = #[(.ref tz)] ∧ Z.Warmed39 U.vm ∧ U.heap = h0) (fun _ _ _ _ _ => True) (fun _ U o U' => ∃ v L, o = .returned v ∧ Q10 Z tz tz_fades h0 n0 v U'.heap L ∧ FrameEnd U o U' L ({ frames := 0, cells := 0, slots := 0, locals := 0 } : Room).cells ({ frames := 0, cells := 0, slots := 0, locals := 0 } : Room).slots) := by
  refine MetFree.of_bodySF (plainFor_of_name pn_com_example_headmast_headmast_HandOverStyle) hisR ?_
  intro p e s m args below meth c s₁ Bd hml0 hP hK
  obtain ⟨rfl, hZ, hh⟩ := hP
  have hx := Bd.exec
  have hby := Bd.bytes
  have hml : c.maxLocals = 1 := hml0
  have hown : s.vm.findClass "com/example/headmast/headmast/HandOverStyle" = some m.cls := findClass_of_methodNamed Bd.named
  have hnm := (name_of_methodNamed Bd.named Bd.method).1
  have X0 : Stand p l e ({ frames := 0, cells := 0, slots := 0, locals := 0 } : Room) s m #[(.ref tz)] below meth c s₁ [] 0 0 := Stand.of_body Bd
  have e0 : s₁.heap = h0 := by rw [← hh, Bd.state]; rfl
  have N0 := Fr.nil n0
  have K0 : Keep h0 h0 [] := Keep.refl _ _
  have pre0 : ∀ t, Steps p.tables e below (s₁.setTop (mkF m 0 #[.val (.ref tz)] [])) t → Steps p.tables e below (s₁.setTop (entryFrame m #[(.ref tz)] 1)) t := fun t k => castTop (ef10 m tz) k
  obtain ⟨T30, X30, e30, st30⟩ := getF X0 hx hZ hown (host := "") (Or.inl (hw _ (List.mem_of_getElem? (i := 70) rfl))) Via.refl e0 F_tz_fades (g := (mkF m 1 #[.val (.ref tz)] [(.ref tz)])) rfl rfl (hb hby d10_1)
  obtain ⟨fs, hr, hrun, hended, hW, hsame⟩ := X30.leave (v := some (.int (tz_fades &&& (1 : Int32)))) (fun h => by rw [Bd.returns] at h; cases h)
  refine ⟨_, _, pre0 _ ?_, hrun, hended, _, _, rfl, ?_, ⟨_, rfl⟩, hW, hsame.mono (by decide) (by decide)⟩
  · show Steps p.tables e below (s₁.setTop (mkF m 0 #[.val (.ref tz)] [])) _
    refine XS.aloadN X0.here hx rfl (hb hby d10_0) rfl rfl ?_
    show Steps p.tables e below (s₁.setTop (mkF m 1 #[.val (.ref tz)] [(.ref tz)])) _
    refine st30 _ ?_
    show Steps p.tables e below (T30.setTop (mkF m 4 #[.val (.ref tz)] [(.int tz_fades)])) _
    exact retN X30 hx (t := .boolean) Bd.returns (by simp) (hb hby d10_4) hr
  · show Q10 Z tz tz_fades h0 n0 _ T30.heap _
    rw [e30]
    exact ⟨rfl, N0, rfl⟩
theorem d11_0 : decode prog_7_method_5_code 0 = .ok (.aload_n 0, 1) := by decide +kernel
theorem d11_1 : decode prog_7_method_5_code 1 = .ok (.getfield 39, 3) := by decide +kernel
theorem d11_4 : decode prog_7_method_5_code 4 = .ok (.ireturn, 1) := by decide +kernel
theorem ef11 (m : MethodId) (tz : Addr) : entryFrame m #[(.ref tz)] 1 = mkF m 0 #[.val (.ref tz)] [] := by first | (simp [entryFrame, mkF, argsToLocals, Value.category]; done) | rfl
def Q11 (Z : State) (tz : Addr) (tz_drawsOver : Int32) (h0 : Heap) (n0 : Nat) (v : Option Value) (h : Heap) (L : List Loc) : Prop := v = some (.int (tz_drawsOver &&& (1 : Int32))) ∧ Fr n0 L ∧ h = h0
set_option maxRecDepth 65536 in
set_option maxHeartbeats 40000000 in
theorem rm11 (l : Launch) (Z : State) (a0 : Array Value) (hw : ∀ d ∈ tables_1, d.before a0 Z = true) (ws : List Jvm.Cond) (tz : Addr) (tz_drawsOver : Int32) (h0 : Heap) (n0 : Nat) (Z0 : n0 ≤ h0.size) (O0 : Old Z n0 h0) (F_tz_drawsOver : Fld Z h0 tz "com/example/headmast/headmast/HandOverStyle" "drawsOver" "Z" (.int tz_drawsOver)) :
    MetFree l (⟨"com/example/headmast/headmast/HandOverStyle", "drawsOver", "()Z"⟩ : MethodName) (head1 (Jvm.Cond.code (⟨"com/example/headmast/headmast/HandOverStyle", "drawsOver", "()Z"⟩ : MethodName) prog_7_method_5_code 1 (some .boolean) :: ws) ({ frames := 0, cells := 0, slots := 0, locals := 0 } : Room)) (fun a U => a = #[(.ref tz)] ∧ Z.Warmed39 U.vm ∧ U.heap = h0) (fun _ _ _ _ _ => True) (fun _ U o U' => ∃ v L, o = .returned v ∧ Q11 Z tz tz_drawsOver h0 n0 v U'.heap L ∧ FrameEnd U o U' L ({ frames := 0, cells := 0, slots := 0, locals := 0 } : Room).cells ({ frames := 0, cells := 0, slots := 0, locals := 0 } : Room).slots) := by
  refine MetFree.of_bodySF (plainFor_of_name pn_com_example_headmast_headmast_HandOverStyle) hisR ?_
  intro p e s m args below meth c s₁ Bd hml0 hP hK
  obtain ⟨rfl, hZ, hh⟩ := hP
  have hx := Bd.exec
  have hby := Bd.bytes
  have hml : c.maxLocals = 1 := hml0
  have hown : s.vm.findClass "com/example/headmast/headmast/HandOverStyle" = some m.cls := findClass_of_methodNamed Bd.named
  have hnm := (name_of_methodNamed Bd.named Bd.method).1
  have X0 : Stand p l e ({ frames := 0, cells := 0, slots := 0, locals := 0 } : Room) s m #[(.ref tz)] below meth c s₁ [] 0 0 := Stand.of_body Bd
  have e0 : s₁.heap = h0 := by rw [← hh, Bd.state]; rfl
  have N0 := Fr.nil n0
  have K0 : Keep h0 h0 [] := Keep.refl _ _
  have pre0 : ∀ t, Steps p.tables e below (s₁.setTop (mkF m 0 #[.val (.ref tz)] [])) t → Steps p.tables e below (s₁.setTop (entryFrame m #[(.ref tz)] 1)) t := fun t k => castTop (ef11 m tz) k
  obtain ⟨T31, X31, e31, st31⟩ := getF X0 hx hZ hown (host := "") (Or.inl (hw _ (List.mem_of_getElem? (i := 77) rfl))) Via.refl e0 F_tz_drawsOver (g := (mkF m 1 #[.val (.ref tz)] [(.ref tz)])) rfl rfl (hb hby d11_1)
  obtain ⟨fs, hr, hrun, hended, hW, hsame⟩ := X31.leave (v := some (.int (tz_drawsOver &&& (1 : Int32)))) (fun h => by rw [Bd.returns] at h; cases h)
  refine ⟨_, _, pre0 _ ?_, hrun, hended, _, _, rfl, ?_, ⟨_, rfl⟩, hW, hsame.mono (by decide) (by decide)⟩
  · show Steps p.tables e below (s₁.setTop (mkF m 0 #[.val (.ref tz)] [])) _
    refine XS.aloadN X0.here hx rfl (hb hby d11_0) rfl rfl ?_
    show Steps p.tables e below (s₁.setTop (mkF m 1 #[.val (.ref tz)] [(.ref tz)])) _
    refine st31 _ ?_
    show Steps p.tables e below (T31.setTop (mkF m 4 #[.val (.ref tz)] [(.int tz_drawsOver)])) _
    exact retN X31 hx (t := .boolean) Bd.returns (by simp) (hb hby d11_4) hr
  · show Q11 Z tz tz_drawsOver h0 n0 _ T31.heap _
    rw [e31]
    exact ⟨rfl, N0, rfl⟩
theorem d9_0 : decode prog_5_method_12_code 0 = .ok (.aload_n 0, 1) := by decide +kernel
theorem d9_1 : decode prog_5_method_12_code 1 = .ok (.getfield 23, 3) := by decide +kernel
theorem d9_4 : decode prog_5_method_12_code 4 = .ok (.ireturn, 1) := by decide +kernel
theorem ef9 (m : MethodId) (tz : Addr) : entryFrame m #[(.ref tz)] 1 = mkF m 0 #[.val (.ref tz)] [] := by first | (simp [entryFrame, mkF, argsToLocals, Value.category]; done) | rfl
def Q9 (Z : State) (tz : Addr) (tz_over : Int32) (h0 : Heap) (n0 : Nat) (v : Option Value) (h : Heap) (L : List Loc) : Prop := v = some (.int (tz_over &&& (1 : Int32))) ∧ Fr n0 L ∧ h = h0
set_option maxRecDepth 65536 in
set_option maxHeartbeats 40000000 in
theorem rm9 (l : Launch) (Z : State) (a0 : Array Value) (hw : ∀ d ∈ tables_1, d.before a0 Z = true) (ws : List Jvm.Cond) (tz : Addr) (tz_over : Int32) (h0 : Heap) (n0 : Nat) (Z0 : n0 ≤ h0.size) (O0 : Old Z n0 h0) (F_tz_over : Fld Z h0 tz "com/example/headmast/headmast/HandOver" "over" "Z" (.int tz_over)) :
    MetFree l (⟨"com/example/headmast/headmast/HandOver", "over", "()Z"⟩ : MethodName) (head1 (Jvm.Cond.code (⟨"com/example/headmast/headmast/HandOver", "over", "()Z"⟩ : MethodName) prog_5_method_12_code 1 (some .boolean) :: ws) ({ frames := 0, cells := 0, slots := 0, locals := 0 } : Room)) (fun a U => a = #[(.ref tz)] ∧ Z.Warmed39 U.vm ∧ U.heap = h0) (fun _ _ _ _ _ => True) (fun _ U o U' => ∃ v L, o = .returned v ∧ Q9 Z tz tz_over h0 n0 v U'.heap L ∧ FrameEnd U o U' L ({ frames := 0, cells := 0, slots := 0, locals := 0 } : Room).cells ({ frames := 0, cells := 0, slots := 0, locals := 0 } : Room).slots) := by
  refine MetFree.of_bodySF (plainFor_of_name pn_com_example_headmast_headmast_HandOver) hisR ?_
  intro p e s m args below meth c s₁ Bd hml0 hP hK
  obtain ⟨rfl, hZ, hh⟩ := hP
  have hx := Bd.exec
  have hby := Bd.bytes
  have hml : c.maxLocals = 1 := hml0
  have hown : s.vm.findClass "com/example/headmast/headmast/HandOver" = some m.cls := findClass_of_methodNamed Bd.named
  have hnm := (name_of_methodNamed Bd.named Bd.method).1
  have X0 : Stand p l e ({ frames := 0, cells := 0, slots := 0, locals := 0 } : Room) s m #[(.ref tz)] below meth c s₁ [] 0 0 := Stand.of_body Bd
  have e0 : s₁.heap = h0 := by rw [← hh, Bd.state]; rfl
  have N0 := Fr.nil n0
  have K0 : Keep h0 h0 [] := Keep.refl _ _
  have pre0 : ∀ t, Steps p.tables e below (s₁.setTop (mkF m 0 #[.val (.ref tz)] [])) t → Steps p.tables e below (s₁.setTop (entryFrame m #[(.ref tz)] 1)) t := fun t k => castTop (ef9 m tz) k
  obtain ⟨T32, X32, e32, st32⟩ := getF X0 hx hZ hown (host := "") (Or.inl (hw _ (List.mem_of_getElem? (i := 33) rfl))) Via.refl e0 F_tz_over (g := (mkF m 1 #[.val (.ref tz)] [(.ref tz)])) rfl rfl (hb hby d9_1)
  obtain ⟨fs, hr, hrun, hended, hW, hsame⟩ := X32.leave (v := some (.int (tz_over &&& (1 : Int32)))) (fun h => by rw [Bd.returns] at h; cases h)
  refine ⟨_, _, pre0 _ ?_, hrun, hended, _, _, rfl, ?_, ⟨_, rfl⟩, hW, hsame.mono (by decide) (by decide)⟩
  · show Steps p.tables e below (s₁.setTop (mkF m 0 #[.val (.ref tz)] [])) _
    refine XS.aloadN X0.here hx rfl (hb hby d9_0) rfl rfl ?_
    show Steps p.tables e below (s₁.setTop (mkF m 1 #[.val (.ref tz)] [(.ref tz)])) _
    refine st32 _ ?_
    show Steps p.tables e below (T32.setTop (mkF m 4 #[.val (.ref tz)] [(.int tz_over)])) _
    exact retN X32 hx (t := .boolean) Bd.returns (by simp) (hb hby d9_4) hr
  · show Q9 Z tz tz_over h0 n0 _ T32.heap _
    rw [e32]
    exact ⟨rfl, N0, rfl⟩
theorem d7_0 : decode prog_5_method_2_code 0 = .ok (.aload_n 0, 1) := by decide +kernel
theorem d7_1 : decode prog_5_method_2_code 1 = .ok (.invokevirtual 27, 3) := by decide +kernel
theorem d7_4 : decode prog_5_method_2_code 4 = .ok (.ifCond .ge 7, 3) := by decide +kernel
theorem d7_7 : decode prog_5_method_2_code 7 = .ok (.iconst 1, 1) := by decide +kernel
theorem d7_8 : decode prog_5_method_2_code 8 = .ok (.goto 4, 3) := by decide +kernel
theorem d7_12 : decode prog_5_method_2_code 12 = .ok (.istore 4, 2) := by decide +kernel
theorem d7_14 : decode prog_5_method_2_code 14 = .ok (.aload_n 2, 1) := by decide +kernel
theorem pd_2 : parseMethodDescriptor "()Z" = some ⟨[], some .boolean⟩ := by decide +kernel
theorem d7_15 : decode prog_5_method_2_code 15 = .ok (.invokevirtual 33, 3) := by decide +kernel
theorem d7_18 : decode prog_5_method_2_code 18 = .ok (.ifCond .eq 10, 3) := by decide +kernel
theorem d7_28 : decode prog_5_method_2_code 28 = .ok (.iconst 0, 1) := by decide +kernel
theorem d7_29 : decode prog_5_method_2_code 29 = .ok (.istore 5, 2) := by decide +kernel
theorem d7_31 : decode prog_5_method_2_code 31 = .ok (.iload 4, 2) := by decide +kernel
theorem d7_33 : decode prog_5_method_2_code 33 = .ok (.ifCond .eq 29, 3) := by decide +kernel
theorem d7_36 : decode prog_5_method_2_code 36 = .ok (.iload_n 3, 1) := by decide +kernel
theorem d7_37 : decode prog_5_method_2_code 37 = .ok (.ifCond .ne 10, 3) := by decide +kernel
theorem d7_40 : decode prog_5_method_2_code 40 = .ok (.aload_n 2, 1) := by decide +kernel
theorem d7_41 : decode prog_5_method_2_code 41 = .ok (.invokevirtual 39, 3) := by decide +kernel
theorem d7_44 : decode prog_5_method_2_code 44 = .ok (.ifCond .eq 18, 3) := by decide +kernel
theorem d7_62 : decode prog_5_method_2_code 62 = .ok (.sipush 255, 3) := by decide +kernel
theorem d7_65 : decode prog_5_method_2_code 65 = .ok (.istore 6, 2) := by decide +kernel
theorem d7_67 : decode prog_5_method_2_code 67 = .ok (.new 8, 3) := by decide +kernel
theorem d7_70 : decode prog_5_method_2_code 70 = .ok (.dup, 1) := by decide +kernel
theorem d7_71 : decode prog_5_method_2_code 71 = .ok (.aload_n 0, 1) := by decide +kernel
theorem d7_72 : decode prog_5_method_2_code 72 = .ok (.iload_n 1, 1) := by decide +kernel
theorem d7_73 : decode prog_5_method_2_code 73 = .ok (.iload 5, 2) := by decide +kernel
theorem d7_75 : decode prog_5_method_2_code 75 = .ok (.iload 6, 2) := by decide +kernel
theorem d7_77 : decode prog_5_method_2_code 77 = .ok (.iload 4, 2) := by decide +kernel
theorem d7_79 : decode prog_5_method_2_code 79 = .ok (.ifCond .eq 14, 3) := by decide +kernel
theorem d7_82 : decode prog_5_method_2_code 82 = .ok (.aload_n 2, 1) := by decide +kernel
theorem d7_83 : decode prog_5_method_2_code 83 = .ok (.invokevirtual 42, 3) := by decide +kernel
theorem d7_86 : decode prog_5_method_2_code 86 = .ok (.ifCond .eq 7, 3) := by decide +kernel
theorem d7_89 : decode prog_5_method_2_code 89 = .ok (.iconst 1, 1) := by decide +kernel
theorem d7_90 : decode prog_5_method_2_code 90 = .ok (.goto 4, 3) := by decide +kernel
theorem pd_3 : parseMethodDescriptor "(Lcom/example/headmast/headmast/Pin;IIIZ)V" = some ⟨[(.object "com/example/headmast/headmast/Pin"), .int, .int, .int, .boolean], none⟩ := by decide +kernel
theorem d7_94 : decode prog_5_method_2_code 94 = .ok (.invokespecial 45, 3) := by decide +kernel
theorem d7_97 : decode prog_5_method_2_code 97 = .ok (.areturn, 1) := by decide +kernel
theorem d7_11 : decode prog_5_method_2_code 11 = .ok (.iconst 0, 1) := by decide +kernel
theorem d7_93 : decode prog_5_method_2_code 93 = .ok (.iconst 0, 1) := by decide +kernel
theorem ef7 (m : MethodId) (x1 : Addr) (x2 : Int32) (x3 : Addr) : entryFrame m #[(.ref x1), (.int x2), (.ref x3), (.int (0 : Int32))] 7 = mkF m 0 #[.val (.ref x1), .val (.int x2), .val (.ref x3), .val (.int (0 : Int32)), .unset, .unset, .unset] [] := by first | (simp [entryFrame, mkF, argsToLocals, Value.category]; done) | rfl
def Q7 (Z : State) (x1 : Addr) (x2 : Int32) (x3 : Addr) (x1_push : Int32) (h0 : Heap) (n0 : Nat) (v : Option Value) (h : Heap) (L : List Loc) : Prop := ∃ (b : Addr), v = some (.ref b) ∧ Fr n0 L ∧ Keep h0 h [] ∧ h0.size ≤ b ∧ Exa Z h b "com/example/headmast/headmast/HandOver" ∧ Fld Z h b "com/example/headmast/headmast/HandOver" "pin" "Lcom/example/headmast/headmast/Pin;" (.ref x1) ∧ Fld Z h b "com/example/headmast/headmast/HandOver" "over" "Z" (.int (own_b (x1_push < (0 : Int32))))
set_option maxRecDepth 65536 in
set_option maxHeartbeats 40000000 in
theorem rm7 (l : Launch) (Z : State) (a0 : Array Value) (hw : ∀ d ∈ tables_1, d.before a0 Z = true) (ws : List Jvm.Cond) (x1 : Addr) (x2 : Int32) (x3 : Addr) (x1_push : Int32) (h0 : Heap) (n0 : Nat) (Z0 : n0 ≤ h0.size) (O0 : Old Z n0 h0) (F_x3_followsPush : Fld Z h0 x3 "com/example/headmast/headmast/HandOverStyle" "followsPush" "Z" (.int (0 : Int32))) (F_x3_fades : Fld Z h0 x3 "com/example/headmast/headmast/HandOverStyle" "fades" "Z" (.int (0 : Int32))) (F_x3_drawsOver : Fld Z h0 x3 "com/example/headmast/headmast/HandOverStyle" "drawsOver" "Z" (.int (1 : Int32))) (F_x1_push : Fld Z h0 x1 "com/example/headmast/headmast/Pin" "push" "I" (.int x1_push)) (E_x1 : Exa Z h0 x1 "com/example/headmast/headmast/Pin") (E_x3 : Exa Z h0 x3 "com/example/headmast/headmast/HandOverStyle") :
    MetFree l (⟨"com/example/headmast/headmast/HandOver", "of", "(Lcom/example/headmast/headmast/Pin;ILcom/example/headmast/headmast/HandOverStyle;Z)Lcom/example/headmast/headmast/HandOver;"⟩ : MethodName) (head1 (Jvm.Cond.code (⟨"com/example/headmast/headmast/HandOver", "of", "(Lcom/example/headmast/headmast/Pin;ILcom/example/headmast/headmast/HandOverStyle;Z)Lcom/example/headmast/headmast/HandOver;"⟩ : MethodName) prog_5_method_2_code 7 (some (.object "com/example/headmast/headmast/HandOver")) :: ws) ({ frames := 3, cells := 1, slots := 5, locals := 42 } : Room)) (fun a U => a = #[(.ref x1), (.int x2), (.ref x3), (.int (0 : Int32))] ∧ Z.Warmed39 U.vm ∧ U.heap = h0) (fun _ _ _ _ _ => True) (fun _ U o U' => ∃ v L, o = .returned v ∧ Q7 Z x1 x2 x3 x1_push h0 n0 v U'.heap L ∧ FrameEnd U o U' L ({ frames := 3, cells := 1, slots := 5, locals := 42 } : Room).cells ({ frames := 3, cells := 1, slots := 5, locals := 42 } : Room).slots) := by
  refine MetFree.of_bodySF (plainFor_of_name pn_com_example_headmast_headmast_HandOver) hisR ?_
  intro p e s m args below meth c s₁ Bd hml0 hP hK
  obtain ⟨rfl, hZ, hh⟩ := hP
  have hx := Bd.exec
  have hby := Bd.bytes
  have hml : c.maxLocals = 7 := hml0
  have hown : s.vm.findClass "com/example/headmast/headmast/HandOver" = some m.cls := findClass_of_methodNamed Bd.named
  have hnm := (name_of_methodNamed Bd.named Bd.method).1
  have X0 : Stand p l e ({ frames := 3, cells := 1, slots := 5, locals := 42 } : Room) s m #[(.ref x1), (.int x2), (.ref x3), (.int (0 : Int32))] below meth c s₁ [] 0 0 := Stand.of_body Bd
  have e0 : s₁.heap = h0 := by rw [← hh, Bd.state]; rfl
  have N0 := Fr.nil n0
  have K0 : Keep h0 h0 [] := Keep.refl _ _
  have pre0 : ∀ t, Steps p.tables e below (s₁.setTop (mkF m 0 #[.val (.ref x1), .val (.int x2), .val (.ref x3), .val (.int (0 : Int32)), .unset, .unset, .unset] [])) t → Steps p.tables e below (s₁.setTop (entryFrame m #[(.ref x1), (.int x2), (.ref x3), (.int (0 : Int32))] 7)) t := fun t k => castTop (ef7 m x1 x2 x3) k
  obtain ⟨cq33, kq33, q33a, q33b, q33c⟩ := isOf hZ e0 E_x1
  obtain ⟨_, _, ⟨T33, L33, k33, n33⟩, -, X33, ⟨Lc33, hQ33, l33, y33, z33⟩, st33⟩ := X0.virtualBack hx (y := (⟨"com/example/headmast/headmast/Pin", "push", "()I"⟩ : MethodName)) (z := (⟨"com/example/headmast/headmast/Pin", "push", "()I"⟩ : MethodName)) hown (mvT hZ (hw _ (List.mem_of_getElem? (i := 40) rfl))) (mvT hZ (hw _ (List.mem_of_getElem? (i := 41) rfl))) (notFace_of_selects (args := #[]) (mvT hZ (hw _ (List.mem_of_getElem? (i := 43) rfl)))) (mvT hZ (hw _ (List.mem_of_getElem? (i := 43) rfl))) (mvT hZ (hw _ (List.mem_of_getElem? (i := 42) rfl))) (by decide) (backOf (W := 0) (rm6 l Z a0 hw [] x1 x1_push h0 n0 Z0 O0 F_x1_push) hZ (hw _ (List.mem_of_getElem? (i := 44) rfl)) (hw _ (List.mem_of_getElem? (i := 2) rfl)) (by decide) (by decide)) q33a q33c (g := (mkF m 1 #[.val (.ref x1), .val (.int x2), .val (.ref x3), .val (.int (0 : Int32)), .unset, .unset, .unset] [(.ref x1)])) rfl (by rw [hml]; rfl) (Steps.refl _) (argsL := []) (rest := []) (lenOf pd_1 rfl) rfl (by show 2 * 0 + _ ≤ _; exact Nat.le_of_eq rfl) (hb hby d7_1) (fun _ _ => ⟨rfl, e0, (by decide : 0 + 0 ≤ _), (by decide : 0 + 0 ≤ _)⟩)
  dsimp only [Pt.U, Pt.locs, Pt.cells, Pt.slots] at X33 l33 y33 z33 st33 hQ33
  subst l33 y33 z33
  obtain ⟨rfl, N33q, eh33⟩ := hQ33
  have N33 := Fr.app N0 N33q
  have pre34 : ∀ t, Steps p.tables e below (T33.setTop (mkF m 4 #[.val (.ref x1), .val (.int x2), .val (.ref x3), .val (.int (0 : Int32)), .unset, .unset, .unset] [(.int x1_push)])) t → Steps p.tables e below (s₁.setTop (entryFrame m #[(.ref x1), (.int x2), (.ref x3), (.int (0 : Int32))] 7)) t := by
    intro t kt
    refine pre0 t ?_
    show Steps p.tables e below (s₁.setTop (mkF m 0 #[.val (.ref x1), .val (.int x2), .val (.ref x3), .val (.int (0 : Int32)), .unset, .unset, .unset] [])) _
    refine XS.aloadN X0.here hx rfl (hb hby d7_0) rfl rfl ?_
    show Steps p.tables e below (s₁.setTop (mkF m 1 #[.val (.ref x1), .val (.int x2), .val (.ref x3), .val (.int (0 : Int32)), .unset, .unset, .unset] [(.ref x1)])) _
    refine st33.trans ?_
    exact kt
  by_cases hc4 : x1_push < (0 : Int32)
  · skip
    obtain ⟨cq35, kq35, q35a, q35b, q35c⟩ := isOf hZ eh33 E_x3
    obtain ⟨_, _, ⟨T35, L35, k35, n35⟩, -, X35, ⟨Lc35, hQ35, l35, y35, z35⟩, st35⟩ := X33.virtualBack hx (y := (⟨"com/example/headmast/headmast/HandOverStyle", "followsPush", "()Z"⟩ : MethodName)) (z := (⟨"com/example/headmast/headmast/HandOverStyle", "followsPush", "()Z"⟩ : MethodName)) hown (mvT hZ (hw _ (List.mem_of_getElem? (i := 51) rfl))) (mvT hZ (hw _ (List.mem_of_getElem? (i := 52) rfl))) (notFace_of_selects (args := #[]) (mvT hZ (hw _ (List.mem_of_getElem? (i := 54) rfl)))) (mvT hZ (hw _ (List.mem_of_getElem? (i := 54) rfl))) (mvT hZ (hw _ (List.mem_of_getElem? (i := 53) rfl))) (by decide) (backOf (W := 0) (rm8 l Z a0 hw [] x3 (0 : Int32) h0 n0 Z0 O0 F_x3_followsPush) hZ (hw _ (List.mem_of_getElem? (i := 55) rfl)) (hw _ (List.mem_of_getElem? (i := 46) rfl)) (by decide) (by decide)) q35a q35c (g := (mkF m 15 #[.val (.ref x1), .val (.int x2), .val (.ref x3), .val (.int (0 : Int32)), .val (.int (1 : Int32)), .unset, .unset] [(.ref x3)])) rfl (by rw [hml]; rfl) (Steps.refl _) (argsL := []) (rest := []) (lenOf pd_2 rfl) rfl (by show 2 * 0 + _ ≤ _; exact Nat.le_of_eq rfl) (hb hby d7_15) (fun _ _ => ⟨rfl, eh33, (by decide : 0 + 0 ≤ _), (by decide : 0 + 0 ≤ _)⟩)
    dsimp only [Pt.U, Pt.locs, Pt.cells, Pt.slots] at X35 l35 y35 z35 st35 hQ35
    subst l35 y35 z35
    obtain ⟨rfl, N35q, eh35⟩ := hQ35
    have N35 := Fr.app N33 N35q
    obtain ⟨cq36, kq36, q36a, q36b, q36c⟩ := isOf hZ eh35 E_x3
    obtain ⟨_, _, ⟨T36, L36, k36, n36⟩, -, X36, ⟨Lc36, hQ36, l36, y36, z36⟩, st36⟩ := X35.virtualBack hx (y := (⟨"com/example/headmast/headmast/HandOverStyle", "fades", "()Z"⟩ : MethodName)) (z := (⟨"com/example/headmast/headmast/HandOverStyle", "fades", "()Z"⟩ : MethodName)) hown (mvT hZ (hw _ (List.mem_of_getElem? (i := 65) rfl))) (mvT hZ (hw _ (List.mem_of_getElem? (i := 66) rfl))) (notFace_of_selects (args := #[]) (mvT hZ (hw _ (List.mem_of_getElem? (i := 68) rfl)))) (mvT hZ (hw _ (List.mem_of_getElem? (i := 68) rfl))) (mvT hZ (hw _ (List.mem_of_getElem? (i := 67) rfl))) (by decide) (backOf (W := 0) (rm10 l Z a0 hw [] x3 (0 : Int32) h0 n0 Z0 O0 F_x3_fades) hZ (hw _ (List.mem_of_getElem? (i := 69) rfl)) (hw _ (List.mem_of_getElem? (i := 46) rfl)) (by decide) (by decide)) q36a q36c (g := (mkF m 41 #[.val (.ref x1), .val (.int x2), .val (.ref x3), .val (.int (0 : Int32)), .val (.int (1 : Int32)), .val (.int (0 : Int32)), .unset] [(.ref x3)])) rfl (by rw [hml]; rfl) (Steps.refl _) (argsL := []) (rest := []) (lenOf pd_2 rfl) rfl (by show 2 * 0 + _ ≤ _; exact Nat.le_of_eq rfl) (hb hby d7_41) (fun _ _ => ⟨rfl, eh35, (by decide : 0 + 0 ≤ _), (by decide : 0 + 0 ≤ _)⟩)
    dsimp only [Pt.U, Pt.locs, Pt.cells, Pt.slots] at X36 l36 y36 z36 st36 hQ36
    subst l36 y36 z36
    obtain ⟨rfl, N36q, eh36⟩ := hQ36
    have N36 := Fr.app N35 N36q
    obtain ⟨T37, h37, X37, e37, E37, A37, D37, U37, st37⟩ := newO X36 hx hZ hown (hw _ (List.mem_of_getElem? (i := 58) rfl)) (hw _ (List.mem_of_getElem? (i := 19) rfl)) (hw _ (List.mem_of_getElem? (i := 20) rfl)) eh36 (g := (mkF m 67 #[.val (.ref x1), .val (.int x2), .val (.ref x3), .val (.int (0 : Int32)), .val (.int (1 : Int32)), .val (.int (0 : Int32)), .val (.int (255 : Int32))] [])) rfl (hb hby d7_67) (by decide) (by decide)
    obtain ⟨b37, g37⟩ : ∃ z, z = h0.size := ⟨_, rfl⟩
    rw [← g37] at A37 D37 st37
    have O37 : Old Z n0 h37 := O0.ext E37
    have Z37 : n0 ≤ h37.size := Nat.le_trans Z0 E37.1
    have K37 : Keep h0 h37 [] := K0.ext E37
    have g_b37 : n0 ≤ b37 := Nat.le_trans Z0 (Nat.le_of_eq g37.symm)
    have sz_b37 : h0.size ≤ b37 := Nat.le_trans K0.1 (Nat.le_of_eq g37.symm)
    have F_b37_pin : Fld Z h37 b37 "com/example/headmast/headmast/HandOver" "pin" "Lcom/example/headmast/headmast/Pin;" .null := D37 (Or.inr (hw _ (List.mem_of_getElem? (i := 26) rfl))) (ty := (.object "com/example/headmast/headmast/Pin")) (by decide)
    have F_b37_headerHeight : Fld Z h37 b37 "com/example/headmast/headmast/HandOver" "headerHeight" "I" (.int (0 : Int32)) := D37 (Or.inr (hw _ (List.mem_of_getElem? (i := 28) rfl))) (ty := .int) (by decide)
    have F_b37_pinned : Fld Z h37 b37 "com/example/headmast/headmast/HandOver" "pinned" "I" (.int (0 : Int32)) := D37 (Or.inr (hw _ (List.mem_of_getElem? (i := 30) rfl))) (ty := .int) (by decide)
    have F_b37_alpha : Fld Z h37 b37 "com/example/headmast/headmast/HandOver" "alpha" "I" (.int (0 : Int32)) := D37 (Or.inr (hw _ (List.mem_of_getElem? (i := 32) rfl))) (ty := .int) (by decide)
    have F_b37_over : Fld Z h37 b37 "com/example/headmast/headmast/HandOver" "over" "Z" (.int (0 : Int32)) := D37 (Or.inr (hw _ (List.mem_of_getElem? (i := 34) rfl))) (ty := .boolean) (by decide)
    have F38 : Fld Z h37 x3 "com/example/headmast/headmast/HandOverStyle" "drawsOver" "Z" (.int (1 : Int32)) := (F_x3_drawsOver.ext E37)
    have C40 : Exa Z h37 x3 "com/example/headmast/headmast/HandOverStyle" := (E_x3.ext E37)
    obtain ⟨cq39, kq39, q39a, q39b, q39c⟩ := isOf hZ e37 C40
    obtain ⟨_, _, ⟨T39, L39, k39, n39⟩, -, X39, ⟨Lc39, hQ39, l39, y39, z39⟩, st39⟩ := X37.virtualBack hx (y := (⟨"com/example/headmast/headmast/HandOverStyle", "drawsOver", "()Z"⟩ : MethodName)) (z := (⟨"com/example/headmast/headmast/HandOverStyle", "drawsOver", "()Z"⟩ : MethodName)) hown (mvT hZ (hw _ (List.mem_of_getElem? (i := 72) rfl))) (mvT hZ (hw _ (List.mem_of_getElem? (i := 73) rfl))) (notFace_of_selects (args := #[]) (mvT hZ (hw _ (List.mem_of_getElem? (i := 75) rfl)))) (mvT hZ (hw _ (List.mem_of_getElem? (i := 75) rfl))) (mvT hZ (hw _ (List.mem_of_getElem? (i := 74) rfl))) (by decide) (backOf (W := 6) (rm11 l Z a0 hw [] x3 (1 : Int32) h37 n0 Z37 O37 F38) hZ (hw _ (List.mem_of_getElem? (i := 76) rfl)) (hw _ (List.mem_of_getElem? (i := 46) rfl)) (by decide) (by decide)) q39a q39c (g := (mkF m 83 #[.val (.ref x1), .val (.int x2), .val (.ref x3), .val (.int (0 : Int32)), .val (.int (1 : Int32)), .val (.int (0 : Int32)), .val (.int (255 : Int32))] [(.ref x3), (.int (255 : Int32)), (.int (0 : Int32)), (.int x2), (.ref x1), (.ref b37), (.ref b37)])) rfl (by rw [hml]; rfl) (Steps.refl _) (argsL := []) (rest := [(.int (255 : Int32)), (.int (0 : Int32)), (.int x2), (.ref x1), (.ref b37), (.ref b37)]) (lenOf pd_2 rfl) rfl (by show 2 * 0 + _ ≤ _; exact Nat.le_of_eq rfl) (hb hby d7_83) (fun _ _ => ⟨rfl, e37, (by decide : 1 + 0 ≤ _), (by decide : 5 + 0 ≤ _)⟩)
    dsimp only [Pt.U, Pt.locs, Pt.cells, Pt.slots] at X39 l39 y39 z39 st39 hQ39
    subst l39 y39 z39
    obtain ⟨rfl, N39q, eh39⟩ := hQ39
    have N39 := Fr.app N36 N39q
    obtain ⟨_, _, ⟨T41, L41, k41, n41⟩, -, X41, ⟨Lc41, hQ41, l41, y41, z41⟩, st41⟩ := X39.specialBack hx (y := (⟨"com/example/headmast/headmast/HandOver", "<init>", "(Lcom/example/headmast/headmast/Pin;IIIZ)V"⟩ : MethodName)) rfl hown (mvT hZ (hw _ (List.mem_of_getElem? (i := 59) rfl))) (mvT hZ (hw _ (List.mem_of_getElem? (i := 22) rfl))) (mvT hZ (hw _ (List.mem_of_getElem? (i := 23) rfl))) (by decide) (backOf (W := 1) (rm4 l Z a0 hw [] b37 x1 x2 (0 : Int32) (255 : Int32) (1 : Int32) .null (.int (0 : Int32)) (.int (0 : Int32)) (.int (0 : Int32)) (.int (0 : Int32)) h37 n0 Z37 O37 A37 F_b37_pin g_b37 F_b37_headerHeight F_b37_pinned F_b37_alpha F_b37_over) hZ (hw _ (List.mem_of_getElem? (i := 23) rfl)) (hw _ (List.mem_of_getElem? (i := 20) rfl)) (by decide) (by decide)) (g := (mkF m 94 #[.val (.ref x1), .val (.int x2), .val (.ref x3), .val (.int (0 : Int32)), .val (.int (1 : Int32)), .val (.int (0 : Int32)), .val (.int (255 : Int32))] [(.int (1 : Int32)), (.int (255 : Int32)), (.int (0 : Int32)), (.int x2), (.ref x1), (.ref b37), (.ref b37)])) rfl (by rw [hml]; rfl) (Steps.refl _) (a := b37) (argsL := [(.ref x1), (.int x2), (.int (0 : Int32)), (.int (255 : Int32)), (.int (1 : Int32))]) (rest := [(.ref b37)]) (lenOf pd_3 rfl) rfl (by show 2 * 0 + _ ≤ _; exact Nat.le_of_eq rfl) (hb hby d7_94) (fun _ _ => ⟨rfl, eh39, (by decide : 1 + 0 ≤ _), (by decide : 5 + 0 ≤ _)⟩)
    dsimp only [Pt.U, Pt.locs, Pt.cells, Pt.slots] at X41 l41 y41 z41 st41 hQ41
    subst l41 y41 z41
    obtain ⟨rfl, N41q, KK41, Q41_0, Q41_1, Q41_2⟩ := hQ41
    have N41 := Fr.app N39 N41q
    have O41 : Old Z n0 T41.heap := O37.keep KK41 (allS g_b37 all0)
    have Z41 : n0 ≤ T41.heap.size := Nat.le_trans Z37 KK41.1
    have K41 : Keep h0 T41.heap [] := K37.trans KK41 (allS (Or.inr sz_b37) all0)
    obtain ⟨fs, hr, hrun, hended, hW, hsame⟩ := X41.leave (v := some (.ref b37)) (fun h => by rw [Bd.returns] at h; cases h)
    refine ⟨_, _, pre34 _ ?_, hrun, hended, _, _, rfl, ?_, ⟨_, rfl⟩, hW, hsame.mono (by decide) (by decide)⟩
    · show Steps p.tables e below (T33.setTop (mkF m 4 #[.val (.ref x1), .val (.int x2), .val (.ref x3), .val (.int (0 : Int32)), .unset, .unset, .unset] [(.int x1_push)])) _
      refine XS.ifNo X33.here hx rfl (hb hby d7_4) rfl ((if0 _ _).trans (tlt hc4).2.1) ?_
      show Steps p.tables e below (T33.setTop (mkF m 7 #[.val (.ref x1), .val (.int x2), .val (.ref x3), .val (.int (0 : Int32)), .unset, .unset, .unset] [])) _
      refine XS.iconst X33.here hx rfl (hb hby d7_7) ?_
      show Steps p.tables e below (T33.setTop (mkF m 8 #[.val (.ref x1), .val (.int x2), .val (.ref x3), .val (.int (0 : Int32)), .unset, .unset, .unset] [(.int (1 : Int32))])) _
      refine XS.goto X33.here hx rfl (pc0 := 8) (pc' := 12) rfl (hb hby d7_8) (by decide) (by decide) ?_
      show Steps p.tables e below (T33.setTop (mkF m 12 #[.val (.ref x1), .val (.int x2), .val (.ref x3), .val (.int (0 : Int32)), .unset, .unset, .unset] [(.int (1 : Int32))])) _
      refine XS.istore X33.here hx rfl (hb hby d7_12) rfl (l' := #[.val (.ref x1), .val (.int x2), .val (.ref x3), .val (.int (0 : Int32)), .val (.int (1 : Int32)), .unset, .unset]) rfl ?_
      show Steps p.tables e below (T33.setTop (mkF m 14 #[.val (.ref x1), .val (.int x2), .val (.ref x3), .val (.int (0 : Int32)), .val (.int (1 : Int32)), .unset, .unset] [])) _
      refine XS.aloadN X33.here hx rfl (hb hby d7_14) rfl rfl ?_
      show Steps p.tables e below (T33.setTop (mkF m 15 #[.val (.ref x1), .val (.int x2), .val (.ref x3), .val (.int (0 : Int32)), .val (.int (1 : Int32)), .unset, .unset] [(.ref x3)])) _
      refine st35.trans ?_
      show Steps p.tables e below (T35.setTop (mkF m 18 #[.val (.ref x1), .val (.int x2), .val (.ref x3), .val (.int (0 : Int32)), .val (.int (1 : Int32)), .unset, .unset] [(.int ((0 : Int32) &&& (1 : Int32)))])) _
      refine XS.ifYes X35.here hx rfl (pc0 := 18) (pc' := 28) rfl (hb hby d7_18) rfl ((if0 _ _).trans (teq (by decide : ((0 : Int32) &&& (1 : Int32)) = (0 : Int32))).1) (by decide) (by decide) ?_
      show Steps p.tables e below (T35.setTop (mkF m 28 #[.val (.ref x1), .val (.int x2), .val (.ref x3), .val (.int (0 : Int32)), .val (.int (1 : Int32)), .unset, .unset] [])) _
      refine XS.iconst X35.here hx rfl (hb hby d7_28) ?_
      show Steps p.tables e below (T35.setTop (mkF m 29 #[.val (.ref x1), .val (.int x2), .val (.ref x3), .val (.int (0 : Int32)), .val (.int (1 : Int32)), .unset, .unset] [(.int (0 : Int32))])) _
      refine XS.istore X35.here hx rfl (hb hby d7_29) rfl (l' := #[.val (.ref x1), .val (.int x2), .val (.ref x3), .val (.int (0 : Int32)), .val (.int (1 : Int32)), .val (.int (0 : Int32)), .unset]) rfl ?_
      show Steps p.tables e below (T35.setTop (mkF m 31 #[.val (.ref x1), .val (.int x2), .val (.ref x3), .val (.int (0 : Int32)), .val (.int (1 : Int32)), .val (.int (0 : Int32)), .unset] [])) _
      refine XS.iload X35.here hx rfl (hb hby d7_31) rfl ?_
      show Steps p.tables e below (T35.setTop (mkF m 33 #[.val (.ref x1), .val (.int x2), .val (.ref x3), .val (.int (0 : Int32)), .val (.int (1 : Int32)), .val (.int (0 : Int32)), .unset] [(.int (1 : Int32))])) _
      refine XS.ifNo X35.here hx rfl (hb hby d7_33) rfl ((if0 _ _).trans (feq (by decide : ¬ ((1 : Int32) = (0 : Int32)))).1) ?_
      show Steps p.tables e below (T35.setTop (mkF m 36 #[.val (.ref x1), .val (.int x2), .val (.ref x3), .val (.int (0 : Int32)), .val (.int (1 : Int32)), .val (.int (0 : Int32)), .unset] [])) _
      refine XS.iloadN X35.here hx rfl (hb hby d7_36) rfl ?_
      show Steps p.tables e below (T35.setTop (mkF m 37 #[.val (.ref x1), .val (.int x2), .val (.ref x3), .val (.int (0 : Int32)), .val (.int (1 : Int32)), .val (.int (0 : Int32)), .unset] [(.int (0 : Int32))])) _
      refine XS.ifNo X35.here hx rfl (hb hby d7_37) rfl ((if0 _ _).trans (teq (by decide : (0 : Int32) = (0 : Int32))).2) ?_
      show Steps p.tables e below (T35.setTop (mkF m 40 #[.val (.ref x1), .val (.int x2), .val (.ref x3), .val (.int (0 : Int32)), .val (.int (1 : Int32)), .val (.int (0 : Int32)), .unset] [])) _
      refine XS.aloadN X35.here hx rfl (hb hby d7_40) rfl rfl ?_
      show Steps p.tables e below (T35.setTop (mkF m 41 #[.val (.ref x1), .val (.int x2), .val (.ref x3), .val (.int (0 : Int32)), .val (.int (1 : Int32)), .val (.int (0 : Int32)), .unset] [(.ref x3)])) _
      refine st36.trans ?_
      show Steps p.tables e below (T36.setTop (mkF m 44 #[.val (.ref x1), .val (.int x2), .val (.ref x3), .val (.int (0 : Int32)), .val (.int (1 : Int32)), .val (.int (0 : Int32)), .unset] [(.int ((0 : Int32) &&& (1 : Int32)))])) _
      refine XS.ifYes X36.here hx rfl (pc0 := 44) (pc' := 62) rfl (hb hby d7_44) rfl ((if0 _ _).trans (teq (by decide : ((0 : Int32) &&& (1 : Int32)) = (0 : Int32))).1) (by decide) (by decide) ?_
      show Steps p.tables e below (T36.setTop (mkF m 62 #[.val (.ref x1), .val (.int x2), .val (.ref x3), .val (.int (0 : Int32)), .val (.int (1 : Int32)), .val (.int (0 : Int32)), .unset] [])) _
      refine XS.sipush X36.here hx rfl (hb hby d7_62) ?_
      show Steps p.tables e below (T36.setTop (mkF m 65 #[.val (.ref x1), .val (.int x2), .val (.ref x3), .val (.int (0 : Int32)), .val (.int (1 : Int32)), .val (.int (0 : Int32)), .unset] [(.int (255 : Int32))])) _
      refine XS.istore X36.here hx rfl (hb hby d7_65) rfl (l' := #[.val (.ref x1), .val (.int x2), .val (.ref x3), .val (.int (0 : Int32)), .val (.int (1 : Int32)), .val (.int (0 : Int32)), .val (.int (255 : Int32))]) rfl ?_
      show Steps p.tables e below (T36.setTop (mkF m 67 #[.val (.ref x1), .val (.int x2), .val (.ref x3), .val (.int (0 : Int32)), .val (.int (1 : Int32)), .val (.int (0 : Int32)), .val (.int (255 : Int32))] [])) _
      refine st37 _ ?_
      show Steps p.tables e below (T37.setTop (mkF m 70 #[.val (.ref x1), .val (.int x2), .val (.ref x3), .val (.int (0 : Int32)), .val (.int (1 : Int32)), .val (.int (0 : Int32)), .val (.int (255 : Int32))] [(.ref b37)])) _
      refine XS.dup X37.here hx rfl (hb hby d7_70) rfl rfl ?_
      show Steps p.tables e below (T37.setTop (mkF m 71 #[.val (.ref x1), .val (.int x2), .val (.ref x3), .val (.int (0 : Int32)), .val (.int (1 : Int32)), .val (.int (0 : Int32)), .val (.int (255 : Int32))] [(.ref b37), (.ref b37)])) _
      refine XS.aloadN X37.here hx rfl (hb hby d7_71) rfl rfl ?_
      show Steps p.tables e below (T37.setTop (mkF m 72 #[.val (.ref x1), .val (.int x2), .val (.ref x3), .val (.int (0 : Int32)), .val (.int (1 : Int32)), .val (.int (0 : Int32)), .val (.int (255 : Int32))] [(.ref x1), (.ref b37), (.ref b37)])) _
      refine XS.iloadN X37.here hx rfl (hb hby d7_72) rfl ?_
      show Steps p.tables e below (T37.setTop (mkF m 73 #[.val (.ref x1), .val (.int x2), .val (.ref x3), .val (.int (0 : Int32)), .val (.int (1 : Int32)), .val (.int (0 : Int32)), .val (.int (255 : Int32))] [(.int x2), (.ref x1), (.ref b37), (.ref b37)])) _
      refine XS.iload X37.here hx rfl (hb hby d7_73) rfl ?_
      show Steps p.tables e below (T37.setTop (mkF m 75 #[.val (.ref x1), .val (.int x2), .val (.ref x3), .val (.int (0 : Int32)), .val (.int (1 : Int32)), .val (.int (0 : Int32)), .val (.int (255 : Int32))] [(.int (0 : Int32)), (.int x2), (.ref x1), (.ref b37), (.ref b37)])) _
      refine XS.iload X37.here hx rfl (hb hby d7_75) rfl ?_
      show Steps p.tables e below (T37.setTop (mkF m 77 #[.val (.ref x1), .val (.int x2), .val (.ref x3), .val (.int (0 : Int32)), .val (.int (1 : Int32)), .val (.int (0 : Int32)), .val (.int (255 : Int32))] [(.int (255 : Int32)), (.int (0 : Int32)), (.int x2), (.ref x1), (.ref b37), (.ref b37)])) _
      refine XS.iload X37.here hx rfl (hb hby d7_77) rfl ?_
      show Steps p.tables e below (T37.setTop (mkF m 79 #[.val (.ref x1), .val (.int x2), .val (.ref x3), .val (.int (0 : Int32)), .val (.int (1 : Int32)), .val (.int (0 : Int32)), .val (.int (255 : Int32))] [(.int (1 : Int32)), (.int (255 : Int32)), (.int (0 : Int32)), (.int x2), (.ref x1), (.ref b37), (.ref b37)])) _
      refine XS.ifNo X37.here hx rfl (hb hby d7_79) rfl ((if0 _ _).trans (feq (by decide : ¬ ((1 : Int32) = (0 : Int32)))).1) ?_
      show Steps p.tables e below (T37.setTop (mkF m 82 #[.val (.ref x1), .val (.int x2), .val (.ref x3), .val (.int (0 : Int32)), .val (.int (1 : Int32)), .val (.int (0 : Int32)), .val (.int (255 : Int32))] [(.int (255 : Int32)), (.int (0 : Int32)), (.int x2), (.ref x1), (.ref b37), (.ref b37)])) _
      refine XS.aloadN X37.here hx rfl (hb hby d7_82) rfl rfl ?_
      show Steps p.tables e below (T37.setTop (mkF m 83 #[.val (.ref x1), .val (.int x2), .val (.ref x3), .val (.int (0 : Int32)), .val (.int (1 : Int32)), .val (.int (0 : Int32)), .val (.int (255 : Int32))] [(.ref x3), (.int (255 : Int32)), (.int (0 : Int32)), (.int x2), (.ref x1), (.ref b37), (.ref b37)])) _
      refine st39.trans ?_
      show Steps p.tables e below (T39.setTop (mkF m 86 #[.val (.ref x1), .val (.int x2), .val (.ref x3), .val (.int (0 : Int32)), .val (.int (1 : Int32)), .val (.int (0 : Int32)), .val (.int (255 : Int32))] [(.int ((1 : Int32) &&& (1 : Int32))), (.int (255 : Int32)), (.int (0 : Int32)), (.int x2), (.ref x1), (.ref b37), (.ref b37)])) _
      refine XS.ifNo X39.here hx rfl (hb hby d7_86) rfl ((if0 _ _).trans (feq (by decide : ¬ (((1 : Int32) &&& (1 : Int32)) = (0 : Int32)))).1) ?_
      show Steps p.tables e below (T39.setTop (mkF m 89 #[.val (.ref x1), .val (.int x2), .val (.ref x3), .val (.int (0 : Int32)), .val (.int (1 : Int32)), .val (.int (0 : Int32)), .val (.int (255 : Int32))] [(.int (255 : Int32)), (.int (0 : Int32)), (.int x2), (.ref x1), (.ref b37), (.ref b37)])) _
      refine XS.iconst X39.here hx rfl (hb hby d7_89) ?_
      show Steps p.tables e below (T39.setTop (mkF m 90 #[.val (.ref x1), .val (.int x2), .val (.ref x3), .val (.int (0 : Int32)), .val (.int (1 : Int32)), .val (.int (0 : Int32)), .val (.int (255 : Int32))] [(.int (1 : Int32)), (.int (255 : Int32)), (.int (0 : Int32)), (.int x2), (.ref x1), (.ref b37), (.ref b37)])) _
      refine XS.goto X39.here hx rfl (pc0 := 90) (pc' := 94) rfl (hb hby d7_90) (by decide) (by decide) ?_
      show Steps p.tables e below (T39.setTop (mkF m 94 #[.val (.ref x1), .val (.int x2), .val (.ref x3), .val (.int (0 : Int32)), .val (.int (1 : Int32)), .val (.int (0 : Int32)), .val (.int (255 : Int32))] [(.int (1 : Int32)), (.int (255 : Int32)), (.int (0 : Int32)), (.int x2), (.ref x1), (.ref b37), (.ref b37)])) _
      refine st41.trans ?_
      show Steps p.tables e below (T41.setTop (mkF m 97 #[.val (.ref x1), .val (.int x2), .val (.ref x3), .val (.int (0 : Int32)), .val (.int (1 : Int32)), .val (.int (0 : Int32)), .val (.int (255 : Int32))] [(.ref b37)])) _
      jvm_step X41.here [X41.here.top, hx, (hb hby d7_97), X41.method', Bd.returns, Value.isRef, FieldType.isReference]
      first | (intro acts; rw [hr _ acts rfl rfl rfl]) | rw [hr _ _ rfl rfl rfl]
      exact Steps.refl _
    · show Q7 Z x1 x2 x3 x1_push h0 n0 _ T41.heap _
      exact ⟨b37, rfl, N41, K41, sz_b37, Q41_0, Q41_1, (by rw [own_bt hc4]; exact Q41_2)⟩
  · skip
    obtain ⟨cq42, kq42, q42a, q42b, q42c⟩ := isOf hZ eh33 E_x3
    obtain ⟨_, _, ⟨T42, L42, k42, n42⟩, -, X42, ⟨Lc42, hQ42, l42, y42, z42⟩, st42⟩ := X33.virtualBack hx (y := (⟨"com/example/headmast/headmast/HandOverStyle", "followsPush", "()Z"⟩ : MethodName)) (z := (⟨"com/example/headmast/headmast/HandOverStyle", "followsPush", "()Z"⟩ : MethodName)) hown (mvT hZ (hw _ (List.mem_of_getElem? (i := 51) rfl))) (mvT hZ (hw _ (List.mem_of_getElem? (i := 52) rfl))) (notFace_of_selects (args := #[]) (mvT hZ (hw _ (List.mem_of_getElem? (i := 54) rfl)))) (mvT hZ (hw _ (List.mem_of_getElem? (i := 54) rfl))) (mvT hZ (hw _ (List.mem_of_getElem? (i := 53) rfl))) (by decide) (backOf (W := 0) (rm8 l Z a0 hw [] x3 (0 : Int32) h0 n0 Z0 O0 F_x3_followsPush) hZ (hw _ (List.mem_of_getElem? (i := 55) rfl)) (hw _ (List.mem_of_getElem? (i := 46) rfl)) (by decide) (by decide)) q42a q42c (g := (mkF m 15 #[.val (.ref x1), .val (.int x2), .val (.ref x3), .val (.int (0 : Int32)), .val (.int (0 : Int32)), .unset, .unset] [(.ref x3)])) rfl (by rw [hml]; rfl) (Steps.refl _) (argsL := []) (rest := []) (lenOf pd_2 rfl) rfl (by show 2 * 0 + _ ≤ _; exact Nat.le_of_eq rfl) (hb hby d7_15) (fun _ _ => ⟨rfl, eh33, (by decide : 0 + 0 ≤ _), (by decide : 0 + 0 ≤ _)⟩)
    dsimp only [Pt.U, Pt.locs, Pt.cells, Pt.slots] at X42 l42 y42 z42 st42 hQ42
    subst l42 y42 z42
    obtain ⟨rfl, N42q, eh42⟩ := hQ42
    have N42 := Fr.app N33 N42q
    obtain ⟨T43, h43, X43, e43, E43, A43, D43, U43, st43⟩ := newO X42 hx hZ hown (hw _ (List.mem_of_getElem? (i := 58) rfl)) (hw _ (List.mem_of_getElem? (i := 19) rfl)) (hw _ (List.mem_of_getElem? (i := 20) rfl)) eh42 (g := (mkF m 67 #[.val (.ref x1), .val (.int x2), .val (.ref x3), .val (.int (0 : Int32)), .val (.int (0 : Int32)), .val (.int (0 : Int32)), .val (.int (255 : Int32))] [])) rfl (hb hby d7_67) (by decide) (by decide)
    obtain ⟨b43, g43⟩ : ∃ z, z = h0.size := ⟨_, rfl⟩
    rw [← g43] at A43 D43 st43
    have O43 : Old Z n0 h43 := O0.ext E43
    have Z43 : n0 ≤ h43.size := Nat.le_trans Z0 E43.1
    have K43 : Keep h0 h43 [] := K0.ext E43
    have g_b43 : n0 ≤ b43 := Nat.le_trans Z0 (Nat.le_of_eq g43.symm)
    have sz_b43 : h0.size ≤ b43 := Nat.le_trans K0.1 (Nat.le_of_eq g43.symm)
    have F_b43_pin : Fld Z h43 b43 "com/example/headmast/headmast/HandOver" "pin" "Lcom/example/headmast/headmast/Pin;" .null := D43 (Or.inr (hw _ (List.mem_of_getElem? (i := 26) rfl))) (ty := (.object "com/example/headmast/headmast/Pin")) (by decide)
    have F_b43_headerHeight : Fld Z h43 b43 "com/example/headmast/headmast/HandOver" "headerHeight" "I" (.int (0 : Int32)) := D43 (Or.inr (hw _ (List.mem_of_getElem? (i := 28) rfl))) (ty := .int) (by decide)
    have F_b43_pinned : Fld Z h43 b43 "com/example/headmast/headmast/HandOver" "pinned" "I" (.int (0 : Int32)) := D43 (Or.inr (hw _ (List.mem_of_getElem? (i := 30) rfl))) (ty := .int) (by decide)
    have F_b43_alpha : Fld Z h43 b43 "com/example/headmast/headmast/HandOver" "alpha" "I" (.int (0 : Int32)) := D43 (Or.inr (hw _ (List.mem_of_getElem? (i := 32) rfl))) (ty := .int) (by decide)
    have F_b43_over : Fld Z h43 b43 "com/example/headmast/headmast/HandOver" "over" "Z" (.int (0 : Int32)) := D43 (Or.inr (hw _ (List.mem_of_getElem? (i := 34) rfl))) (ty := .boolean) (by decide)
    obtain ⟨_, _, ⟨T44, L44, k44, n44⟩, -, X44, ⟨Lc44, hQ44, l44, y44, z44⟩, st44⟩ := X43.specialBack hx (y := (⟨"com/example/headmast/headmast/HandOver", "<init>", "(Lcom/example/headmast/headmast/Pin;IIIZ)V"⟩ : MethodName)) rfl hown (mvT hZ (hw _ (List.mem_of_getElem? (i := 59) rfl))) (mvT hZ (hw _ (List.mem_of_getElem? (i := 22) rfl))) (mvT hZ (hw _ (List.mem_of_getElem? (i := 23) rfl))) (by decide) (backOf (W := 1) (rm4 l Z a0 hw [] b43 x1 x2 (0 : Int32) (255 : Int32) (0 : Int32) .null (.int (0 : Int32)) (.int (0 : Int32)) (.int (0 : Int32)) (.int (0 : Int32)) h43 n0 Z43 O43 A43 F_b43_pin g_b43 F_b43_headerHeight F_b43_pinned F_b43_alpha F_b43_over) hZ (hw _ (List.mem_of_getElem? (i := 23) rfl)) (hw _ (List.mem_of_getElem? (i := 20) rfl)) (by decide) (by decide)) (g := (mkF m 94 #[.val (.ref x1), .val (.int x2), .val (.ref x3), .val (.int (0 : Int32)), .val (.int (0 : Int32)), .val (.int (0 : Int32)), .val (.int (255 : Int32))] [(.int (0 : Int32)), (.int (255 : Int32)), (.int (0 : Int32)), (.int x2), (.ref x1), (.ref b43), (.ref b43)])) rfl (by rw [hml]; rfl) (Steps.refl _) (a := b43) (argsL := [(.ref x1), (.int x2), (.int (0 : Int32)), (.int (255 : Int32)), (.int (0 : Int32))]) (rest := [(.ref b43)]) (lenOf pd_3 rfl) rfl (by show 2 * 0 + _ ≤ _; exact Nat.le_of_eq rfl) (hb hby d7_94) (fun _ _ => ⟨rfl, e43, (by decide : 1 + 0 ≤ _), (by decide : 5 + 0 ≤ _)⟩)
    dsimp only [Pt.U, Pt.locs, Pt.cells, Pt.slots] at X44 l44 y44 z44 st44 hQ44
    subst l44 y44 z44
    obtain ⟨rfl, N44q, KK44, Q44_0, Q44_1, Q44_2⟩ := hQ44
    have N44 := Fr.app N42 N44q
    have O44 : Old Z n0 T44.heap := O43.keep KK44 (allS g_b43 all0)
    have Z44 : n0 ≤ T44.heap.size := Nat.le_trans Z43 KK44.1
    have K44 : Keep h0 T44.heap [] := K43.trans KK44 (allS (Or.inr sz_b43) all0)
    obtain ⟨fs, hr, hrun, hended, hW, hsame⟩ := X44.leave (v := some (.ref b43)) (fun h => by rw [Bd.returns] at h; cases h)
    refine ⟨_, _, pre34 _ ?_, hrun, hended, _, _, rfl, ?_, ⟨_, rfl⟩, hW, hsame.mono (by decide) (by decide)⟩
    · show Steps p.tables e below (T33.setTop (mkF m 4 #[.val (.ref x1), .val (.int x2), .val (.ref x3), .val (.int (0 : Int32)), .unset, .unset, .unset] [(.int x1_push)])) _
      refine XS.ifYes X33.here hx rfl (pc0 := 4) (pc' := 11) rfl (hb hby d7_4) rfl ((if0 _ _).trans (flt hc4).2.1) (by decide) (by decide) ?_
      show Steps p.tables e below (T33.setTop (mkF m 11 #[.val (.ref x1), .val (.int x2), .val (.ref x3), .val (.int (0 : Int32)), .unset, .unset, .unset] [])) _
      refine XS.iconst X33.here hx rfl (hb hby d7_11) ?_
      show Steps p.tables e below (T33.setTop (mkF m 12 #[.val (.ref x1), .val (.int x2), .val (.ref x3), .val (.int (0 : Int32)), .unset, .unset, .unset] [(.int (0 : Int32))])) _
      refine XS.istore X33.here hx rfl (hb hby d7_12) rfl (l' := #[.val (.ref x1), .val (.int x2), .val (.ref x3), .val (.int (0 : Int32)), .val (.int (0 : Int32)), .unset, .unset]) rfl ?_
      show Steps p.tables e below (T33.setTop (mkF m 14 #[.val (.ref x1), .val (.int x2), .val (.ref x3), .val (.int (0 : Int32)), .val (.int (0 : Int32)), .unset, .unset] [])) _
      refine XS.aloadN X33.here hx rfl (hb hby d7_14) rfl rfl ?_
      show Steps p.tables e below (T33.setTop (mkF m 15 #[.val (.ref x1), .val (.int x2), .val (.ref x3), .val (.int (0 : Int32)), .val (.int (0 : Int32)), .unset, .unset] [(.ref x3)])) _
      refine st42.trans ?_
      show Steps p.tables e below (T42.setTop (mkF m 18 #[.val (.ref x1), .val (.int x2), .val (.ref x3), .val (.int (0 : Int32)), .val (.int (0 : Int32)), .unset, .unset] [(.int ((0 : Int32) &&& (1 : Int32)))])) _
      refine XS.ifYes X42.here hx rfl (pc0 := 18) (pc' := 28) rfl (hb hby d7_18) rfl ((if0 _ _).trans (teq (by decide : ((0 : Int32) &&& (1 : Int32)) = (0 : Int32))).1) (by decide) (by decide) ?_
      show Steps p.tables e below (T42.setTop (mkF m 28 #[.val (.ref x1), .val (.int x2), .val (.ref x3), .val (.int (0 : Int32)), .val (.int (0 : Int32)), .unset, .unset] [])) _
      refine XS.iconst X42.here hx rfl (hb hby d7_28) ?_
      show Steps p.tables e below (T42.setTop (mkF m 29 #[.val (.ref x1), .val (.int x2), .val (.ref x3), .val (.int (0 : Int32)), .val (.int (0 : Int32)), .unset, .unset] [(.int (0 : Int32))])) _
      refine XS.istore X42.here hx rfl (hb hby d7_29) rfl (l' := #[.val (.ref x1), .val (.int x2), .val (.ref x3), .val (.int (0 : Int32)), .val (.int (0 : Int32)), .val (.int (0 : Int32)), .unset]) rfl ?_
      show Steps p.tables e below (T42.setTop (mkF m 31 #[.val (.ref x1), .val (.int x2), .val (.ref x3), .val (.int (0 : Int32)), .val (.int (0 : Int32)), .val (.int (0 : Int32)), .unset] [])) _
      refine XS.iload X42.here hx rfl (hb hby d7_31) rfl ?_
      show Steps p.tables e below (T42.setTop (mkF m 33 #[.val (.ref x1), .val (.int x2), .val (.ref x3), .val (.int (0 : Int32)), .val (.int (0 : Int32)), .val (.int (0 : Int32)), .unset] [(.int (0 : Int32))])) _
      refine XS.ifYes X42.here hx rfl (pc0 := 33) (pc' := 62) rfl (hb hby d7_33) rfl ((if0 _ _).trans (teq (by decide : (0 : Int32) = (0 : Int32))).1) (by decide) (by decide) ?_
      show Steps p.tables e below (T42.setTop (mkF m 62 #[.val (.ref x1), .val (.int x2), .val (.ref x3), .val (.int (0 : Int32)), .val (.int (0 : Int32)), .val (.int (0 : Int32)), .unset] [])) _
      refine XS.sipush X42.here hx rfl (hb hby d7_62) ?_
      show Steps p.tables e below (T42.setTop (mkF m 65 #[.val (.ref x1), .val (.int x2), .val (.ref x3), .val (.int (0 : Int32)), .val (.int (0 : Int32)), .val (.int (0 : Int32)), .unset] [(.int (255 : Int32))])) _
      refine XS.istore X42.here hx rfl (hb hby d7_65) rfl (l' := #[.val (.ref x1), .val (.int x2), .val (.ref x3), .val (.int (0 : Int32)), .val (.int (0 : Int32)), .val (.int (0 : Int32)), .val (.int (255 : Int32))]) rfl ?_
      show Steps p.tables e below (T42.setTop (mkF m 67 #[.val (.ref x1), .val (.int x2), .val (.ref x3), .val (.int (0 : Int32)), .val (.int (0 : Int32)), .val (.int (0 : Int32)), .val (.int (255 : Int32))] [])) _
      refine st43 _ ?_
      show Steps p.tables e below (T43.setTop (mkF m 70 #[.val (.ref x1), .val (.int x2), .val (.ref x3), .val (.int (0 : Int32)), .val (.int (0 : Int32)), .val (.int (0 : Int32)), .val (.int (255 : Int32))] [(.ref b43)])) _
      refine XS.dup X43.here hx rfl (hb hby d7_70) rfl rfl ?_
      show Steps p.tables e below (T43.setTop (mkF m 71 #[.val (.ref x1), .val (.int x2), .val (.ref x3), .val (.int (0 : Int32)), .val (.int (0 : Int32)), .val (.int (0 : Int32)), .val (.int (255 : Int32))] [(.ref b43), (.ref b43)])) _
      refine XS.aloadN X43.here hx rfl (hb hby d7_71) rfl rfl ?_
      show Steps p.tables e below (T43.setTop (mkF m 72 #[.val (.ref x1), .val (.int x2), .val (.ref x3), .val (.int (0 : Int32)), .val (.int (0 : Int32)), .val (.int (0 : Int32)), .val (.int (255 : Int32))] [(.ref x1), (.ref b43), (.ref b43)])) _
      refine XS.iloadN X43.here hx rfl (hb hby d7_72) rfl ?_
      show Steps p.tables e below (T43.setTop (mkF m 73 #[.val (.ref x1), .val (.int x2), .val (.ref x3), .val (.int (0 : Int32)), .val (.int (0 : Int32)), .val (.int (0 : Int32)), .val (.int (255 : Int32))] [(.int x2), (.ref x1), (.ref b43), (.ref b43)])) _
      refine XS.iload X43.here hx rfl (hb hby d7_73) rfl ?_
      show Steps p.tables e below (T43.setTop (mkF m 75 #[.val (.ref x1), .val (.int x2), .val (.ref x3), .val (.int (0 : Int32)), .val (.int (0 : Int32)), .val (.int (0 : Int32)), .val (.int (255 : Int32))] [(.int (0 : Int32)), (.int x2), (.ref x1), (.ref b43), (.ref b43)])) _
      refine XS.iload X43.here hx rfl (hb hby d7_75) rfl ?_
      show Steps p.tables e below (T43.setTop (mkF m 77 #[.val (.ref x1), .val (.int x2), .val (.ref x3), .val (.int (0 : Int32)), .val (.int (0 : Int32)), .val (.int (0 : Int32)), .val (.int (255 : Int32))] [(.int (255 : Int32)), (.int (0 : Int32)), (.int x2), (.ref x1), (.ref b43), (.ref b43)])) _
      refine XS.iload X43.here hx rfl (hb hby d7_77) rfl ?_
      show Steps p.tables e below (T43.setTop (mkF m 79 #[.val (.ref x1), .val (.int x2), .val (.ref x3), .val (.int (0 : Int32)), .val (.int (0 : Int32)), .val (.int (0 : Int32)), .val (.int (255 : Int32))] [(.int (0 : Int32)), (.int (255 : Int32)), (.int (0 : Int32)), (.int x2), (.ref x1), (.ref b43), (.ref b43)])) _
      refine XS.ifYes X43.here hx rfl (pc0 := 79) (pc' := 93) rfl (hb hby d7_79) rfl ((if0 _ _).trans (teq (by decide : (0 : Int32) = (0 : Int32))).1) (by decide) (by decide) ?_
      show Steps p.tables e below (T43.setTop (mkF m 93 #[.val (.ref x1), .val (.int x2), .val (.ref x3), .val (.int (0 : Int32)), .val (.int (0 : Int32)), .val (.int (0 : Int32)), .val (.int (255 : Int32))] [(.int (255 : Int32)), (.int (0 : Int32)), (.int x2), (.ref x1), (.ref b43), (.ref b43)])) _
      refine XS.iconst X43.here hx rfl (hb hby d7_93) ?_
      show Steps p.tables e below (T43.setTop (mkF m 94 #[.val (.ref x1), .val (.int x2), .val (.ref x3), .val (.int (0 : Int32)), .val (.int (0 : Int32)), .val (.int (0 : Int32)), .val (.int (255 : Int32))] [(.int (0 : Int32)), (.int (255 : Int32)), (.int (0 : Int32)), (.int x2), (.ref x1), (.ref b43), (.ref b43)])) _
      refine st44.trans ?_
      show Steps p.tables e below (T44.setTop (mkF m 97 #[.val (.ref x1), .val (.int x2), .val (.ref x3), .val (.int (0 : Int32)), .val (.int (0 : Int32)), .val (.int (0 : Int32)), .val (.int (255 : Int32))] [(.ref b43)])) _
      jvm_step X44.here [X44.here.top, hx, (hb hby d7_97), X44.method', Bd.returns, Value.isRef, FieldType.isReference]
      first | (intro acts; rw [hr _ acts rfl rfl rfl]) | rw [hr _ _ rfl rfl rfl]
      exact Steps.refl _
    · show Q7 Z x1 x2 x3 x1_push h0 n0 _ T44.heap _
      exact ⟨b43, rfl, N44, K44, sz_b43, Q44_0, Q44_1, (by rw [own_bf hc4]; exact Q44_2)⟩
theorem pd_4 : parseMethodDescriptor "(II)V" = some ⟨[.int, .int], none⟩ := by decide +kernel
theorem pd_5 : parseMethodDescriptor "(Lcom/example/headmast/headmast/Pin;ILcom/example/headmast/headmast/HandOverStyle;Z)Lcom/example/headmast/headmast/HandOver;" = some ⟨[(.object "com/example/headmast/headmast/Pin"), .int, (.object "com/example/headmast/headmast/HandOverStyle"), .boolean], some (.object "com/example/headmast/headmast/HandOver")⟩ := by decide +kernel
theorem pn_com_example_headmast_headmast_HandOverInFlightPinLaw : plainName "com/example/headmast/headmast/HandOverInFlightPinLaw" = true := by first | (simp [plainName, overriddenIn]; done) | decide +kernel
theorem ef0 (m : MethodId) (x1 : Int32) (x2 : Int32) (x3 : Int32) (x4 : Int32) (x5 : Int32) (x6 : Int32) : entryFrame m #[(.int x1), (.int x2), (.int x3), (.int x4), (.int x5), (.int x6)] maxLocals = mkF m 0 #[.val (.int x1), .val (.int x2), .val (.int x3), .val (.int x4), .val (.int x5), .val (.int x6), .unset, .unset, .unset, .unset, .unset] [] := by first | (simp [entryFrame, mkF, argsToLocals, Value.category, maxLocals]; done) | rfl
def Q0 (Z : State) (x1 : Int32) (x2 : Int32) (x3 : Int32) (x4 : Int32) (x5 : Int32) (x6 : Int32) (st_COVER : Addr) (h0 : Heap) (n0 : Nat) (v : Option Value) (h : Heap) (L : List Loc) : Prop := v = some (.int (1 : Int32)) ∧ Fr n0 L ∧ Keep h0 h []
set_option maxRecDepth 65536 in
set_option maxHeartbeats 40000000 in
theorem rm0 (l : Launch) (Z : State) (a0 : Array Value) (hw : ∀ d ∈ tables_1, d.before a0 Z = true) (ws : List Jvm.Cond) (x1 : Int32) (x2 : Int32) (x3 : Int32) (x4 : Int32) (x5 : Int32) (x6 : Int32) (st_COVER : Addr) (h0 : Heap) (n0 : Nat) (Z0 : n0 ≤ h0.size) (O0 : Old Z n0 h0) (S_COVER : Sta Z Z.heap "com/example/headmast/headmast/HandOverStyle" "COVER" "Lcom/example/headmast/headmast/HandOverStyle;" (.ref st_COVER)) (EZ_st_COVER : Exa Z Z.heap st_COVER "com/example/headmast/headmast/HandOverStyle") (FZ_st_COVER_followsPush : Fld Z Z.heap st_COVER "com/example/headmast/headmast/HandOverStyle" "followsPush" "Z" (.int (0 : Int32))) (FZ_st_COVER_fades : Fld Z Z.heap st_COVER "com/example/headmast/headmast/HandOverStyle" "fades" "Z" (.int (0 : Int32))) (FZ_st_COVER_drawsOver : Fld Z Z.heap st_COVER "com/example/headmast/headmast/HandOverStyle" "drawsOver" "Z" (.int (1 : Int32))) :
    MetFree l x (head1 (Jvm.Cond.code x code maxLocals ret :: ws) room_1) (fun a U => a = #[(.int x1), (.int x2), (.int x3), (.int x4), (.int x5), (.int x6)] ∧ Z.Warmed39 U.vm ∧ U.heap = h0) (fun _ _ _ _ _ => True) (fun _ U o U' => ∃ v L, o = .returned v ∧ Q0 Z x1 x2 x3 x4 x5 x6 st_COVER h0 n0 v U'.heap L ∧ FrameEnd U o U' L room_1.cells room_1.slots) := by
  refine MetFree.of_bodySF (plainFor_of_name pn_com_example_headmast_headmast_HandOverInFlightPinLaw) hisR ?_
  intro p e s m args below meth c s₁ Bd hml0 hP hK
  obtain ⟨rfl, hZ, hh⟩ := hP
  have hx := Bd.exec
  have hby := Bd.bytes
  have hml : c.maxLocals = 11 := hml0
  have hown : s.vm.findClass "com/example/headmast/headmast/HandOverInFlightPinLaw" = some m.cls := findClass_of_methodNamed Bd.named
  have hnm := (name_of_methodNamed Bd.named Bd.method).1
  have X0 : Stand p l e room_1 s m #[(.int x1), (.int x2), (.int x3), (.int x4), (.int x5), (.int x6)] below meth c s₁ [] 0 0 := Stand.of_body Bd
  have e0 : s₁.heap = h0 := by rw [← hh, Bd.state]; rfl
  have N0 := Fr.nil n0
  have K0 : Keep h0 h0 [] := Keep.refl _ _
  have pre0 : ∀ t, Steps p.tables e below (s₁.setTop (mkF m 0 #[.val (.int x1), .val (.int x2), .val (.int x3), .val (.int x4), .val (.int x5), .val (.int x6), .unset, .unset, .unset, .unset, .unset] [])) t → Steps p.tables e below (s₁.setTop (entryFrame m #[(.int x1), (.int x2), (.int x3), (.int x4), (.int x5), (.int x6)] maxLocals)) t := fun t k => castTop (ef0 m x1 x2 x3 x4 x5 x6) k
  have C45 : Exa Z h0 st_COVER "com/example/headmast/headmast/HandOverStyle" := EZ_st_COVER.ext O0.2
  have F46 : Fld Z h0 st_COVER "com/example/headmast/headmast/HandOverStyle" "followsPush" "Z" (.int (0 : Int32)) := FZ_st_COVER_followsPush.ext O0.2
  have F47 : Fld Z h0 st_COVER "com/example/headmast/headmast/HandOverStyle" "fades" "Z" (.int (0 : Int32)) := FZ_st_COVER_fades.ext O0.2
  have F48 : Fld Z h0 st_COVER "com/example/headmast/headmast/HandOverStyle" "drawsOver" "Z" (.int (1 : Int32)) := FZ_st_COVER_drawsOver.ext O0.2
  obtain ⟨ov_49, T49, L49, X49, e49, N49, k49⟩ : ∃ (ov_49 : Int32) (T49 : State) (L49 : List Loc), Stand p l e room_1 s m #[(.int x1), (.int x2), (.int x3), (.int x4), (.int x5), (.int x6)] below meth c T49 L49 0 0 ∧ T49.heap = h0 ∧ Fr n0 L49 ∧ ∀ t, Steps p.tables e below (T49.setTop (mkF m 14 #[.val (.int x1), .val (.int x2), .val (.int x3), .val (.int x4), .val (.int x5), .val (.int x6), .val (.int ov_49), .unset, .unset, .unset, .unset] [])) t → Steps p.tables e below (s₁.setTop (mkF m 0 #[.val (.int x1), .val (.int x2), .val (.int x3), .val (.int x4), .val (.int x5), .val (.int x6), .unset, .unset, .unset, .unset, .unset] [])) t := by
    have pj49 : ∀ t, Steps p.tables e below (s₁.setTop (mkF m 0 #[.val (.int x1), .val (.int x2), .val (.int x3), .val (.int x4), .val (.int x5), .val (.int x6), .unset, .unset, .unset, .unset, .unset] [])) t → Steps p.tables e below (s₁.setTop (mkF m 0 #[.val (.int x1), .val (.int x2), .val (.int x3), .val (.int x4), .val (.int x5), .val (.int x6), .unset, .unset, .unset, .unset, .unset] [])) t := fun _ k => k
    have pre50 : ∀ t, Steps p.tables e below (s₁.setTop (mkF m 4 #[.val (.int x1), .val (.int x2), .val (.int x3), .val (.int x4), .val (.int x5), .val (.int x6), .unset, .unset, .unset, .unset, .unset] [(.int (x6 &&& (1 : Int32)))])) t → Steps p.tables e below (s₁.setTop (mkF m 0 #[.val (.int x1), .val (.int x2), .val (.int x3), .val (.int x4), .val (.int x5), .val (.int x6), .unset, .unset, .unset, .unset, .unset] [])) t := by
      intro t kt
      refine pj49 t ?_
      show Steps p.tables e below (s₁.setTop (mkF m 0 #[.val (.int x1), .val (.int x2), .val (.int x3), .val (.int x4), .val (.int x5), .val (.int x6), .unset, .unset, .unset, .unset, .unset] [])) _
      refine XS.iload X0.here hx rfl (hb hby at_0) rfl ?_
      show Steps p.tables e below (s₁.setTop (mkF m 2 #[.val (.int x1), .val (.int x2), .val (.int x3), .val (.int x4), .val (.int x5), .val (.int x6), .unset, .unset, .unset, .unset, .unset] [(.int x6)])) _
      refine XS.iconst X0.here hx rfl (hb hby at_2) ?_
      show Steps p.tables e below (s₁.setTop (mkF m 3 #[.val (.int x1), .val (.int x2), .val (.int x3), .val (.int x4), .val (.int x5), .val (.int x6), .unset, .unset, .unset, .unset, .unset] [(.int (1 : Int32)), (.int x6)])) _
      refine XS.iand X0.here hx rfl (hb hby at_3) rfl ?_
      exact kt
    by_cases hc4 : (x6 &&& (1 : Int32)) = (0 : Int32)
    · skip
      have pre51 : ∀ t, Steps p.tables e below (s₁.setTop (mkF m 14 #[.val (.int x1), .val (.int x2), .val (.int x3), .val (.int x4), .val (.int x5), .val (.int x6), .val (.int (0 : Int32)), .unset, .unset, .unset, .unset] [])) t → Steps p.tables e below (s₁.setTop (mkF m 0 #[.val (.int x1), .val (.int x2), .val (.int x3), .val (.int x4), .val (.int x5), .val (.int x6), .unset, .unset, .unset, .unset, .unset] [])) t := by
        intro t kt
        refine pre50 t ?_
        show Steps p.tables e below (s₁.setTop (mkF m 4 #[.val (.int x1), .val (.int x2), .val (.int x3), .val (.int x4), .val (.int x5), .val (.int x6), .unset, .unset, .unset, .unset, .unset] [(.int (x6 &&& (1 : Int32)))])) _
        refine XS.ifYes X0.here hx rfl (pc0 := 4) (pc' := 11) rfl (hb hby at_4) rfl ((if0 _ _).trans (teq hc4).1) (by decide) (by decide) ?_
        show Steps p.tables e below (s₁.setTop (mkF m 11 #[.val (.int x1), .val (.int x2), .val (.int x3), .val (.int x4), .val (.int x5), .val (.int x6), .unset, .unset, .unset, .unset, .unset] [])) _
        refine XS.iconst X0.here hx rfl (hb hby at_11) ?_
        show Steps p.tables e below (s₁.setTop (mkF m 12 #[.val (.int x1), .val (.int x2), .val (.int x3), .val (.int x4), .val (.int x5), .val (.int x6), .unset, .unset, .unset, .unset, .unset] [(.int (0 : Int32))])) _
        refine XS.istore X0.here hx rfl (hb hby at_12) rfl (l' := #[.val (.int x1), .val (.int x2), .val (.int x3), .val (.int x4), .val (.int x5), .val (.int x6), .val (.int (0 : Int32)), .unset, .unset, .unset, .unset]) rfl ?_
        exact kt
      exact ⟨(0 : Int32), s₁, _, X0, e0, N0, pre51⟩
    · skip
      have pre52 : ∀ t, Steps p.tables e below (s₁.setTop (mkF m 14 #[.val (.int x1), .val (.int x2), .val (.int x3), .val (.int x4), .val (.int x5), .val (.int x6), .val (.int (1 : Int32)), .unset, .unset, .unset, .unset] [])) t → Steps p.tables e below (s₁.setTop (mkF m 0 #[.val (.int x1), .val (.int x2), .val (.int x3), .val (.int x4), .val (.int x5), .val (.int x6), .unset, .unset, .unset, .unset, .unset] [])) t := by
        intro t kt
        refine pre50 t ?_
        show Steps p.tables e below (s₁.setTop (mkF m 4 #[.val (.int x1), .val (.int x2), .val (.int x3), .val (.int x4), .val (.int x5), .val (.int x6), .unset, .unset, .unset, .unset, .unset] [(.int (x6 &&& (1 : Int32)))])) _
        refine XS.ifNo X0.here hx rfl (hb hby at_4) rfl ((if0 _ _).trans (feq hc4).1) ?_
        show Steps p.tables e below (s₁.setTop (mkF m 7 #[.val (.int x1), .val (.int x2), .val (.int x3), .val (.int x4), .val (.int x5), .val (.int x6), .unset, .unset, .unset, .unset, .unset] [])) _
        refine XS.iconst X0.here hx rfl (hb hby at_7) ?_
        show Steps p.tables e below (s₁.setTop (mkF m 8 #[.val (.int x1), .val (.int x2), .val (.int x3), .val (.int x4), .val (.int x5), .val (.int x6), .unset, .unset, .unset, .unset, .unset] [(.int (1 : Int32))])) _
        refine XS.goto X0.here hx rfl (pc0 := 8) (pc' := 12) rfl (hb hby at_8) (by decide) (by decide) ?_
        show Steps p.tables e below (s₁.setTop (mkF m 12 #[.val (.int x1), .val (.int x2), .val (.int x3), .val (.int x4), .val (.int x5), .val (.int x6), .unset, .unset, .unset, .unset, .unset] [(.int (1 : Int32))])) _
        refine XS.istore X0.here hx rfl (hb hby at_12) rfl (l' := #[.val (.int x1), .val (.int x2), .val (.int x3), .val (.int x4), .val (.int x5), .val (.int x6), .val (.int (1 : Int32)), .unset, .unset, .unset, .unset]) rfl ?_
        exact kt
      exact ⟨(1 : Int32), s₁, _, X0, e0, N0, pre52⟩
  obtain ⟨T53, h53, X53, e53, E53, A53, D53, U53, st53⟩ := newO X49 hx hZ hown (hw _ (List.mem_of_getElem? (i := 0) rfl)) (hw _ (List.mem_of_getElem? (i := 1) rfl)) (hw _ (List.mem_of_getElem? (i := 2) rfl)) e49 (g := (mkF m 14 #[.val (.int x1), .val (.int x2), .val (.int x3), .val (.int x4), .val (.int x5), .val (.int x6), .val (.int ov_49), .unset, .unset, .unset, .unset] [])) rfl (hb hby at_14) (by decide) (by decide)
  obtain ⟨b53, g53⟩ : ∃ z, z = h0.size := ⟨_, rfl⟩
  rw [← g53] at A53 D53 st53
  have O53 : Old Z n0 h53 := O0.ext E53
  have Z53 : n0 ≤ h53.size := Nat.le_trans Z0 E53.1
  have K53 : Keep h0 h53 [] := K0.ext E53
  have g_b53 : n0 ≤ b53 := Nat.le_trans Z0 (Nat.le_of_eq g53.symm)
  have sz_b53 : h0.size ≤ b53 := Nat.le_trans K0.1 (Nat.le_of_eq g53.symm)
  have F_b53_section : Fld Z h53 b53 "com/example/headmast/headmast/Pin" "section" "I" (.int (0 : Int32)) := D53 (Or.inr (hw _ (List.mem_of_getElem? (i := 15) rfl))) (ty := .int) (by decide)
  have F_b53_push : Fld Z h53 b53 "com/example/headmast/headmast/Pin" "push" "I" (.int (0 : Int32)) := D53 (Or.inr (hw _ (List.mem_of_getElem? (i := 17) rfl))) (ty := .int) (by decide)
  obtain ⟨_, _, ⟨T54, L54, k54, n54⟩, -, X54, ⟨Lc54, hQ54, l54, y54, z54⟩, st54⟩ := X53.specialBack hx (y := (⟨"com/example/headmast/headmast/Pin", "<init>", "(II)V"⟩ : MethodName)) rfl hown (mvT hZ (hw _ (List.mem_of_getElem? (i := 3) rfl))) (mvT hZ (hw _ (List.mem_of_getElem? (i := 4) rfl))) (mvT hZ (hw _ (List.mem_of_getElem? (i := 5) rfl))) (by decide) (backOf (W := 1) (rm1 l Z a0 hw [] b53 x1 x2 (.int (0 : Int32)) (.int (0 : Int32)) h53 n0 Z53 O53 A53 F_b53_section g_b53 F_b53_push) hZ (hw _ (List.mem_of_getElem? (i := 5) rfl)) (hw _ (List.mem_of_getElem? (i := 2) rfl)) (by decide) (by decide)) (g := (mkF m 20 #[.val (.int x1), .val (.int x2), .val (.int x3), .val (.int x4), .val (.int x5), .val (.int x6), .val (.int ov_49), .unset, .unset, .unset, .unset] [(.int x2), (.int x1), (.ref b53), (.ref b53)])) rfl (by rw [hml]; rfl) (Steps.refl _) (a := b53) (argsL := [(.int x1), (.int x2)]) (rest := [(.ref b53)]) (lenOf pd_4 rfl) rfl (by show 2 * 0 + _ ≤ _; exact Nat.le_of_eq rfl) (hb hby at_20) (fun _ _ => ⟨rfl, e53, (by decide : 1 + 0 ≤ _), (by decide : 2 + 0 ≤ _)⟩)
  dsimp only [Pt.U, Pt.locs, Pt.cells, Pt.slots] at X54 l54 y54 z54 st54 hQ54
  subst l54 y54 z54
  obtain ⟨rfl, N54q, KK54, Q54_0, Q54_1, Q54_2⟩ := hQ54
  have N54 := Fr.app N49 N54q
  have O54 : Old Z n0 T54.heap := O53.keep KK54 (allS g_b53 all0)
  have Z54 : n0 ≤ T54.heap.size := Nat.le_trans Z53 KK54.1
  have K54 : Keep h0 T54.heap [] := K53.trans KK54 (allS (Or.inr sz_b53) all0)
  obtain ⟨T55, h55, X55, e55, E55, A55, D55, U55, st55⟩ := newO X54 hx hZ hown (hw _ (List.mem_of_getElem? (i := 18) rfl)) (hw _ (List.mem_of_getElem? (i := 19) rfl)) (hw _ (List.mem_of_getElem? (i := 20) rfl)) rfl (g := (mkF m 25 #[.val (.int x1), .val (.int x2), .val (.int x3), .val (.int x4), .val (.int x5), .val (.int x6), .val (.int ov_49), .val (.ref b53), .unset, .unset, .unset] [])) rfl (hb hby at_25) (by decide) (by decide)
  obtain ⟨b55, g55⟩ : ∃ z, z = T54.heap.size := ⟨_, rfl⟩
  rw [← g55] at A55 D55 st55
  have O55 : Old Z n0 h55 := O54.ext E55
  have Z55 : n0 ≤ h55.size := Nat.le_trans Z54 E55.1
  have K55 : Keep h0 h55 [] := K54.ext E55
  have g_b55 : n0 ≤ b55 := Nat.le_trans Z54 (Nat.le_of_eq g55.symm)
  have sz_b55 : h0.size ≤ b55 := Nat.le_trans K54.1 (Nat.le_of_eq g55.symm)
  have F_b55_pin : Fld Z h55 b55 "com/example/headmast/headmast/HandOver" "pin" "Lcom/example/headmast/headmast/Pin;" .null := D55 (Or.inr (hw _ (List.mem_of_getElem? (i := 26) rfl))) (ty := (.object "com/example/headmast/headmast/Pin")) (by decide)
  have F_b55_headerHeight : Fld Z h55 b55 "com/example/headmast/headmast/HandOver" "headerHeight" "I" (.int (0 : Int32)) := D55 (Or.inr (hw _ (List.mem_of_getElem? (i := 28) rfl))) (ty := .int) (by decide)
  have F_b55_pinned : Fld Z h55 b55 "com/example/headmast/headmast/HandOver" "pinned" "I" (.int (0 : Int32)) := D55 (Or.inr (hw _ (List.mem_of_getElem? (i := 30) rfl))) (ty := .int) (by decide)
  have F_b55_alpha : Fld Z h55 b55 "com/example/headmast/headmast/HandOver" "alpha" "I" (.int (0 : Int32)) := D55 (Or.inr (hw _ (List.mem_of_getElem? (i := 32) rfl))) (ty := .int) (by decide)
  have F_b55_over : Fld Z h55 b55 "com/example/headmast/headmast/HandOver" "over" "Z" (.int (0 : Int32)) := D55 (Or.inr (hw _ (List.mem_of_getElem? (i := 34) rfl))) (ty := .boolean) (by decide)
  obtain ⟨_, _, ⟨T56, L56, k56, n56⟩, -, X56, ⟨Lc56, hQ56, l56, y56, z56⟩, st56⟩ := X55.specialBack hx (y := (⟨"com/example/headmast/headmast/HandOver", "<init>", "(Lcom/example/headmast/headmast/Pin;IIIZ)V"⟩ : MethodName)) rfl hown (mvT hZ (hw _ (List.mem_of_getElem? (i := 21) rfl))) (mvT hZ (hw _ (List.mem_of_getElem? (i := 22) rfl))) (mvT hZ (hw _ (List.mem_of_getElem? (i := 23) rfl))) (by decide) (backOf (W := 1) (rm4 l Z a0 hw [] b55 b53 x3 x4 x5 ov_49 .null (.int (0 : Int32)) (.int (0 : Int32)) (.int (0 : Int32)) (.int (0 : Int32)) h55 n0 Z55 O55 A55 F_b55_pin g_b55 F_b55_headerHeight F_b55_pinned F_b55_alpha F_b55_over) hZ (hw _ (List.mem_of_getElem? (i := 23) rfl)) (hw _ (List.mem_of_getElem? (i := 20) rfl)) (by decide) (by decide)) (g := (mkF m 37 #[.val (.int x1), .val (.int x2), .val (.int x3), .val (.int x4), .val (.int x5), .val (.int x6), .val (.int ov_49), .val (.ref b53), .unset, .unset, .unset] [(.int ov_49), (.int x5), (.int x4), (.int x3), (.ref b53), (.ref b55), (.ref b55)])) rfl (by rw [hml]; rfl) (Steps.refl _) (a := b55) (argsL := [(.ref b53), (.int x3), (.int x4), (.int x5), (.int ov_49)]) (rest := [(.ref b55)]) (lenOf pd_3 rfl) rfl (by show 2 * 0 + _ ≤ _; exact Nat.le_of_eq rfl) (hb hby at_37) (fun _ _ => ⟨rfl, e55, (by decide : 2 + 0 ≤ _), (by decide : 7 + 0 ≤ _)⟩)
  dsimp only [Pt.U, Pt.locs, Pt.cells, Pt.slots] at X56 l56 y56 z56 st56 hQ56
  subst l56 y56 z56
  obtain ⟨rfl, N56q, KK56, Q56_0, Q56_1, Q56_2⟩ := hQ56
  have N56 := Fr.app N54 N56q
  have O56 : Old Z n0 T56.heap := O55.keep KK56 (allS g_b55 all0)
  have Z56 : n0 ≤ T56.heap.size := Nat.le_trans Z55 KK56.1
  have K56 : Keep h0 T56.heap [] := K55.trans KK56 (allS (Or.inr sz_b55) all0)
  have pre57 : ∀ t, Steps p.tables e below (T56.setTop (mkF m 43 #[.val (.int x1), .val (.int x2), .val (.int x3), .val (.int x4), .val (.int x5), .val (.int x6), .val (.int ov_49), .val (.ref b53), .val (.ref b55), .unset, .unset] [(.int x2)])) t → Steps p.tables e below (s₁.setTop (entryFrame m #[(.int x1), (.int x2), (.int x3), (.int x4), (.int x5), (.int x6)] maxLocals)) t := by
    intro t kt
    refine pre0 t ?_
    show Steps p.tables e below (s₁.setTop (mkF m 0 #[.val (.int x1), .val (.int x2), .val (.int x3), .val (.int x4), .val (.int x5), .val (.int x6), .unset, .unset, .unset, .unset, .unset] [])) _
    refine k49 _ ?_
    show Steps p.tables e below (T49.setTop (mkF m 14 #[.val (.int x1), .val (.int x2), .val (.int x3), .val (.int x4), .val (.int x5), .val (.int x6), .val (.int ov_49), .unset, .unset, .unset, .unset] [])) _
    refine st53 _ ?_
    show Steps p.tables e below (T53.setTop (mkF m 17 #[.val (.int x1), .val (.int x2), .val (.int x3), .val (.int x4), .val (.int x5), .val (.int x6), .val (.int ov_49), .unset, .unset, .unset, .unset] [(.ref b53)])) _
    refine XS.dup X53.here hx rfl (hb hby at_17) rfl rfl ?_
    show Steps p.tables e below (T53.setTop (mkF m 18 #[.val (.int x1), .val (.int x2), .val (.int x3), .val (.int x4), .val (.int x5), .val (.int x6), .val (.int ov_49), .unset, .unset, .unset, .unset] [(.ref b53), (.ref b53)])) _
    refine XS.iloadN X53.here hx rfl (hb hby at_18) rfl ?_
    show Steps p.tables e below (T53.setTop (mkF m 19 #[.val (.int x1), .val (.int x2), .val (.int x3), .val (.int x4), .val (.int x5), .val (.int x6), .val (.int ov_49), .unset, .unset, .unset, .unset] [(.int x1), (.ref b53), (.ref b53)])) _
    refine XS.iloadN X53.here hx rfl (hb hby at_19) rfl ?_
    show Steps p.tables e below (T53.setTop (mkF m 20 #[.val (.int x1), .val (.int x2), .val (.int x3), .val (.int x4), .val (.int x5), .val (.int x6), .val (.int ov_49), .unset, .unset, .unset, .unset] [(.int x2), (.int x1), (.ref b53), (.ref b53)])) _
    refine st54.trans ?_
    show Steps p.tables e below (T54.setTop (mkF m 23 #[.val (.int x1), .val (.int x2), .val (.int x3), .val (.int x4), .val (.int x5), .val (.int x6), .val (.int ov_49), .unset, .unset, .unset, .unset] [(.ref b53)])) _
    refine XS.astore X54.here hx rfl (hb hby at_23) rfl rfl (l' := #[.val (.int x1), .val (.int x2), .val (.int x3), .val (.int x4), .val (.int x5), .val (.int x6), .val (.int ov_49), .val (.ref b53), .unset, .unset, .unset]) rfl ?_
    show Steps p.tables e below (T54.setTop (mkF m 25 #[.val (.int x1), .val (.int x2), .val (.int x3), .val (.int x4), .val (.int x5), .val (.int x6), .val (.int ov_49), .val (.ref b53), .unset, .unset, .unset] [])) _
    refine st55 _ ?_
    show Steps p.tables e below (T55.setTop (mkF m 28 #[.val (.int x1), .val (.int x2), .val (.int x3), .val (.int x4), .val (.int x5), .val (.int x6), .val (.int ov_49), .val (.ref b53), .unset, .unset, .unset] [(.ref b55)])) _
    refine XS.dup X55.here hx rfl (hb hby at_28) rfl rfl ?_
    show Steps p.tables e below (T55.setTop (mkF m 29 #[.val (.int x1), .val (.int x2), .val (.int x3), .val (.int x4), .val (.int x5), .val (.int x6), .val (.int ov_49), .val (.ref b53), .unset, .unset, .unset] [(.ref b55), (.ref b55)])) _
    refine XS.aload X55.here hx rfl (hb hby at_29) rfl rfl ?_
    show Steps p.tables e below (T55.setTop (mkF m 31 #[.val (.int x1), .val (.int x2), .val (.int x3), .val (.int x4), .val (.int x5), .val (.int x6), .val (.int ov_49), .val (.ref b53), .unset, .unset, .unset] [(.ref b53), (.ref b55), (.ref b55)])) _
    refine XS.iloadN X55.here hx rfl (hb hby at_31) rfl ?_
    show Steps p.tables e below (T55.setTop (mkF m 32 #[.val (.int x1), .val (.int x2), .val (.int x3), .val (.int x4), .val (.int x5), .val (.int x6), .val (.int ov_49), .val (.ref b53), .unset, .unset, .unset] [(.int x3), (.ref b53), (.ref b55), (.ref b55)])) _
    refine XS.iloadN X55.here hx rfl (hb hby at_32) rfl ?_
    show Steps p.tables e below (T55.setTop (mkF m 33 #[.val (.int x1), .val (.int x2), .val (.int x3), .val (.int x4), .val (.int x5), .val (.int x6), .val (.int ov_49), .val (.ref b53), .unset, .unset, .unset] [(.int x4), (.int x3), (.ref b53), (.ref b55), (.ref b55)])) _
    refine XS.iload X55.here hx rfl (hb hby at_33) rfl ?_
    show Steps p.tables e below (T55.setTop (mkF m 35 #[.val (.int x1), .val (.int x2), .val (.int x3), .val (.int x4), .val (.int x5), .val (.int x6), .val (.int ov_49), .val (.ref b53), .unset, .unset, .unset] [(.int x5), (.int x4), (.int x3), (.ref b53), (.ref b55), (.ref b55)])) _
    refine XS.iload X55.here hx rfl (hb hby at_35) rfl ?_
    show Steps p.tables e below (T55.setTop (mkF m 37 #[.val (.int x1), .val (.int x2), .val (.int x3), .val (.int x4), .val (.int x5), .val (.int x6), .val (.int ov_49), .val (.ref b53), .unset, .unset, .unset] [(.int ov_49), (.int x5), (.int x4), (.int x3), (.ref b53), (.ref b55), (.ref b55)])) _
    refine st56.trans ?_
    show Steps p.tables e below (T56.setTop (mkF m 40 #[.val (.int x1), .val (.int x2), .val (.int x3), .val (.int x4), .val (.int x5), .val (.int x6), .val (.int ov_49), .val (.ref b53), .unset, .unset, .unset] [(.ref b55)])) _
    refine XS.astore X56.here hx rfl (hb hby at_40) rfl rfl (l' := #[.val (.int x1), .val (.int x2), .val (.int x3), .val (.int x4), .val (.int x5), .val (.int x6), .val (.int ov_49), .val (.ref b53), .val (.ref b55), .unset, .unset]) rfl ?_
    show Steps p.tables e below (T56.setTop (mkF m 42 #[.val (.int x1), .val (.int x2), .val (.int x3), .val (.int x4), .val (.int x5), .val (.int x6), .val (.int ov_49), .val (.ref b53), .val (.ref b55), .unset, .unset] [])) _
    refine XS.iloadN X56.here hx rfl (hb hby at_42) rfl ?_
    exact kt
  by_cases hc43 : x2 < (0 : Int32)
  · skip
    have F58 : Fld Z T56.heap b53 "com/example/headmast/headmast/Pin" "push" "I" (.int x2) := ((Q54_2.ext E55).keep KK56 (ninS (Nat.ne_of_lt (Nat.lt_of_lt_of_le Q54_0.lt (Nat.le_of_eq g55.symm))) nin0))
    have C59 : Exa Z T56.heap b53 "com/example/headmast/headmast/Pin" := ((Q54_0.ext E55).keep KK56)
    obtain ⟨cq60, kq60, q60a, q60b, q60c⟩ := isOf hZ rfl Q56_0
    obtain ⟨_, _, ⟨T60, L60, k60, n60⟩, -, X60, ⟨Lc60, hQ60, l60, y60, z60⟩, st60⟩ := X56.virtualBack hx (y := (⟨"com/example/headmast/headmast/HandOver", "inFlight", "()Z"⟩ : MethodName)) (z := (⟨"com/example/headmast/headmast/HandOver", "inFlight", "()Z"⟩ : MethodName)) hown (mvT hZ (hw _ (List.mem_of_getElem? (i := 35) rfl))) (mvT hZ (hw _ (List.mem_of_getElem? (i := 36) rfl))) (notFace_of_selects (args := #[]) (mvT hZ (hw _ (List.mem_of_getElem? (i := 38) rfl)))) (mvT hZ (hw _ (List.mem_of_getElem? (i := 38) rfl))) (mvT hZ (hw _ (List.mem_of_getElem? (i := 37) rfl))) (by decide) (backOf (W := 0) (rm5 l Z a0 hw [] b55 b53 x2 T56.heap n0 Z56 O56 Q56_1 F58 C59) hZ (hw _ (List.mem_of_getElem? (i := 39) rfl)) (hw _ (List.mem_of_getElem? (i := 20) rfl)) (by decide) (by decide)) q60a q60c (g := (mkF m 55 #[.val (.int x1), .val (.int x2), .val (.int x3), .val (.int x4), .val (.int x5), .val (.int x6), .val (.int ov_49), .val (.ref b53), .val (.ref b55), .val (.int (1 : Int32)), .unset] [(.ref b55)])) rfl (by rw [hml]; rfl) (Steps.refl _) (argsL := []) (rest := []) (lenOf pd_2 rfl) rfl (by show 2 * 0 + _ ≤ _; exact Nat.le_of_eq rfl) (hb hby at_55) (fun _ _ => ⟨rfl, rfl, (by decide : 2 + 0 ≤ _), (by decide : 7 + 0 ≤ _)⟩)
    dsimp only [Pt.U, Pt.locs, Pt.cells, Pt.slots] at X60 l60 y60 z60 st60 hQ60
    subst l60 y60 z60
    obtain ⟨rfl, N60q, eh60⟩ := hQ60
    have N60 := Fr.app N56 N60q
    obtain ⟨T61, X61, e61, st61⟩ := getS2 X60 hx hZ hown (host := "") (Or.inl (hw _ (List.mem_of_getElem? (i := 45) rfl))) Via.refl eh60 (S_COVER.ext O56.2) (g := (mkF m 68 #[.val (.int x1), .val (.int x2), .val (.int x3), .val (.int x4), .val (.int x5), .val (.int x6), .val (.int ov_49), .val (.ref b53), .val (.ref b55), .val (.int (1 : Int32)), .unset] [(.int x3), (.ref b53)])) rfl (hb hby at_68)
    have F62 : Fld Z T56.heap st_COVER "com/example/headmast/headmast/HandOverStyle" "followsPush" "Z" (.int (0 : Int32)) := (FZ_st_COVER_followsPush.ext O56.2)
    have F63 : Fld Z T56.heap st_COVER "com/example/headmast/headmast/HandOverStyle" "fades" "Z" (.int (0 : Int32)) := (FZ_st_COVER_fades.ext O56.2)
    have F64 : Fld Z T56.heap st_COVER "com/example/headmast/headmast/HandOverStyle" "drawsOver" "Z" (.int (1 : Int32)) := (FZ_st_COVER_drawsOver.ext O56.2)
    have C65 : Exa Z T56.heap st_COVER "com/example/headmast/headmast/HandOverStyle" := (EZ_st_COVER.ext O56.2)
    obtain ⟨_, _, ⟨T66, L66, k66, n66⟩, -, X66, ⟨Lc66, hQ66, l66, y66, z66⟩, st66⟩ := Jvm.LawKit.callS X61 hx (y := (⟨"com/example/headmast/headmast/HandOver", "of", "(Lcom/example/headmast/headmast/Pin;ILcom/example/headmast/headmast/HandOverStyle;Z)Lcom/example/headmast/headmast/HandOver;"⟩ : MethodName)) hown (mvT hZ (hw _ (List.mem_of_getElem? (i := 48) rfl))) (mvT hZ (hw _ (List.mem_of_getElem? (i := 49) rfl))) (mvT hZ (hw _ (List.mem_of_getElem? (i := 20) rfl))) (mvT hZ (hw _ (List.mem_of_getElem? (i := 50) rfl))) (by decide) (backOf (W := 0) (rm7 l Z a0 hw [] b53 x3 st_COVER x2 T56.heap n0 Z56 O56 F62 F63 F64 F58 C59 C65) hZ (hw _ (List.mem_of_getElem? (i := 50) rfl)) (hw _ (List.mem_of_getElem? (i := 20) rfl)) (by decide) (by decide)) (g := (mkF m 72 #[.val (.int x1), .val (.int x2), .val (.int x3), .val (.int x4), .val (.int x5), .val (.int x6), .val (.int ov_49), .val (.ref b53), .val (.ref b55), .val (.int (1 : Int32)), .unset] [(.int (0 : Int32)), (.ref st_COVER), (.int x3), (.ref b53)])) rfl (by rw [hml]; rfl) (argsL := [(.ref b53), (.int x3), (.ref st_COVER), (.int (0 : Int32))]) (rest := []) (lenOf pd_5 rfl) rfl (by show 2 * 0 + _ ≤ _; exact Nat.le_of_eq rfl) (hb hby at_72) (fun _ _ => ⟨rfl, e61, (by decide : 2 + 1 ≤ _), (by decide : 7 + 5 ≤ _)⟩)
    dsimp only [Pt.U, Pt.locs, Pt.cells, Pt.slots] at X66 l66 y66 z66 st66 hQ66
    subst l66 y66 z66
    obtain ⟨b_66, rfl, N66q, KK66, Q66_0, Q66_1, Q66_2, Q66_3⟩ := hQ66
    have N66 := Fr.app N60 N66q
    have O66 : Old Z n0 T66.heap := O56.keep KK66 all0
    have Z66 : n0 ≤ T66.heap.size := Nat.le_trans Z56 KK66.1
    have K66 : Keep h0 T66.heap [] := K56.trans KK66 all0
    have g_b_66 : n0 ≤ b_66 := Nat.le_trans (Nat.le_trans (Nat.le_trans (Nat.le_trans (Nat.le_trans Z0 E53.1) KK54.1) E55.1) KK56.1) Q66_0
    have sz_b_66 : h0.size ≤ b_66 := Nat.le_trans K56.1 Q66_0
    have F67 : Fld Z T66.heap b53 "com/example/headmast/headmast/Pin" "push" "I" (.int x2) := (F58.keep KK66 nin0)
    have C68 : Exa Z T66.heap b53 "com/example/headmast/headmast/Pin" := (C59.keep KK66)
    obtain ⟨cq69, kq69, q69a, q69b, q69c⟩ := isOf hZ rfl Q66_1
    obtain ⟨_, _, ⟨T69, L69, k69, n69⟩, -, X69, ⟨Lc69, hQ69, l69, y69, z69⟩, st69⟩ := X66.virtualBack hx (y := (⟨"com/example/headmast/headmast/HandOver", "inFlight", "()Z"⟩ : MethodName)) (z := (⟨"com/example/headmast/headmast/HandOver", "inFlight", "()Z"⟩ : MethodName)) hown (mvT hZ (hw _ (List.mem_of_getElem? (i := 35) rfl))) (mvT hZ (hw _ (List.mem_of_getElem? (i := 36) rfl))) (notFace_of_selects (args := #[]) (mvT hZ (hw _ (List.mem_of_getElem? (i := 38) rfl)))) (mvT hZ (hw _ (List.mem_of_getElem? (i := 38) rfl))) (mvT hZ (hw _ (List.mem_of_getElem? (i := 37) rfl))) (by decide) (backOf (W := 0) (rm5 l Z a0 hw [] b_66 b53 x2 T66.heap n0 Z66 O66 Q66_2 F67 C68) hZ (hw _ (List.mem_of_getElem? (i := 39) rfl)) (hw _ (List.mem_of_getElem? (i := 20) rfl)) (by decide) (by decide)) q69a q69c (g := (mkF m 79 #[.val (.int x1), .val (.int x2), .val (.int x3), .val (.int x4), .val (.int x5), .val (.int x6), .val (.int ov_49), .val (.ref b53), .val (.ref b55), .val (.int (1 : Int32)), .val (.ref b_66)] [(.ref b_66)])) rfl (by rw [hml]; rfl) (Steps.refl _) (argsL := []) (rest := []) (lenOf pd_2 rfl) rfl (by show 2 * 0 + _ ≤ _; exact Nat.le_of_eq rfl) (hb hby at_79) (fun _ _ => ⟨rfl, rfl, (by decide : 3 + 0 ≤ _), (by decide : 12 + 0 ≤ _)⟩)
    dsimp only [Pt.U, Pt.locs, Pt.cells, Pt.slots] at X69 l69 y69 z69 st69 hQ69
    subst l69 y69 z69
    obtain ⟨rfl, N69q, eh69⟩ := hQ69
    have N69 := Fr.app N66 N69q
    obtain ⟨cq70, kq70, q70a, q70b, q70c⟩ := isOf hZ eh69 Q66_1
    obtain ⟨_, _, ⟨T70, L70, k70, n70⟩, -, X70, ⟨Lc70, hQ70, l70, y70, z70⟩, st70⟩ := X69.virtualBack hx (y := (⟨"com/example/headmast/headmast/HandOver", "over", "()Z"⟩ : MethodName)) (z := (⟨"com/example/headmast/headmast/HandOver", "over", "()Z"⟩ : MethodName)) hown (mvT hZ (hw _ (List.mem_of_getElem? (i := 60) rfl))) (mvT hZ (hw _ (List.mem_of_getElem? (i := 61) rfl))) (notFace_of_selects (args := #[]) (mvT hZ (hw _ (List.mem_of_getElem? (i := 63) rfl)))) (mvT hZ (hw _ (List.mem_of_getElem? (i := 63) rfl))) (mvT hZ (hw _ (List.mem_of_getElem? (i := 62) rfl))) (by decide) (backOf (W := 0) (rm9 l Z a0 hw [] b_66 (own_b (x2 < (0 : Int32))) T66.heap n0 Z66 O66 Q66_3) hZ (hw _ (List.mem_of_getElem? (i := 64) rfl)) (hw _ (List.mem_of_getElem? (i := 20) rfl)) (by decide) (by decide)) q70a q70c (g := (mkF m 91 #[.val (.int x1), .val (.int x2), .val (.int x3), .val (.int x4), .val (.int x5), .val (.int x6), .val (.int ov_49), .val (.ref b53), .val (.ref b55), .val (.int (1 : Int32)), .val (.ref b_66)] [(.ref b_66)])) rfl (by rw [hml]; rfl) (Steps.refl _) (argsL := []) (rest := []) (lenOf pd_2 rfl) rfl (by show 2 * 0 + _ ≤ _; exact Nat.le_of_eq rfl) (hb hby at_91) (fun _ _ => ⟨rfl, eh69, (by decide : 3 + 0 ≤ _), (by decide : 12 + 0 ≤ _)⟩)
    dsimp only [Pt.U, Pt.locs, Pt.cells, Pt.slots] at X70 l70 y70 z70 st70 hQ70
    subst l70 y70 z70
    obtain ⟨rfl, N70q, eh70⟩ := hQ70
    have N70 := Fr.app N69 N70q
    obtain ⟨fs, hr, hrun, hended, hW, hsame⟩ := X70.leave (v := some (.int (1 : Int32))) (fun h => by rw [Bd.returns] at h; cases h)
    refine ⟨_, _, pre57 _ ?_, hrun, hended, _, _, rfl, ?_, ⟨_, rfl⟩, hW, hsame.mono (by decide) (by decide)⟩
    · show Steps p.tables e below (T56.setTop (mkF m 43 #[.val (.int x1), .val (.int x2), .val (.int x3), .val (.int x4), .val (.int x5), .val (.int x6), .val (.int ov_49), .val (.ref b53), .val (.ref b55), .unset, .unset] [(.int x2)])) _
      refine XS.ifNo X56.here hx rfl (hb hby at_43) rfl ((if0 _ _).trans (tlt hc43).2.1) ?_
      show Steps p.tables e below (T56.setTop (mkF m 46 #[.val (.int x1), .val (.int x2), .val (.int x3), .val (.int x4), .val (.int x5), .val (.int x6), .val (.int ov_49), .val (.ref b53), .val (.ref b55), .unset, .unset] [])) _
      refine XS.iconst X56.here hx rfl (hb hby at_46) ?_
      show Steps p.tables e below (T56.setTop (mkF m 47 #[.val (.int x1), .val (.int x2), .val (.int x3), .val (.int x4), .val (.int x5), .val (.int x6), .val (.int ov_49), .val (.ref b53), .val (.ref b55), .unset, .unset] [(.int (1 : Int32))])) _
      refine XS.goto X56.here hx rfl (pc0 := 47) (pc' := 51) rfl (hb hby at_47) (by decide) (by decide) ?_
      show Steps p.tables e below (T56.setTop (mkF m 51 #[.val (.int x1), .val (.int x2), .val (.int x3), .val (.int x4), .val (.int x5), .val (.int x6), .val (.int ov_49), .val (.ref b53), .val (.ref b55), .unset, .unset] [(.int (1 : Int32))])) _
      refine XS.istore X56.here hx rfl (hb hby at_51) rfl (l' := #[.val (.int x1), .val (.int x2), .val (.int x3), .val (.int x4), .val (.int x5), .val (.int x6), .val (.int ov_49), .val (.ref b53), .val (.ref b55), .val (.int (1 : Int32)), .unset]) rfl ?_
      show Steps p.tables e below (T56.setTop (mkF m 53 #[.val (.int x1), .val (.int x2), .val (.int x3), .val (.int x4), .val (.int x5), .val (.int x6), .val (.int ov_49), .val (.ref b53), .val (.ref b55), .val (.int (1 : Int32)), .unset] [])) _
      refine XS.aload X56.here hx rfl (hb hby at_53) rfl rfl ?_
      show Steps p.tables e below (T56.setTop (mkF m 55 #[.val (.int x1), .val (.int x2), .val (.int x3), .val (.int x4), .val (.int x5), .val (.int x6), .val (.int ov_49), .val (.ref b53), .val (.ref b55), .val (.int (1 : Int32)), .unset] [(.ref b55)])) _
      refine st60.trans ?_
      show Steps p.tables e below (T60.setTop (mkF m 58 #[.val (.int x1), .val (.int x2), .val (.int x3), .val (.int x4), .val (.int x5), .val (.int x6), .val (.int ov_49), .val (.ref b53), .val (.ref b55), .val (.int (1 : Int32)), .unset] [(.int (own_b (x2 < (0 : Int32))))])) _
      refine XS.iload X60.here hx rfl (hb hby at_58) rfl ?_
      show Steps p.tables e below (T60.setTop (mkF m 60 #[.val (.int x1), .val (.int x2), .val (.int x3), .val (.int x4), .val (.int x5), .val (.int x6), .val (.int ov_49), .val (.ref b53), .val (.ref b55), .val (.int (1 : Int32)), .unset] [(.int (1 : Int32)), (.int (own_b (x2 < (0 : Int32))))])) _
      refine XS.icmpYes X60.here hx rfl (pc0 := 60) (pc' := 65) rfl (hb hby at_60) rfl (teq (own_bt hc43)).1 (by decide) (by decide) ?_
      show Steps p.tables e below (T60.setTop (mkF m 65 #[.val (.int x1), .val (.int x2), .val (.int x3), .val (.int x4), .val (.int x5), .val (.int x6), .val (.int ov_49), .val (.ref b53), .val (.ref b55), .val (.int (1 : Int32)), .unset] [])) _
      refine XS.aload X60.here hx rfl (hb hby at_65) rfl rfl ?_
      show Steps p.tables e below (T60.setTop (mkF m 67 #[.val (.int x1), .val (.int x2), .val (.int x3), .val (.int x4), .val (.int x5), .val (.int x6), .val (.int ov_49), .val (.ref b53), .val (.ref b55), .val (.int (1 : Int32)), .unset] [(.ref b53)])) _
      refine XS.iloadN X60.here hx rfl (hb hby at_67) rfl ?_
      show Steps p.tables e below (T60.setTop (mkF m 68 #[.val (.int x1), .val (.int x2), .val (.int x3), .val (.int x4), .val (.int x5), .val (.int x6), .val (.int ov_49), .val (.ref b53), .val (.ref b55), .val (.int (1 : Int32)), .unset] [(.int x3), (.ref b53)])) _
      refine st61 _ ?_
      show Steps p.tables e below (T61.setTop (mkF m 71 #[.val (.int x1), .val (.int x2), .val (.int x3), .val (.int x4), .val (.int x5), .val (.int x6), .val (.int ov_49), .val (.ref b53), .val (.ref b55), .val (.int (1 : Int32)), .unset] [(.ref st_COVER), (.int x3), (.ref b53)])) _
      refine XS.iconst X61.here hx rfl (hb hby at_71) ?_
      show Steps p.tables e below (T61.setTop (mkF m 72 #[.val (.int x1), .val (.int x2), .val (.int x3), .val (.int x4), .val (.int x5), .val (.int x6), .val (.int ov_49), .val (.ref b53), .val (.ref b55), .val (.int (1 : Int32)), .unset] [(.int (0 : Int32)), (.ref st_COVER), (.int x3), (.ref b53)])) _
      refine st66 _ ?_
      show Steps p.tables e below (T66.setTop (mkF m 75 #[.val (.int x1), .val (.int x2), .val (.int x3), .val (.int x4), .val (.int x5), .val (.int x6), .val (.int ov_49), .val (.ref b53), .val (.ref b55), .val (.int (1 : Int32)), .unset] [(.ref b_66)])) _
      refine XS.astore X66.here hx rfl (hb hby at_75) rfl rfl (l' := #[.val (.int x1), .val (.int x2), .val (.int x3), .val (.int x4), .val (.int x5), .val (.int x6), .val (.int ov_49), .val (.ref b53), .val (.ref b55), .val (.int (1 : Int32)), .val (.ref b_66)]) rfl ?_
      show Steps p.tables e below (T66.setTop (mkF m 77 #[.val (.int x1), .val (.int x2), .val (.int x3), .val (.int x4), .val (.int x5), .val (.int x6), .val (.int ov_49), .val (.ref b53), .val (.ref b55), .val (.int (1 : Int32)), .val (.ref b_66)] [])) _
      refine XS.aload X66.here hx rfl (hb hby at_77) rfl rfl ?_
      show Steps p.tables e below (T66.setTop (mkF m 79 #[.val (.int x1), .val (.int x2), .val (.int x3), .val (.int x4), .val (.int x5), .val (.int x6), .val (.int ov_49), .val (.ref b53), .val (.ref b55), .val (.int (1 : Int32)), .val (.ref b_66)] [(.ref b_66)])) _
      refine st69.trans ?_
      show Steps p.tables e below (T69.setTop (mkF m 82 #[.val (.int x1), .val (.int x2), .val (.int x3), .val (.int x4), .val (.int x5), .val (.int x6), .val (.int ov_49), .val (.ref b53), .val (.ref b55), .val (.int (1 : Int32)), .val (.ref b_66)] [(.int (own_b (x2 < (0 : Int32))))])) _
      refine XS.iload X69.here hx rfl (hb hby at_82) rfl ?_
      show Steps p.tables e below (T69.setTop (mkF m 84 #[.val (.int x1), .val (.int x2), .val (.int x3), .val (.int x4), .val (.int x5), .val (.int x6), .val (.int ov_49), .val (.ref b53), .val (.ref b55), .val (.int (1 : Int32)), .val (.ref b_66)] [(.int (1 : Int32)), (.int (own_b (x2 < (0 : Int32))))])) _
      refine XS.icmpYes X69.here hx rfl (pc0 := 84) (pc' := 89) rfl (hb hby at_84) rfl (teq (own_bt hc43)).1 (by decide) (by decide) ?_
      show Steps p.tables e below (T69.setTop (mkF m 89 #[.val (.int x1), .val (.int x2), .val (.int x3), .val (.int x4), .val (.int x5), .val (.int x6), .val (.int ov_49), .val (.ref b53), .val (.ref b55), .val (.int (1 : Int32)), .val (.ref b_66)] [])) _
      refine XS.aload X69.here hx rfl (hb hby at_89) rfl rfl ?_
      show Steps p.tables e below (T69.setTop (mkF m 91 #[.val (.int x1), .val (.int x2), .val (.int x3), .val (.int x4), .val (.int x5), .val (.int x6), .val (.int ov_49), .val (.ref b53), .val (.ref b55), .val (.int (1 : Int32)), .val (.ref b_66)] [(.ref b_66)])) _
      refine st70.trans ?_
      show Steps p.tables e below (T70.setTop (mkF m 94 #[.val (.int x1), .val (.int x2), .val (.int x3), .val (.int x4), .val (.int x5), .val (.int x6), .val (.int ov_49), .val (.ref b53), .val (.ref b55), .val (.int (1 : Int32)), .val (.ref b_66)] [(.int ((own_b (x2 < (0 : Int32))) &&& (1 : Int32)))])) _
      refine XS.iload X70.here hx rfl (hb hby at_94) rfl ?_
      show Steps p.tables e below (T70.setTop (mkF m 96 #[.val (.int x1), .val (.int x2), .val (.int x3), .val (.int x4), .val (.int x5), .val (.int x6), .val (.int ov_49), .val (.ref b53), .val (.ref b55), .val (.int (1 : Int32)), .val (.ref b_66)] [(.int (1 : Int32)), (.int ((own_b (x2 < (0 : Int32))) &&& (1 : Int32)))])) _
      refine XS.icmpNo X70.here hx rfl (hb hby at_96) rfl (teq (by rw [own_bt hc43]; try rfl)).2 ?_
      show Steps p.tables e below (T70.setTop (mkF m 99 #[.val (.int x1), .val (.int x2), .val (.int x3), .val (.int x4), .val (.int x5), .val (.int x6), .val (.int ov_49), .val (.ref b53), .val (.ref b55), .val (.int (1 : Int32)), .val (.ref b_66)] [])) _
      refine XS.iconst X70.here hx rfl (hb hby at_99) ?_
      show Steps p.tables e below (T70.setTop (mkF m 100 #[.val (.int x1), .val (.int x2), .val (.int x3), .val (.int x4), .val (.int x5), .val (.int x6), .val (.int ov_49), .val (.ref b53), .val (.ref b55), .val (.int (1 : Int32)), .val (.ref b_66)] [(.int (1 : Int32))])) _
      refine XS.goto X70.here hx rfl (pc0 := 100) (pc' := 104) rfl (hb hby at_100) (by decide) (by decide) ?_
      show Steps p.tables e below (T70.setTop (mkF m 104 #[.val (.int x1), .val (.int x2), .val (.int x3), .val (.int x4), .val (.int x5), .val (.int x6), .val (.int ov_49), .val (.ref b53), .val (.ref b55), .val (.int (1 : Int32)), .val (.ref b_66)] [(.int (1 : Int32))])) _
      exact retN X70 hx (t := .boolean) Bd.returns (by simp) (hb hby at_104) hr
    · show Q0 Z x1 x2 x3 x4 x5 x6 st_COVER h0 n0 _ T70.heap _
      rw [eh70]
      exact ⟨rfl, N70, K66⟩
  · skip
    have F71 : Fld Z T56.heap b53 "com/example/headmast/headmast/Pin" "push" "I" (.int x2) := ((Q54_2.ext E55).keep KK56 (ninS (Nat.ne_of_lt (Nat.lt_of_lt_of_le Q54_0.lt (Nat.le_of_eq g55.symm))) nin0))
    have C72 : Exa Z T56.heap b53 "com/example/headmast/headmast/Pin" := ((Q54_0.ext E55).keep KK56)
    obtain ⟨cq73, kq73, q73a, q73b, q73c⟩ := isOf hZ rfl Q56_0
    obtain ⟨_, _, ⟨T73, L73, k73, n73⟩, -, X73, ⟨Lc73, hQ73, l73, y73, z73⟩, st73⟩ := X56.virtualBack hx (y := (⟨"com/example/headmast/headmast/HandOver", "inFlight", "()Z"⟩ : MethodName)) (z := (⟨"com/example/headmast/headmast/HandOver", "inFlight", "()Z"⟩ : MethodName)) hown (mvT hZ (hw _ (List.mem_of_getElem? (i := 35) rfl))) (mvT hZ (hw _ (List.mem_of_getElem? (i := 36) rfl))) (notFace_of_selects (args := #[]) (mvT hZ (hw _ (List.mem_of_getElem? (i := 38) rfl)))) (mvT hZ (hw _ (List.mem_of_getElem? (i := 38) rfl))) (mvT hZ (hw _ (List.mem_of_getElem? (i := 37) rfl))) (by decide) (backOf (W := 0) (rm5 l Z a0 hw [] b55 b53 x2 T56.heap n0 Z56 O56 Q56_1 F71 C72) hZ (hw _ (List.mem_of_getElem? (i := 39) rfl)) (hw _ (List.mem_of_getElem? (i := 20) rfl)) (by decide) (by decide)) q73a q73c (g := (mkF m 55 #[.val (.int x1), .val (.int x2), .val (.int x3), .val (.int x4), .val (.int x5), .val (.int x6), .val (.int ov_49), .val (.ref b53), .val (.ref b55), .val (.int (0 : Int32)), .unset] [(.ref b55)])) rfl (by rw [hml]; rfl) (Steps.refl _) (argsL := []) (rest := []) (lenOf pd_2 rfl) rfl (by show 2 * 0 + _ ≤ _; exact Nat.le_of_eq rfl) (hb hby at_55) (fun _ _ => ⟨rfl, rfl, (by decide : 2 + 0 ≤ _), (by decide : 7 + 0 ≤ _)⟩)
    dsimp only [Pt.U, Pt.locs, Pt.cells, Pt.slots] at X73 l73 y73 z73 st73 hQ73
    subst l73 y73 z73
    obtain ⟨rfl, N73q, eh73⟩ := hQ73
    have N73 := Fr.app N56 N73q
    obtain ⟨T74, X74, e74, st74⟩ := getS2 X73 hx hZ hown (host := "") (Or.inl (hw _ (List.mem_of_getElem? (i := 45) rfl))) Via.refl eh73 (S_COVER.ext O56.2) (g := (mkF m 68 #[.val (.int x1), .val (.int x2), .val (.int x3), .val (.int x4), .val (.int x5), .val (.int x6), .val (.int ov_49), .val (.ref b53), .val (.ref b55), .val (.int (0 : Int32)), .unset] [(.int x3), (.ref b53)])) rfl (hb hby at_68)
    have F75 : Fld Z T56.heap st_COVER "com/example/headmast/headmast/HandOverStyle" "followsPush" "Z" (.int (0 : Int32)) := (FZ_st_COVER_followsPush.ext O56.2)
    have F76 : Fld Z T56.heap st_COVER "com/example/headmast/headmast/HandOverStyle" "fades" "Z" (.int (0 : Int32)) := (FZ_st_COVER_fades.ext O56.2)
    have F77 : Fld Z T56.heap st_COVER "com/example/headmast/headmast/HandOverStyle" "drawsOver" "Z" (.int (1 : Int32)) := (FZ_st_COVER_drawsOver.ext O56.2)
    have C78 : Exa Z T56.heap st_COVER "com/example/headmast/headmast/HandOverStyle" := (EZ_st_COVER.ext O56.2)
    obtain ⟨_, _, ⟨T79, L79, k79, n79⟩, -, X79, ⟨Lc79, hQ79, l79, y79, z79⟩, st79⟩ := Jvm.LawKit.callS X74 hx (y := (⟨"com/example/headmast/headmast/HandOver", "of", "(Lcom/example/headmast/headmast/Pin;ILcom/example/headmast/headmast/HandOverStyle;Z)Lcom/example/headmast/headmast/HandOver;"⟩ : MethodName)) hown (mvT hZ (hw _ (List.mem_of_getElem? (i := 48) rfl))) (mvT hZ (hw _ (List.mem_of_getElem? (i := 49) rfl))) (mvT hZ (hw _ (List.mem_of_getElem? (i := 20) rfl))) (mvT hZ (hw _ (List.mem_of_getElem? (i := 50) rfl))) (by decide) (backOf (W := 0) (rm7 l Z a0 hw [] b53 x3 st_COVER x2 T56.heap n0 Z56 O56 F75 F76 F77 F71 C72 C78) hZ (hw _ (List.mem_of_getElem? (i := 50) rfl)) (hw _ (List.mem_of_getElem? (i := 20) rfl)) (by decide) (by decide)) (g := (mkF m 72 #[.val (.int x1), .val (.int x2), .val (.int x3), .val (.int x4), .val (.int x5), .val (.int x6), .val (.int ov_49), .val (.ref b53), .val (.ref b55), .val (.int (0 : Int32)), .unset] [(.int (0 : Int32)), (.ref st_COVER), (.int x3), (.ref b53)])) rfl (by rw [hml]; rfl) (argsL := [(.ref b53), (.int x3), (.ref st_COVER), (.int (0 : Int32))]) (rest := []) (lenOf pd_5 rfl) rfl (by show 2 * 0 + _ ≤ _; exact Nat.le_of_eq rfl) (hb hby at_72) (fun _ _ => ⟨rfl, e74, (by decide : 2 + 1 ≤ _), (by decide : 7 + 5 ≤ _)⟩)
    dsimp only [Pt.U, Pt.locs, Pt.cells, Pt.slots] at X79 l79 y79 z79 st79 hQ79
    subst l79 y79 z79
    obtain ⟨b_79, rfl, N79q, KK79, Q79_0, Q79_1, Q79_2, Q79_3⟩ := hQ79
    have N79 := Fr.app N73 N79q
    have O79 : Old Z n0 T79.heap := O56.keep KK79 all0
    have Z79 : n0 ≤ T79.heap.size := Nat.le_trans Z56 KK79.1
    have K79 : Keep h0 T79.heap [] := K56.trans KK79 all0
    have g_b_79 : n0 ≤ b_79 := Nat.le_trans (Nat.le_trans (Nat.le_trans (Nat.le_trans (Nat.le_trans Z0 E53.1) KK54.1) E55.1) KK56.1) Q79_0
    have sz_b_79 : h0.size ≤ b_79 := Nat.le_trans K56.1 Q79_0
    have F80 : Fld Z T79.heap b53 "com/example/headmast/headmast/Pin" "push" "I" (.int x2) := (F71.keep KK79 nin0)
    have C81 : Exa Z T79.heap b53 "com/example/headmast/headmast/Pin" := (C72.keep KK79)
    obtain ⟨cq82, kq82, q82a, q82b, q82c⟩ := isOf hZ rfl Q79_1
    obtain ⟨_, _, ⟨T82, L82, k82, n82⟩, -, X82, ⟨Lc82, hQ82, l82, y82, z82⟩, st82⟩ := X79.virtualBack hx (y := (⟨"com/example/headmast/headmast/HandOver", "inFlight", "()Z"⟩ : MethodName)) (z := (⟨"com/example/headmast/headmast/HandOver", "inFlight", "()Z"⟩ : MethodName)) hown (mvT hZ (hw _ (List.mem_of_getElem? (i := 35) rfl))) (mvT hZ (hw _ (List.mem_of_getElem? (i := 36) rfl))) (notFace_of_selects (args := #[]) (mvT hZ (hw _ (List.mem_of_getElem? (i := 38) rfl)))) (mvT hZ (hw _ (List.mem_of_getElem? (i := 38) rfl))) (mvT hZ (hw _ (List.mem_of_getElem? (i := 37) rfl))) (by decide) (backOf (W := 0) (rm5 l Z a0 hw [] b_79 b53 x2 T79.heap n0 Z79 O79 Q79_2 F80 C81) hZ (hw _ (List.mem_of_getElem? (i := 39) rfl)) (hw _ (List.mem_of_getElem? (i := 20) rfl)) (by decide) (by decide)) q82a q82c (g := (mkF m 79 #[.val (.int x1), .val (.int x2), .val (.int x3), .val (.int x4), .val (.int x5), .val (.int x6), .val (.int ov_49), .val (.ref b53), .val (.ref b55), .val (.int (0 : Int32)), .val (.ref b_79)] [(.ref b_79)])) rfl (by rw [hml]; rfl) (Steps.refl _) (argsL := []) (rest := []) (lenOf pd_2 rfl) rfl (by show 2 * 0 + _ ≤ _; exact Nat.le_of_eq rfl) (hb hby at_79) (fun _ _ => ⟨rfl, rfl, (by decide : 3 + 0 ≤ _), (by decide : 12 + 0 ≤ _)⟩)
    dsimp only [Pt.U, Pt.locs, Pt.cells, Pt.slots] at X82 l82 y82 z82 st82 hQ82
    subst l82 y82 z82
    obtain ⟨rfl, N82q, eh82⟩ := hQ82
    have N82 := Fr.app N79 N82q
    obtain ⟨cq83, kq83, q83a, q83b, q83c⟩ := isOf hZ eh82 Q79_1
    obtain ⟨_, _, ⟨T83, L83, k83, n83⟩, -, X83, ⟨Lc83, hQ83, l83, y83, z83⟩, st83⟩ := X82.virtualBack hx (y := (⟨"com/example/headmast/headmast/HandOver", "over", "()Z"⟩ : MethodName)) (z := (⟨"com/example/headmast/headmast/HandOver", "over", "()Z"⟩ : MethodName)) hown (mvT hZ (hw _ (List.mem_of_getElem? (i := 60) rfl))) (mvT hZ (hw _ (List.mem_of_getElem? (i := 61) rfl))) (notFace_of_selects (args := #[]) (mvT hZ (hw _ (List.mem_of_getElem? (i := 63) rfl)))) (mvT hZ (hw _ (List.mem_of_getElem? (i := 63) rfl))) (mvT hZ (hw _ (List.mem_of_getElem? (i := 62) rfl))) (by decide) (backOf (W := 0) (rm9 l Z a0 hw [] b_79 (own_b (x2 < (0 : Int32))) T79.heap n0 Z79 O79 Q79_3) hZ (hw _ (List.mem_of_getElem? (i := 64) rfl)) (hw _ (List.mem_of_getElem? (i := 20) rfl)) (by decide) (by decide)) q83a q83c (g := (mkF m 91 #[.val (.int x1), .val (.int x2), .val (.int x3), .val (.int x4), .val (.int x5), .val (.int x6), .val (.int ov_49), .val (.ref b53), .val (.ref b55), .val (.int (0 : Int32)), .val (.ref b_79)] [(.ref b_79)])) rfl (by rw [hml]; rfl) (Steps.refl _) (argsL := []) (rest := []) (lenOf pd_2 rfl) rfl (by show 2 * 0 + _ ≤ _; exact Nat.le_of_eq rfl) (hb hby at_91) (fun _ _ => ⟨rfl, eh82, (by decide : 3 + 0 ≤ _), (by decide : 12 + 0 ≤ _)⟩)
    dsimp only [Pt.U, Pt.locs, Pt.cells, Pt.slots] at X83 l83 y83 z83 st83 hQ83
    subst l83 y83 z83
    obtain ⟨rfl, N83q, eh83⟩ := hQ83
    have N83 := Fr.app N82 N83q
    obtain ⟨fs, hr, hrun, hended, hW, hsame⟩ := X83.leave (v := some (.int (1 : Int32))) (fun h => by rw [Bd.returns] at h; cases h)
    refine ⟨_, _, pre57 _ ?_, hrun, hended, _, _, rfl, ?_, ⟨_, rfl⟩, hW, hsame.mono (by decide) (by decide)⟩
    · show Steps p.tables e below (T56.setTop (mkF m 43 #[.val (.int x1), .val (.int x2), .val (.int x3), .val (.int x4), .val (.int x5), .val (.int x6), .val (.int ov_49), .val (.ref b53), .val (.ref b55), .unset, .unset] [(.int x2)])) _
      refine XS.ifYes X56.here hx rfl (pc0 := 43) (pc' := 50) rfl (hb hby at_43) rfl ((if0 _ _).trans (flt hc43).2.1) (by decide) (by decide) ?_
      show Steps p.tables e below (T56.setTop (mkF m 50 #[.val (.int x1), .val (.int x2), .val (.int x3), .val (.int x4), .val (.int x5), .val (.int x6), .val (.int ov_49), .val (.ref b53), .val (.ref b55), .unset, .unset] [])) _
      refine XS.iconst X56.here hx rfl (hb hby at_50) ?_
      show Steps p.tables e below (T56.setTop (mkF m 51 #[.val (.int x1), .val (.int x2), .val (.int x3), .val (.int x4), .val (.int x5), .val (.int x6), .val (.int ov_49), .val (.ref b53), .val (.ref b55), .unset, .unset] [(.int (0 : Int32))])) _
      refine XS.istore X56.here hx rfl (hb hby at_51) rfl (l' := #[.val (.int x1), .val (.int x2), .val (.int x3), .val (.int x4), .val (.int x5), .val (.int x6), .val (.int ov_49), .val (.ref b53), .val (.ref b55), .val (.int (0 : Int32)), .unset]) rfl ?_
      show Steps p.tables e below (T56.setTop (mkF m 53 #[.val (.int x1), .val (.int x2), .val (.int x3), .val (.int x4), .val (.int x5), .val (.int x6), .val (.int ov_49), .val (.ref b53), .val (.ref b55), .val (.int (0 : Int32)), .unset] [])) _
      refine XS.aload X56.here hx rfl (hb hby at_53) rfl rfl ?_
      show Steps p.tables e below (T56.setTop (mkF m 55 #[.val (.int x1), .val (.int x2), .val (.int x3), .val (.int x4), .val (.int x5), .val (.int x6), .val (.int ov_49), .val (.ref b53), .val (.ref b55), .val (.int (0 : Int32)), .unset] [(.ref b55)])) _
      refine st73.trans ?_
      show Steps p.tables e below (T73.setTop (mkF m 58 #[.val (.int x1), .val (.int x2), .val (.int x3), .val (.int x4), .val (.int x5), .val (.int x6), .val (.int ov_49), .val (.ref b53), .val (.ref b55), .val (.int (0 : Int32)), .unset] [(.int (own_b (x2 < (0 : Int32))))])) _
      refine XS.iload X73.here hx rfl (hb hby at_58) rfl ?_
      show Steps p.tables e below (T73.setTop (mkF m 60 #[.val (.int x1), .val (.int x2), .val (.int x3), .val (.int x4), .val (.int x5), .val (.int x6), .val (.int ov_49), .val (.ref b53), .val (.ref b55), .val (.int (0 : Int32)), .unset] [(.int (0 : Int32)), (.int (own_b (x2 < (0 : Int32))))])) _
      refine XS.icmpYes X73.here hx rfl (pc0 := 60) (pc' := 65) rfl (hb hby at_60) rfl (teq (own_bf hc43)).1 (by decide) (by decide) ?_
      show Steps p.tables e below (T73.setTop (mkF m 65 #[.val (.int x1), .val (.int x2), .val (.int x3), .val (.int x4), .val (.int x5), .val (.int x6), .val (.int ov_49), .val (.ref b53), .val (.ref b55), .val (.int (0 : Int32)), .unset] [])) _
      refine XS.aload X73.here hx rfl (hb hby at_65) rfl rfl ?_
      show Steps p.tables e below (T73.setTop (mkF m 67 #[.val (.int x1), .val (.int x2), .val (.int x3), .val (.int x4), .val (.int x5), .val (.int x6), .val (.int ov_49), .val (.ref b53), .val (.ref b55), .val (.int (0 : Int32)), .unset] [(.ref b53)])) _
      refine XS.iloadN X73.here hx rfl (hb hby at_67) rfl ?_
      show Steps p.tables e below (T73.setTop (mkF m 68 #[.val (.int x1), .val (.int x2), .val (.int x3), .val (.int x4), .val (.int x5), .val (.int x6), .val (.int ov_49), .val (.ref b53), .val (.ref b55), .val (.int (0 : Int32)), .unset] [(.int x3), (.ref b53)])) _
      refine st74 _ ?_
      show Steps p.tables e below (T74.setTop (mkF m 71 #[.val (.int x1), .val (.int x2), .val (.int x3), .val (.int x4), .val (.int x5), .val (.int x6), .val (.int ov_49), .val (.ref b53), .val (.ref b55), .val (.int (0 : Int32)), .unset] [(.ref st_COVER), (.int x3), (.ref b53)])) _
      refine XS.iconst X74.here hx rfl (hb hby at_71) ?_
      show Steps p.tables e below (T74.setTop (mkF m 72 #[.val (.int x1), .val (.int x2), .val (.int x3), .val (.int x4), .val (.int x5), .val (.int x6), .val (.int ov_49), .val (.ref b53), .val (.ref b55), .val (.int (0 : Int32)), .unset] [(.int (0 : Int32)), (.ref st_COVER), (.int x3), (.ref b53)])) _
      refine st79 _ ?_
      show Steps p.tables e below (T79.setTop (mkF m 75 #[.val (.int x1), .val (.int x2), .val (.int x3), .val (.int x4), .val (.int x5), .val (.int x6), .val (.int ov_49), .val (.ref b53), .val (.ref b55), .val (.int (0 : Int32)), .unset] [(.ref b_79)])) _
      refine XS.astore X79.here hx rfl (hb hby at_75) rfl rfl (l' := #[.val (.int x1), .val (.int x2), .val (.int x3), .val (.int x4), .val (.int x5), .val (.int x6), .val (.int ov_49), .val (.ref b53), .val (.ref b55), .val (.int (0 : Int32)), .val (.ref b_79)]) rfl ?_
      show Steps p.tables e below (T79.setTop (mkF m 77 #[.val (.int x1), .val (.int x2), .val (.int x3), .val (.int x4), .val (.int x5), .val (.int x6), .val (.int ov_49), .val (.ref b53), .val (.ref b55), .val (.int (0 : Int32)), .val (.ref b_79)] [])) _
      refine XS.aload X79.here hx rfl (hb hby at_77) rfl rfl ?_
      show Steps p.tables e below (T79.setTop (mkF m 79 #[.val (.int x1), .val (.int x2), .val (.int x3), .val (.int x4), .val (.int x5), .val (.int x6), .val (.int ov_49), .val (.ref b53), .val (.ref b55), .val (.int (0 : Int32)), .val (.ref b_79)] [(.ref b_79)])) _
      refine st82.trans ?_
      show Steps p.tables e below (T82.setTop (mkF m 82 #[.val (.int x1), .val (.int x2), .val (.int x3), .val (.int x4), .val (.int x5), .val (.int x6), .val (.int ov_49), .val (.ref b53), .val (.ref b55), .val (.int (0 : Int32)), .val (.ref b_79)] [(.int (own_b (x2 < (0 : Int32))))])) _
      refine XS.iload X82.here hx rfl (hb hby at_82) rfl ?_
      show Steps p.tables e below (T82.setTop (mkF m 84 #[.val (.int x1), .val (.int x2), .val (.int x3), .val (.int x4), .val (.int x5), .val (.int x6), .val (.int ov_49), .val (.ref b53), .val (.ref b55), .val (.int (0 : Int32)), .val (.ref b_79)] [(.int (0 : Int32)), (.int (own_b (x2 < (0 : Int32))))])) _
      refine XS.icmpYes X82.here hx rfl (pc0 := 84) (pc' := 89) rfl (hb hby at_84) rfl (teq (own_bf hc43)).1 (by decide) (by decide) ?_
      show Steps p.tables e below (T82.setTop (mkF m 89 #[.val (.int x1), .val (.int x2), .val (.int x3), .val (.int x4), .val (.int x5), .val (.int x6), .val (.int ov_49), .val (.ref b53), .val (.ref b55), .val (.int (0 : Int32)), .val (.ref b_79)] [])) _
      refine XS.aload X82.here hx rfl (hb hby at_89) rfl rfl ?_
      show Steps p.tables e below (T82.setTop (mkF m 91 #[.val (.int x1), .val (.int x2), .val (.int x3), .val (.int x4), .val (.int x5), .val (.int x6), .val (.int ov_49), .val (.ref b53), .val (.ref b55), .val (.int (0 : Int32)), .val (.ref b_79)] [(.ref b_79)])) _
      refine st83.trans ?_
      show Steps p.tables e below (T83.setTop (mkF m 94 #[.val (.int x1), .val (.int x2), .val (.int x3), .val (.int x4), .val (.int x5), .val (.int x6), .val (.int ov_49), .val (.ref b53), .val (.ref b55), .val (.int (0 : Int32)), .val (.ref b_79)] [(.int ((own_b (x2 < (0 : Int32))) &&& (1 : Int32)))])) _
      refine XS.iload X83.here hx rfl (hb hby at_94) rfl ?_
      show Steps p.tables e below (T83.setTop (mkF m 96 #[.val (.int x1), .val (.int x2), .val (.int x3), .val (.int x4), .val (.int x5), .val (.int x6), .val (.int ov_49), .val (.ref b53), .val (.ref b55), .val (.int (0 : Int32)), .val (.ref b_79)] [(.int (0 : Int32)), (.int ((own_b (x2 < (0 : Int32))) &&& (1 : Int32)))])) _
      refine XS.icmpNo X83.here hx rfl (hb hby at_96) rfl (teq (by rw [own_bf hc43]; try rfl)).2 ?_
      show Steps p.tables e below (T83.setTop (mkF m 99 #[.val (.int x1), .val (.int x2), .val (.int x3), .val (.int x4), .val (.int x5), .val (.int x6), .val (.int ov_49), .val (.ref b53), .val (.ref b55), .val (.int (0 : Int32)), .val (.ref b_79)] [])) _
      refine XS.iconst X83.here hx rfl (hb hby at_99) ?_
      show Steps p.tables e below (T83.setTop (mkF m 100 #[.val (.int x1), .val (.int x2), .val (.int x3), .val (.int x4), .val (.int x5), .val (.int x6), .val (.int ov_49), .val (.ref b53), .val (.ref b55), .val (.int (0 : Int32)), .val (.ref b_79)] [(.int (1 : Int32))])) _
      refine XS.goto X83.here hx rfl (pc0 := 100) (pc' := 104) rfl (hb hby at_100) (by decide) (by decide) ?_
      show Steps p.tables e below (T83.setTop (mkF m 104 #[.val (.int x1), .val (.int x2), .val (.int x3), .val (.int x4), .val (.int x5), .val (.int x6), .val (.int ov_49), .val (.ref b53), .val (.ref b55), .val (.int (0 : Int32)), .val (.ref b_79)] [(.int (1 : Int32))])) _
      exact retN X83 hx (t := .boolean) Bd.returns (by simp) (hb hby at_104) hr
    · show Q0 Z x1 x2 x3 x4 x5 x6 st_COVER h0 n0 _ T83.heap _
      rw [eh83]
      exact ⟨rfl, N83, K79⟩
set_option maxRecDepth 65536 in
set_option maxHeartbeats 40000000 in
theorem comes_1 {Post : Tables → Env → Array Value → State → Outcome → State → Prop} (hpost : ∀ tb e args s v u, (limb_1_1.after args s (.returned v) u = true ∧ limb_1_2.after args s (.returned v) u = true ∧ True) → FrameEnd s (.returned v) u (Jvm.fieldLocs frame_1_writes args s ++ Jvm.arrayLocs frame_1_arrays args s ++ Jvm.staticLocs frame_1_statics s) 16 128 → Post tb e args s (.returned v) u) :
    ArmFor flags0 classFile x code maxLocals ret World_1 tables_1 room_1 Calls_1 rest_1 Pre_1 Post := by
  intro l hfl _ _ p e ha hc hk s m args below hf hA hF happ hP
  obtain ⟨hcalls, hrest, hpre⟩ := hP
  obtain ⟨-, -, -, hnamed, -, -, -, hat⟩ := (Spec.applies_iff hf).mp happ
  obtain ⟨hg, hn⟩ := and_e (Cond.before_iff.mp (show (Jvm.Cond.and given_1 narrow_1).before args s = true from hpre))
  obtain ⟨gg1, gg2⟩ := and_e hg
  obtain ⟨gg3, gg4⟩ := and_e gg2
  obtain ⟨gg5, gg6⟩ := and_e gg4
  obtain ⟨gg7, gg8⟩ := and_e gg6
  obtain ⟨gg9, gg10⟩ := and_e gg8
  obtain ⟨gg11, gg12⟩ := and_e gg10
  obtain ⟨gg13, gg14⟩ := and_e hn
  obtain ⟨gg15, gg16⟩ := and_e gg14
  obtain ⟨gg17, gg18⟩ := and_e gg16
  obtain ⟨w0, w1, w2, w3, w4, w5, rfl⟩ : ∃ w0 w1 w2 w3 w4 w5 : Value, args = #[w0, w1, w2, w3, w4, w5] := by
    have hs : args.size = 6 := by simpa [Cond.value, given_1] using gg1
    obtain ⟨L⟩ := args
    match L, hs with
    | [w0, w1, w2, w3, w4, w5], _ => exact ⟨w0, w1, w2, w3, w4, w5, rfl⟩
  have hw := fun d (hd : d ∈ tables_1) => atoms_spec (ws := Jvm.Cond.code x code maxLocals ret :: tables_1) hat d (List.mem_cons_of_mem _ hd)
  have hfit : Fit s := fun {y c} hc i hi => by
    obtain ⟨ha, rfl⟩ := Array.getElem?_eq_some_iff.mp hc
    have q := List.all_eq_true.mp ((Array.all_eq_true_iff_forall_mem.mp hF) _ (Array.getElem_mem ha)) i (List.mem_range.mpr hi)
    simpa [Array.getElem?_eq_getElem hi] using q
  obtain ⟨i0, ei0⟩ := is_v gg3
  obtain rfl : w0 = (.int i0) := Option.some.inj ei0
  obtain ⟨i1, ei1⟩ := is_v gg5
  obtain rfl : w1 = (.int i1) := Option.some.inj ei1
  obtain ⟨i2, ei2⟩ := is_v gg7
  obtain rfl : w2 = (.int i2) := Option.some.inj ei2
  obtain ⟨i3, ei3⟩ := is_v gg9
  obtain rfl : w3 = (.int i3) := Option.some.inj ei3
  obtain ⟨i4, ei4⟩ := is_v gg11
  obtain rfl : w4 = (.int i4) := Option.some.inj ei4
  obtain ⟨i5, ei5⟩ := is_v gg12
  obtain rfl : w5 = (.int i5) := Option.some.inj ei5
  obtain ⟨st_COVER, ev_st_COVER⟩ := exa_v gg13
  have S_COVER : Sta s s.heap "com/example/headmast/headmast/HandOverStyle" "COVER" "Lcom/example/headmast/headmast/HandOverStyle;" (.ref st_COVER) := Sta.start ev_st_COVER (Or.inr ⟨hw _ (List.mem_of_getElem? (i := 46) rfl), hw _ (List.mem_of_getElem? (i := 47) rfl)⟩)
  have EZ_st_COVER : Exa s s.heap st_COVER "com/example/headmast/headmast/HandOverStyle" := Exa.start ev_st_COVER gg13
  have FZ_st_COVER_followsPush : Fld s s.heap st_COVER "com/example/headmast/headmast/HandOverStyle" "followsPush" "Z" (.int (0 : Int32)) := Fld.start ((fld_at ev_st_COVER).symm.trans (own_eqI gg15))
  have FZ_st_COVER_fades : Fld s s.heap st_COVER "com/example/headmast/headmast/HandOverStyle" "fades" "Z" (.int (0 : Int32)) := Fld.start ((fld_at ev_st_COVER).symm.trans (own_eqI gg17))
  have FZ_st_COVER_drawsOver : Fld s s.heap st_COVER "com/example/headmast/headmast/HandOverStyle" "drawsOver" "Z" (.int (1 : Int32)) := Fld.start ((fld_at ev_st_COVER).symm.trans (own_eqI gg18))
  obtain ⟨n, o, h1, h2, h3, _, L, rfl, ⟨rfl, N, -⟩, hq⟩ := rm0 l s _ hw tables_1 i0 i1 i2 i3 i4 i5 st_COVER s.heap s.heap.size (Nat.le_refl _) (Old.start s) S_COVER EZ_st_COVER FZ_st_COVER_followsPush FZ_st_COVER_fades FZ_st_COVER_drawsOver p e ha hc hk s m _ below hf ((Spec.applies_iff_loose hf).mp happ).1 ⟨rfl, State.Warmed39.refl s, rfl⟩ trivial
  refine ⟨n, _, h1, h2, h3, hpost _ _ _ _ _ _ ⟨Cond.after_iff.mpr rfl, Cond.after_iff.mpr (eq_i res_at (Term.int_eval (1)) rfl), trivial⟩ ⟨hq.1, hq.2.1, (hq.2.2.sift fun y hy => Or.inr (N y hy)).mono (by decide) (by decide)⟩⟩
theorem main_1_1 : Claimed_1_1 := comes_1 fun _ _ _ _ _ _ h hF => ⟨h.1, hF⟩
theorem main_1_2 : Claimed_1_2 := comes_1 fun _ _ _ _ _ _ h hF => ⟨h.2.1, hF⟩
end Jvm.Pilot.@@N@@
namespace Jvm.Pilot.@@N@@
open Jvm Jvm.ClassFile Sem Op Lib Jvm.Free Jvm.Stand Jvm.Pilot.@@N@@.Jvm.D
/-! MADE BY PROGRAM (witnessworld.py) out of the Statement's table words and the real class files: 15 classes; the members and pool entries that the words name. The judged class is class 1, her method 1. -/
namespace start1
open Jvm.ClassFile
def u (s : String) : CpInfo := .utf8 (stringToUtf16 s)
/-- a pool by its gaps: so many unusable entries, then the entry; so many at the end -/
def gap : Nat → List CpInfo → List CpInfo
  | 0, r => r
  | n + 1, r => .unusable :: gap n r
def poolList (es : List (Nat × CpInfo)) (last : Nat) : List CpInfo := es.foldr (fun e r => gap e.1 (e.2 :: r)) (gap last [])
def pool (es : List (Nat × CpInfo)) (last : Nat) : Array CpInfo := ⟨poolList es last⟩
def fileOf (pool : Array CpInfo) (this : Nat) (attrs : Array Attribute := #[]) (ms : Array MethodInfo := #[]) (fl : Nat := 33) (sup : Nat := 0) (ifs : Array Nat := #[]) (fds : Array FieldInfo := #[]) : ClassFile where
  minorVersion := 0
  majorVersion := 65
  constantPool := pool
  accessFlags := fl
  thisClass := this
  superClass := sup
  interfaces := ifs
  fields := fds
  methods := ms
  attributes := attrs
def plain (name : String) (sup : Option ClassId) : Class where
  name := name
  kind := .ordinary
  loader := none
  accessFlags := 33
  super := sup
  interfaces := #[]
  cf := none
  fields := #[]
  methods := #[]
  instanceTypes := #[]
  staticTypes := #[]
  resolved := #[]
  callSites := []
  init := .initialized
  statics := none
  mirror := none

def pool0 : Array CpInfo := pool [(5, u "<init>"), (0, u "()V"), (1, .class_ 10), (1, u "java/lang/Object")] 113

def k0c0 : Code := { maxStack := 0, maxLocals := 1, code := object_method_1_code, exceptionTable := #[], attributes := #[] }
def k0m0 : Method := { name := "<init>", desc := "()V", sig := { parameters := [], returnType := none }, accessFlags := 1, code := some k0c0 }
/-- java/lang/Object -/
def k0 : Class := { plain "java/lang/Object" none with
  accessFlags := 33
  interfaces := #[]
  cf := some (fileOf pool0 8 #[] #[{ accessFlags := 1, nameIndex := 5, descriptorIndex := 6, attributes := #[] }] 33 0 #[] #[])
  fields := #[]
  methods := #[k0m0]
  instanceTypes := #[]
  staticTypes := #[]
  resolved := Array.replicate 124 none
  statics := none }

def pool1 : Array CpInfo := pool [(2, .class_ 4), (1, u "java/lang/Object"), (0, u "<init>"), (0, u "()V"), (0, .class_ 8), (0, u "com/example/headmast/headmast/Pin"), (0, .methodref 7 10), (0, .nameAndType 5 11), (0, u "(II)V"), (0, .class_ 13), (0, u "com/example/headmast/headmast/HandOver"), (0, .methodref 12 15), (0, .nameAndType 5 16), (0, u "(Lcom/example/headmast/headmast/Pin;IIIZ)V"), (0, .methodref 12 18), (0, .nameAndType 19 20), (0, u "inFlight"), (0, u "()Z"), (0, .fieldref 22 23), (0, .class_ 24), (0, .nameAndType 25 26), (0, u "com/example/headmast/headmast/HandOverStyle"), (0, u "COVER"), (0, u "Lcom/example/headmast/headmast/HandOverStyle;"), (0, .methodref 12 28), (0, .nameAndType 29 30), (0, u "of"), (0, u "(Lcom/example/headmast/headmast/Pin;ILcom/example/headmast/headmast/HandOverStyle;Z)Lcom/example/headmast/headmast/HandOver;"), (0, .methodref 12 32), (0, .nameAndType 33 20), (0, u "over"), (0, .class_ 35), (0, u "com/example/headmast/headmast/HandOverInFlightPinLaw"), (2, u "law"), (0, u "(IIIIII)Z")] 3

def k1m0 : Method := { name := "<init>", desc := "()V", sig := { parameters := [], returnType := none }, accessFlags := 1, code := none }
def k1c1 : Code := { maxStack := 7, maxLocals := 11, code := code, exceptionTable := #[], attributes := #[] }
def k1m1 : Method := { name := "law", desc := "(IIIIII)Z", sig := { parameters := [.int, .int, .int, .int, .int, .int], returnType := some .boolean }, accessFlags := 9, code := some k1c1 }
/-- com/example/headmast/headmast/HandOverInFlightPinLaw -/
def k1 : Class := { plain "com/example/headmast/headmast/HandOverInFlightPinLaw" (some 0) with
  accessFlags := 49
  interfaces := #[]
  cf := some (fileOf pool1 34 #[] #[{ accessFlags := 1, nameIndex := 5, descriptorIndex := 6, attributes := #[] }, { accessFlags := 9, nameIndex := 38, descriptorIndex := 39, attributes := #[] }] 49 2 #[] #[])
  fields := #[]
  methods := #[k1m0, k1m1]
  instanceTypes := #[]
  staticTypes := #[]
  resolved := Array.replicate 43 none
  statics := none }

def pool2 : Array CpInfo := pool [(1, .methodref 2 3), (0, .class_ 4), (0, .nameAndType 5 6), (0, u "java/lang/Object"), (0, u "<init>"), (0, u "()V"), (0, .class_ 8), (0, u "java/lang/Record")] 13

def k2c0 : Code := { maxStack := 1, maxLocals := 1, code := jdk_30_method_1_code, exceptionTable := #[], attributes := #[] }
def k2m0 : Method := { name := "<init>", desc := "()V", sig := { parameters := [], returnType := none }, accessFlags := 4, code := some k2c0 }
/-- java/lang/Record -/
def k2 : Class := { plain "java/lang/Record" (some 0) with
  accessFlags := 1057
  interfaces := #[]
  cf := some (fileOf pool2 7 #[] #[{ accessFlags := 4, nameIndex := 5, descriptorIndex := 6, attributes := #[] }] 1057 2 #[] #[])
  fields := #[]
  methods := #[k2m0]
  instanceTypes := #[]
  staticTypes := #[]
  resolved := Array.replicate 22 none
  statics := none }

def pool3 : Array CpInfo := pool [(1, .methodref 2 3), (0, .class_ 4), (0, .nameAndType 5 6), (0, u "java/lang/Record"), (0, u "<init>"), (0, u "()V"), (0, .fieldref 8 9), (0, .class_ 10), (0, .nameAndType 11 12), (0, u "com/example/headmast/headmast/Pin"), (0, u "section"), (0, u "I"), (0, .fieldref 8 14), (0, .nameAndType 15 12), (0, u "push"), (12, u "(II)V"), (4, u "()I")] 22

def k3c0 : Code := { maxStack := 2, maxLocals := 3, code := prog_14_method_1_code, exceptionTable := #[], attributes := #[] }
def k3m0 : Method := { name := "<init>", desc := "(II)V", sig := { parameters := [.int, .int], returnType := none }, accessFlags := 1, code := some k3c0 }
def k3c1 : Code := { maxStack := 1, maxLocals := 1, code := prog_14_method_6_code, exceptionTable := #[], attributes := #[] }
def k3m1 : Method := { name := "push", desc := "()I", sig := { parameters := [], returnType := some .int }, accessFlags := 1, code := some k3c1 }
/-- com/example/headmast/headmast/Pin -/
def k3 : Class := { plain "com/example/headmast/headmast/Pin" (some 2) with
  accessFlags := 49
  interfaces := #[]
  cf := some (fileOf pool3 8 #[] #[{ accessFlags := 1, nameIndex := 5, descriptorIndex := 28, attributes := #[] }, { accessFlags := 1, nameIndex := 15, descriptorIndex := 33, attributes := #[] }] 49 2 #[] #[{ accessFlags := 18, nameIndex := 11, descriptorIndex := 12, attributes := #[] }, { accessFlags := 18, nameIndex := 15, descriptorIndex := 12, attributes := #[] }])
  fields := #[{ name := "section", type := .int, accessFlags := 18, slot := 0, constantValue := 0 }, { name := "push", type := .int, accessFlags := 18, slot := 1, constantValue := 0 }]
  methods := #[k3m0, k3m1]
  instanceTypes := #[.int, .int]
  staticTypes := #[]
  resolved := Array.replicate 56 none
  statics := none }

def pool4 : Array CpInfo := pool [(1, .methodref 2 3), (0, .class_ 4), (0, .nameAndType 5 6), (0, u "java/lang/Record"), (0, u "<init>"), (0, u "()V"), (0, .fieldref 8 9), (0, .class_ 10), (0, .nameAndType 11 12), (0, u "com/example/headmast/headmast/HandOver"), (0, u "pin"), (0, u "Lcom/example/headmast/headmast/Pin;"), (0, .fieldref 8 14), (0, .nameAndType 15 16), (0, u "headerHeight"), (0, u "I"), (0, .fieldref 8 18), (0, .nameAndType 19 16), (0, u "pinned"), (0, .fieldref 8 21), (0, .nameAndType 22 16), (0, u "alpha"), (0, .fieldref 8 24), (0, .nameAndType 25 26), (0, u "over"), (0, u "Z"), (0, .methodref 28 29), (0, .class_ 30), (0, .nameAndType 31 32), (0, u "com/example/headmast/headmast/Pin"), (0, u "push"), (0, u "()I"), (0, .methodref 34 35), (0, .class_ 36), (0, .nameAndType 37 38), (0, u "com/example/headmast/headmast/HandOverStyle"), (0, u "followsPush"), (0, u "()Z"), (0, .methodref 34 40), (0, .nameAndType 41 38), (0, u "fades"), (0, .methodref 34 43), (0, .nameAndType 44 38), (0, u "drawsOver"), (0, .methodref 8 46), (0, .nameAndType 5 47), (0, u "(Lcom/example/headmast/headmast/Pin;IIIZ)V"), (2, u "inFlight"), (12, u "OPAQUE"), (5, u "of"), (0, u "(Lcom/example/headmast/headmast/Pin;ILcom/example/headmast/headmast/HandOverStyle;Z)Lcom/example/headmast/headmast/HandOver;")] 30

def k4c0 : Code := { maxStack := 2, maxLocals := 6, code := prog_5_method_1_code, exceptionTable := #[], attributes := #[] }
def k4m0 : Method := { name := "<init>", desc := "(Lcom/example/headmast/headmast/Pin;IIIZ)V", sig := { parameters := [(.object "com/example/headmast/headmast/Pin"), .int, .int, .int, .boolean], returnType := none }, accessFlags := 1, code := some k4c0 }
def k4c1 : Code := { maxStack := 7, maxLocals := 7, code := prog_5_method_2_code, exceptionTable := #[], attributes := #[] }
def k4m1 : Method := { name := "of", desc := "(Lcom/example/headmast/headmast/Pin;ILcom/example/headmast/headmast/HandOverStyle;Z)Lcom/example/headmast/headmast/HandOver;", sig := { parameters := [(.object "com/example/headmast/headmast/Pin"), .int, (.object "com/example/headmast/headmast/HandOverStyle"), .boolean], returnType := some (.object "com/example/headmast/headmast/HandOver") }, accessFlags := 8, code := some k4c1 }
def k4c2 : Code := { maxStack := 1, maxLocals := 1, code := prog_5_method_3_code, exceptionTable := #[], attributes := #[] }
def k4m2 : Method := { name := "inFlight", desc := "()Z", sig := { parameters := [], returnType := some .boolean }, accessFlags := 1, code := some k4c2 }
def k4c3 : Code := { maxStack := 1, maxLocals := 1, code := prog_5_method_12_code, exceptionTable := #[], attributes := #[] }
def k4m3 : Method := { name := "over", desc := "()Z", sig := { parameters := [], returnType := some .boolean }, accessFlags := 1, code := some k4c3 }
/-- com/example/headmast/headmast/HandOver -/
def k4 : Class := { plain "com/example/headmast/headmast/HandOver" (some 2) with
  accessFlags := 49
  interfaces := #[]
  cf := some (fileOf pool4 8 #[] #[{ accessFlags := 1, nameIndex := 5, descriptorIndex := 47, attributes := #[] }, { accessFlags := 8, nameIndex := 69, descriptorIndex := 70, attributes := #[] }, { accessFlags := 1, nameIndex := 50, descriptorIndex := 38, attributes := #[] }, { accessFlags := 1, nameIndex := 25, descriptorIndex := 38, attributes := #[] }] 49 2 #[] #[{ accessFlags := 18, nameIndex := 11, descriptorIndex := 12, attributes := #[] }, { accessFlags := 18, nameIndex := 15, descriptorIndex := 16, attributes := #[] }, { accessFlags := 18, nameIndex := 19, descriptorIndex := 16, attributes := #[] }, { accessFlags := 18, nameIndex := 22, descriptorIndex := 16, attributes := #[] }, { accessFlags := 18, nameIndex := 25, descriptorIndex := 26, attributes := #[] }, { accessFlags := 25, nameIndex := 63, descriptorIndex := 16, attributes := #[] }])
  fields := #[{ name := "pin", type := (.object "com/example/headmast/headmast/Pin"), accessFlags := 18, slot := 0, constantValue := 0 }, { name := "headerHeight", type := .int, accessFlags := 18, slot := 1, constantValue := 0 }, { name := "pinned", type := .int, accessFlags := 18, slot := 2, constantValue := 0 }, { name := "alpha", type := .int, accessFlags := 18, slot := 3, constantValue := 0 }, { name := "over", type := .boolean, accessFlags := 18, slot := 4, constantValue := 0 }, { name := "OPAQUE", type := .int, accessFlags := 25, slot := 0, constantValue := 0 }]
  methods := #[k4m0, k4m1, k4m2, k4m3]
  instanceTypes := #[(.object "com/example/headmast/headmast/Pin"), .int, .int, .int, .boolean]
  staticTypes := #[.int]
  resolved := Array.replicate 101 none
  statics := none }

def pool5 : Array CpInfo := pool [(1, .class_ 2), (0, u "java/lang/constant/Constable"), (0, .class_ 4), (0, u "java/lang/Object")] 6

/-- java/lang/constant/Constable -/
def k5 : Class := { plain "java/lang/constant/Constable" (some 0) with
  accessFlags := 1537
  interfaces := #[]
  cf := some (fileOf pool5 1 #[] #[] 1537 3 #[] #[])
  fields := #[]
  methods := #[]
  instanceTypes := #[]
  staticTypes := #[]
  resolved := Array.replicate 11 none
  statics := none }

def pool6 : Array CpInfo := pool [(1, .class_ 2), (0, u "java/lang/Comparable"), (0, .class_ 4), (0, u "java/lang/Object")] 7

/-- java/lang/Comparable -/
def k6 : Class := { plain "java/lang/Comparable" (some 0) with
  accessFlags := 1537
  interfaces := #[]
  cf := some (fileOf pool6 1 #[] #[] 1537 3 #[] #[])
  fields := #[]
  methods := #[]
  instanceTypes := #[]
  staticTypes := #[]
  resolved := Array.replicate 12 none
  statics := none }

def pool7 : Array CpInfo := pool [(1, .class_ 2), (0, u "java/io/Serializable"), (0, .class_ 4), (0, u "java/lang/Object")] 2

/-- java/io/Serializable -/
def k7 : Class := { plain "java/io/Serializable" (some 0) with
  accessFlags := 1537
  interfaces := #[]
  cf := some (fileOf pool7 1 #[] #[] 1537 3 #[] #[])
  fields := #[]
  methods := #[]
  instanceTypes := #[]
  staticTypes := #[]
  resolved := Array.replicate 7 none
  statics := none }

def pool8 : Array CpInfo := pool [(2, .class_ 4), (1, u "java/lang/Enum"), (0, u "name"), (0, u "Ljava/lang/String;"), (2, u "ordinal"), (0, u "I"), (1, .class_ 14), (1, u "java/lang/Object"), (4, u "hash"), (86, .class_ 108), (1, u "java/lang/Enum$EnumDesc"), (2, .class_ 112), (0, u "java/lang/constant/Constable"), (0, .class_ 114), (0, u "java/lang/Comparable"), (0, .class_ 116), (0, u "java/io/Serializable")] 87

/-- java/lang/Enum -/
def k8 : Class := { plain "java/lang/Enum" (some 0) with
  accessFlags := 1057
  interfaces := #[5, 6, 7]
  cf := some (fileOf pool8 2 #[.nestMembers #[106]] #[] 1057 12 #[111, 113, 115] #[{ accessFlags := 18, nameIndex := 5, descriptorIndex := 6, attributes := #[] }, { accessFlags := 18, nameIndex := 9, descriptorIndex := 10, attributes := #[] }, { accessFlags := 2, nameIndex := 19, descriptorIndex := 10, attributes := #[] }])
  fields := #[{ name := "name", type := (.object "java/lang/String"), accessFlags := 18, slot := 0, constantValue := 0 }, { name := "ordinal", type := .int, accessFlags := 18, slot := 1, constantValue := 0 }, { name := "hash", type := .int, accessFlags := 2, slot := 2, constantValue := 0 }]
  methods := #[]
  instanceTypes := #[(.object "java/lang/String"), .int, .int]
  staticTypes := #[]
  resolved := Array.replicate 204 none
  statics := none }

def pool9 : Array CpInfo := pool [(1, .class_ 2), (0, u "com/example/headmast/headmast/HandOverStyle"), (2, u "SLIDE"), (0, u "Lcom/example/headmast/headmast/HandOverStyle;"), (2, u "COVER"), (2, u "NONE"), (2, u "FADE"), (2, u "$VALUES"), (0, u "[Lcom/example/headmast/headmast/HandOverStyle;"), (6, .class_ 28), (1, u "java/lang/Enum"), (6, .fieldref 1 36), (0, .nameAndType 37 38), (0, u "followsPush"), (0, u "Z"), (0, .fieldref 1 40), (0, .nameAndType 41 38), (0, u "drawsOver"), (0, .fieldref 1 43), (0, .nameAndType 44 38), (0, u "fades"), (18, u "()Z")] 5

def k9c0 : Code := { maxStack := 1, maxLocals := 1, code := prog_7_method_4_code, exceptionTable := #[], attributes := #[] }
def k9m0 : Method := { name := "followsPush", desc := "()Z", sig := { parameters := [], returnType := some .boolean }, accessFlags := 0, code := some k9c0 }
def k9c1 : Code := { maxStack := 1, maxLocals := 1, code := prog_7_method_5_code, exceptionTable := #[], attributes := #[] }
def k9m1 : Method := { name := "drawsOver", desc := "()Z", sig := { parameters := [], returnType := some .boolean }, accessFlags := 0, code := some k9c1 }
def k9c2 : Code := { maxStack := 1, maxLocals := 1, code := prog_7_method_6_code, exceptionTable := #[], attributes := #[] }
def k9m2 : Method := { name := "fades", desc := "()Z", sig := { parameters := [], returnType := some .boolean }, accessFlags := 0, code := some k9c2 }
/-- com/example/headmast/headmast/HandOverStyle -/
def k9 : Class := { plain "com/example/headmast/headmast/HandOverStyle" (some 8) with
  accessFlags := 16433
  interfaces := #[]
  cf := some (fileOf pool9 1 #[] #[{ accessFlags := 0, nameIndex := 37, descriptorIndex := 63, attributes := #[] }, { accessFlags := 0, nameIndex := 41, descriptorIndex := 63, attributes := #[] }, { accessFlags := 0, nameIndex := 44, descriptorIndex := 63, attributes := #[] }] 16433 26 #[] #[{ accessFlags := 16409, nameIndex := 5, descriptorIndex := 6, attributes := #[] }, { accessFlags := 16409, nameIndex := 9, descriptorIndex := 6, attributes := #[] }, { accessFlags := 16409, nameIndex := 12, descriptorIndex := 6, attributes := #[] }, { accessFlags := 16409, nameIndex := 15, descriptorIndex := 6, attributes := #[] }, { accessFlags := 18, nameIndex := 37, descriptorIndex := 38, attributes := #[] }, { accessFlags := 18, nameIndex := 41, descriptorIndex := 38, attributes := #[] }, { accessFlags := 18, nameIndex := 44, descriptorIndex := 38, attributes := #[] }, { accessFlags := 4122, nameIndex := 18, descriptorIndex := 19, attributes := #[] }])
  fields := #[{ name := "SLIDE", type := (.object "com/example/headmast/headmast/HandOverStyle"), accessFlags := 16409, slot := 0, constantValue := 0 }, { name := "COVER", type := (.object "com/example/headmast/headmast/HandOverStyle"), accessFlags := 16409, slot := 1, constantValue := 0 }, { name := "NONE", type := (.object "com/example/headmast/headmast/HandOverStyle"), accessFlags := 16409, slot := 2, constantValue := 0 }, { name := "FADE", type := (.object "com/example/headmast/headmast/HandOverStyle"), accessFlags := 16409, slot := 3, constantValue := 0 }, { name := "followsPush", type := .boolean, accessFlags := 18, slot := 3, constantValue := 0 }, { name := "drawsOver", type := .boolean, accessFlags := 18, slot := 4, constantValue := 0 }, { name := "fades", type := .boolean, accessFlags := 18, slot := 5, constantValue := 0 }, { name := "$VALUES", type := (.array (.object "com/example/headmast/headmast/HandOverStyle")), accessFlags := 4122, slot := 4, constantValue := 0 }]
  methods := #[k9m0, k9m1, k9m2]
  instanceTypes := #[(.object "java/lang/String"), .int, .int, .boolean, .boolean, .boolean]
  staticTypes := #[(.object "com/example/headmast/headmast/HandOverStyle"), (.object "com/example/headmast/headmast/HandOverStyle"), (.object "com/example/headmast/headmast/HandOverStyle"), (.object "com/example/headmast/headmast/HandOverStyle"), (.array (.object "com/example/headmast/headmast/HandOverStyle"))]
  resolved := Array.replicate 69 none
  statics := some 0 }

def pool10 : Array CpInfo := pool [(1, u "java/lang/Cloneable"), (0, .class_ 1), (0, u "java/lang/Object"), (0, .class_ 3)] 3

/-- java/lang/Cloneable -/
def k10 : Class := { plain "java/lang/Cloneable" (some 0) with
  accessFlags := 1537
  interfaces := #[]
  cf := some (fileOf pool10 2 #[] #[] 1537 4 #[] #[])
  fields := #[]
  methods := #[]
  instanceTypes := #[]
  staticTypes := #[]
  resolved := Array.replicate 8 none
  statics := none }

/-- the primitive byte -/
def k11 : Class := { plain "byte" none with kind := .primitive 'B', accessFlags := 0x411 }
/-- [B -/
def k12 : Class := { plain "[B" (some 0) with kind := .array 11 .byte, interfaces := #[10, 7], accessFlags := 1041 }

/-- the primitive int -/
def k13 : Class := { plain "int" none with kind := .primitive 'I', accessFlags := 0x411 }
/-- [I -/
def k14 : Class := { plain "[I" (some 0) with kind := .array 13 .int, interfaces := #[10, 7], accessFlags := 1041 }

def heap : Heap := #[{ cls := 9, slots := #[.null, .ref 1, .null, .null, .null], vm := .statics 9 },
  { cls := 9, slots := #[.null, .int 0, .int 0, .int 0, .int 1, .int 0], vm := .none }]
def classes : Array Class := #[k0, k1, k2, k3, k4, k5, k6, k7, k8, k9, k10, k11, k12, k13, k14]
def interned : List (Array UInt16 × Addr) := []
def slotsUsed : Nat := 11
def theMethod : MethodId := ⟨1, 1⟩
def args0 : Array Value := #[.int 5, .int 5, .int 5, .int 5, .int 5, .int 5]
def aboutOver (below : List Frame) : State where
  vm := { classes := classes, interned := interned.toArray }
  heap := heap
  slotsUsed := slotsUsed
  threads := #[{ frames := .invoking theMethod args0 :: below }]
def below0 : List Frame := [.native { method := ⟨0, 0⟩, args := #[] }]
def about1 : State := aboutOver below0
def p0 : Program := .bare "" "" ""
def e0 : Env := launch0.env 0 0 0
theorem w_frames : about1.frames = Frame.invoking theMethod args0 :: below0 := rfl
set_option maxRecDepth 65536 in
theorem w_args : argsFit about1.vm theMethod args0 = true := by decide +kernel
set_option maxRecDepth 65536 in
theorem w_heap : heapFits about1 = true := by decide +kernel
set_option maxRecDepth 65536 in
theorem w_runnable : about1.curStatus? = some .runnable := by decide +kernel
set_option maxRecDepth 65536 in
theorem w_alone : about1.alone = true := by decide +kernel
set_option maxRecDepth 65536 in
theorem w_named : about1.methodNamed? x = some theMethod := by decide +kernel
set_option maxRecDepth 65536 in
theorem w_hears : about1.hears theMethod below0 = true := by decide +kernel
set_option maxRecDepth 65536 in
theorem w_ripe : about1.ripe theMethod args0 below0 = true := by decide +kernel
theorem w_running : about1.status = .running := rfl
set_option maxRecDepth 65536 in
theorem w_room : about1.hasRoom e0.platform room_1 = true :=
  launch0.hasRoom_least _ room_1 (by decide +kernel) (by decide +kernel) (by decide +kernel) (by decide +kernel) (by decide +kernel) (by decide +kernel)
theorem allAtoms_all (ts : List Jvm.Cond) (a : Array Jvm.Value) (st : Jvm.State) : (allAtoms ts).before a st = ts.all (fun c => c.before a st) := by
  induction ts with
  | nil => rfl
  | cons c t ih =>
    show (Jvm.Cond.and c (allAtoms t)).before a st = _
    rw [Jvm.Cond.before_and, ih, List.all_cons]
def words1 : List Jvm.Cond := Jvm.Cond.code x code maxLocals ret :: tables_1
/-- a 'code' word, met by the world's own term for the bytes: nothing is compared byte by byte -/
theorem code_word {y : MethodName} {bytes : ByteArray} {mx : Nat} {rt : Option FieldType} {a : Array Value} {s : State} {m : MethodId} {meth : Method} {c : Code} (h1 : s.methodNamed? y = some m) (h2 : s.vm.method? m = some meth) (h3 : meth.code = some c) (h4 : c.code = bytes)
    (h5 : (c.maxLocals == mx && c.exceptionTable.isEmpty && decide (c.maxStack ≤ mostOperands) && decide (meth.sig.returnType = rt) && !meth.locks && decide (parseMethodDescriptor y.desc = some meth.sig)) = true) : (Jvm.Cond.code y bytes mx rt).before a s = true := by
  simp only [Bool.and_eq_true, beq_iff_eq, Bool.not_eq_true', decide_eq_true_eq] at h5
  obtain ⟨⟨⟨⟨⟨g1, g2⟩, g3⟩, g4⟩, g5⟩, g6⟩ := h5
  simp [Cond.before, Cond.holds, Cond.value, h1, h2, h3, h4, g1, g2, g3, g4, g5, g6]
def isCode : Jvm.Cond → Bool
  | .code _ _ _ _ => true
  | _ => false
theorem all_split {L : List Jvm.Cond} {P : Jvm.Cond → Bool} (h1 : L.all (fun c => isCode c || P c) = true) (h2 : ∀ c ∈ L.filter isCode, P c = true) : L.all P = true := by
  refine List.all_eq_true.mpr fun c hc => ?_
  have h := List.all_eq_true.mp h1 c hc
  rcases Bool.eq_false_or_eq_true (isCode c) with hi | hi
  · exact h2 c (List.mem_filter.mpr ⟨hc, hi⟩)
  · simpa [hi] using h
set_option maxRecDepth 65536 in
theorem w_c0 : (Jvm.Cond.code x code maxLocals ret).before args0 about1 = true := code_word (m := ⟨1, 1⟩) (meth := k1m1) (c := k1c1) (by decide +kernel) rfl rfl rfl (by decide +kernel)
set_option maxRecDepth 65536 in
theorem w_c1 : (Jvm.Cond.code ({ cls := "com/example/headmast/headmast/Pin", name := "<init>", desc := "(II)V" } : Jvm.MethodName) prog_14_method_1_code (3 : Nat) (Option.none : Option Jvm.ClassFile.FieldType)).before args0 about1 = true := code_word (m := ⟨3, 0⟩) (meth := k3m0) (c := k3c0) (by decide +kernel) rfl rfl rfl (by decide +kernel)
set_option maxRecDepth 65536 in
theorem w_c2 : (Jvm.Cond.code ({ cls := "java/lang/Record", name := "<init>", desc := "()V" } : Jvm.MethodName) jdk_30_method_1_code (1 : Nat) (Option.none : Option Jvm.ClassFile.FieldType)).before args0 about1 = true := code_word (m := ⟨2, 0⟩) (meth := k2m0) (c := k2c0) (by decide +kernel) rfl rfl rfl (by decide +kernel)
set_option maxRecDepth 65536 in
theorem w_c3 : (Jvm.Cond.code ({ cls := "java/lang/Object", name := "<init>", desc := "()V" } : Jvm.MethodName) object_method_1_code (1 : Nat) (Option.none : Option Jvm.ClassFile.FieldType)).before args0 about1 = true := code_word (m := ⟨0, 0⟩) (meth := k0m0) (c := k0c0) (by decide +kernel) rfl rfl rfl (by decide +kernel)
set_option maxRecDepth 65536 in
theorem w_c4 : (Jvm.Cond.code ({ cls := "com/example/headmast/headmast/HandOver", name := "<init>", desc := "(Lcom/example/headmast/headmast/Pin;IIIZ)V" } : Jvm.MethodName) prog_5_method_1_code (6 : Nat) (Option.none : Option Jvm.ClassFile.FieldType)).before args0 about1 = true := code_word (m := ⟨4, 0⟩) (meth := k4m0) (c := k4c0) (by decide +kernel) rfl rfl rfl (by decide +kernel)
set_option maxRecDepth 65536 in
theorem w_c5 : (Jvm.Cond.code ({ cls := "com/example/headmast/headmast/HandOver", name := "inFlight", desc := "()Z" } : Jvm.MethodName) prog_5_method_3_code (1 : Nat) (Option.some Jvm.ClassFile.FieldType.boolean)).before args0 about1 = true := code_word (m := ⟨4, 2⟩) (meth := k4m2) (c := k4c2) (by decide +kernel) rfl rfl rfl (by decide +kernel)
set_option maxRecDepth 65536 in
theorem w_c6 : (Jvm.Cond.code ({ cls := "com/example/headmast/headmast/Pin", name := "push", desc := "()I" } : Jvm.MethodName) prog_14_method_6_code (1 : Nat) (Option.some Jvm.ClassFile.FieldType.int)).before args0 about1 = true := code_word (m := ⟨3, 1⟩) (meth := k3m1) (c := k3c1) (by decide +kernel) rfl rfl rfl (by decide +kernel)
set_option maxRecDepth 65536 in
theorem w_c7 : (Jvm.Cond.code ({ cls := "com/example/headmast/headmast/HandOver", name := "of", desc := "(Lcom/example/headmast/headmast/Pin;ILcom/example/headmast/headmast/HandOverStyle;Z)Lcom/example/headmast/headmast/HandOver;" } : Jvm.MethodName) prog_5_method_2_code (7 : Nat) (Option.some (Jvm.ClassFile.FieldType.object "com/example/headmast/headmast/HandOver"))).before args0 about1 = true := code_word (m := ⟨4, 1⟩) (meth := k4m1) (c := k4c1) (by decide +kernel) rfl rfl rfl (by decide +kernel)
set_option maxRecDepth 65536 in
theorem w_c8 : (Jvm.Cond.code ({ cls := "com/example/headmast/headmast/HandOverStyle", name := "followsPush", desc := "()Z" } : Jvm.MethodName) prog_7_method_4_code (1 : Nat) (Option.some Jvm.ClassFile.FieldType.boolean)).before args0 about1 = true := code_word (m := ⟨9, 0⟩) (meth := k9m0) (c := k9c0) (by decide +kernel) rfl rfl rfl (by decide +kernel)
set_option maxRecDepth 65536 in
theorem w_c9 : (Jvm.Cond.code ({ cls := "com/example/headmast/headmast/HandOver", name := "over", desc := "()Z" } : Jvm.MethodName) prog_5_method_12_code (1 : Nat) (Option.some Jvm.ClassFile.FieldType.boolean)).before args0 about1 = true := code_word (m := ⟨4, 3⟩) (meth := k4m3) (c := k4c3) (by decide +kernel) rfl rfl rfl (by decide +kernel)
set_option maxRecDepth 65536 in
theorem w_c10 : (Jvm.Cond.code ({ cls := "com/example/headmast/headmast/HandOverStyle", name := "fades", desc := "()Z" } : Jvm.MethodName) prog_7_method_6_code (1 : Nat) (Option.some Jvm.ClassFile.FieldType.boolean)).before args0 about1 = true := code_word (m := ⟨9, 2⟩) (meth := k9m2) (c := k9c2) (by decide +kernel) rfl rfl rfl (by decide +kernel)
set_option maxRecDepth 65536 in
theorem w_c11 : (Jvm.Cond.code ({ cls := "com/example/headmast/headmast/HandOverStyle", name := "drawsOver", desc := "()Z" } : Jvm.MethodName) prog_7_method_5_code (1 : Nat) (Option.some Jvm.ClassFile.FieldType.boolean)).before args0 about1 = true := code_word (m := ⟨9, 1⟩) (meth := k9m1) (c := k9c1) (by decide +kernel) rfl rfl rfl (by decide +kernel)
def codes1 : List Jvm.Cond := [Jvm.Cond.code x code maxLocals ret, Jvm.Cond.code ({ cls := "com/example/headmast/headmast/Pin", name := "<init>", desc := "(II)V" } : Jvm.MethodName) prog_14_method_1_code (3 : Nat) (Option.none : Option Jvm.ClassFile.FieldType), Jvm.Cond.code ({ cls := "java/lang/Record", name := "<init>", desc := "()V" } : Jvm.MethodName) jdk_30_method_1_code (1 : Nat) (Option.none : Option Jvm.ClassFile.FieldType), Jvm.Cond.code ({ cls := "java/lang/Object", name := "<init>", desc := "()V" } : Jvm.MethodName) object_method_1_code (1 : Nat) (Option.none : Option Jvm.ClassFile.FieldType), Jvm.Cond.code ({ cls := "com/example/headmast/headmast/HandOver", name := "<init>", desc := "(Lcom/example/headmast/headmast/Pin;IIIZ)V" } : Jvm.MethodName) prog_5_method_1_code (6 : Nat) (Option.none : Option Jvm.ClassFile.FieldType), Jvm.Cond.code ({ cls := "com/example/headmast/headmast/HandOver", name := "inFlight", desc := "()Z" } : Jvm.MethodName) prog_5_method_3_code (1 : Nat) (Option.some Jvm.ClassFile.FieldType.boolean), Jvm.Cond.code ({ cls := "com/example/headmast/headmast/Pin", name := "push", desc := "()I" } : Jvm.MethodName) prog_14_method_6_code (1 : Nat) (Option.some Jvm.ClassFile.FieldType.int), Jvm.Cond.code ({ cls := "com/example/headmast/headmast/HandOver", name := "of", desc := "(Lcom/example/headmast/headmast/Pin;ILcom/example/headmast/headmast/HandOverStyle;Z)Lcom/example/headmast/headmast/HandOver;" } : Jvm.MethodName) prog_5_method_2_code (7 : Nat) (Option.some (Jvm.ClassFile.FieldType.object "com/example/headmast/headmast/HandOver")), Jvm.Cond.code ({ cls := "com/example/headmast/headmast/HandOverStyle", name := "followsPush", desc := "()Z" } : Jvm.MethodName) prog_7_method_4_code (1 : Nat) (Option.some Jvm.ClassFile.FieldType.boolean), Jvm.Cond.code ({ cls := "com/example/headmast/headmast/HandOver", name := "over", desc := "()Z" } : Jvm.MethodName) prog_5_method_12_code (1 : Nat) (Option.some Jvm.ClassFile.FieldType.boolean), Jvm.Cond.code ({ cls := "com/example/headmast/headmast/HandOverStyle", name := "fades", desc := "()Z" } : Jvm.MethodName) prog_7_method_6_code (1 : Nat) (Option.some Jvm.ClassFile.FieldType.boolean), Jvm.Cond.code ({ cls := "com/example/headmast/headmast/HandOverStyle", name := "drawsOver", desc := "()Z" } : Jvm.MethodName) prog_7_method_5_code (1 : Nat) (Option.some Jvm.ClassFile.FieldType.boolean)]
set_option maxRecDepth 65536 in
theorem codes_eq : words1.filter isCode = codes1 := rfl
theorem w_codes : ∀ c ∈ words1.filter isCode, c.before args0 about1 = true := by
  rw [codes_eq]
  intro c hc
  simp only [codes1, List.mem_cons, List.not_mem_nil, or_false] at hc
  rcases hc with rfl | rfl | rfl | rfl | rfl | rfl | rfl | rfl | rfl | rfl | rfl | rfl
  · exact w_c0
  · exact w_c1
  · exact w_c2
  · exact w_c3
  · exact w_c4
  · exact w_c5
  · exact w_c6
  · exact w_c7
  · exact w_c8
  · exact w_c9
  · exact w_c10
  · exact w_c11
set_option maxRecDepth 65536 in
theorem w_t1 : (words1.take 24).all (fun c => isCode c || c.before args0 about1) = true := by decide +kernel
set_option maxRecDepth 65536 in
theorem w_t2 : ((words1.drop 24).take 24).all (fun c => isCode c || c.before args0 about1) = true := by decide +kernel
set_option maxRecDepth 65536 in
theorem w_t3 : (((words1.drop 24).drop 24).take 24).all (fun c => isCode c || c.before args0 about1) = true := by decide +kernel
set_option maxRecDepth 65536 in
theorem w_t4 : (((words1.drop 24).drop 24).drop 24).all (fun c => isCode c || c.before args0 about1) = true := by decide +kernel
theorem w_tables : (allAtoms (Jvm.Cond.code x code maxLocals ret :: tables_1)).before args0 about1 = true := by
  rw [allAtoms_all]
  show words1.all (fun c => c.before args0 about1) = true
  refine all_split ?_ w_codes
  rw [← List.take_append_drop 24 words1, List.all_append, w_t1, ← List.take_append_drop 24 (words1.drop 24), List.all_append, w_t2, ← List.take_append_drop 24 ((words1.drop 24).drop 24), List.all_append, w_t3, w_t4]
  rfl
set_option maxRecDepth 65536 in
theorem w_case : (Jvm.Cond.and given_1 narrow_1).before args0 about1 = true := by decide +kernel
theorem w_applies : (headSpec (Jvm.Cond.code x code maxLocals ret :: tables_1) room_1).applies x e0.platform about1 = true :=
  (Spec.applies_iff w_frames).mpr ⟨w_running, w_runnable, w_alone, w_named, w_hears, w_ripe, w_room, w_tables⟩
theorem atStart : AtStart classFile x code maxLocals ret World_1 tables_1 room_1 Calls_1 rest_1 Pre_1 launch0 p0 e0 about1 theMethod args0 below0 :=
  ⟨lists_1, trivial, launch0.admits_env _ _ _, launch0.least_env, fairChoices_fair.cas, fairChoices_fair.clock, w_frames, w_args, w_heap, w_applies, trivial, trivial, w_case⟩
end start1
theorem witness_1 : WitnessClaimed_1 := ⟨start1.p0, start1.e0, start1.about1, start1.theMethod, start1.args0, start1.below0, start1.atStart⟩
end Jvm.Pilot.@@N@@
