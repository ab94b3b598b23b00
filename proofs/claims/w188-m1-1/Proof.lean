import JvmDerived
import JvmDerived.Pilot.@@N@@Statement
import JvmDerived.Pilot.@@N@@Code
set_option linter.unusedVariables false
set_option linter.unusedSimpArgs false
namespace Jvm.RoadKit
open Sem ClassFile Op Lib Jvm.Stand Jvm.Free Jvm.LawKit
section New
variable {p : Program} {l : Launch} {e : Env} {R : Room} {s : State} {m : MethodId} {args : Array Value} {below : List Frame} {meth : Method} {c : Code} {T : State} {locs : List Loc} {cells slots : Nat}
theorem retI (X : Stand p l e R s m args below meth c T locs cells slots) (hx : p.tables.exec = Jvm.exec) {pc : Nat} {Ls : Array Slot} {z : Int32} {rest : List Value} (hret : meth.sig.returnType = some .int) (hd : decode c.code pc = .ok (.ireturn, 1)) {fs : List Frame}
    (hl : ∀ (f : JFrame) (acts : List Action), f.method = m → f.locked = none → f.entered = [] → (doReturn e (T.setTop f) acts (some (.int z))).1 = T.setFrames fs) : Steps p.tables e below (T.setTop (mkF m pc Ls (.int z :: rest))) (T.setFrames fs) :=
  retOut X hx hret rfl (Or.inl ⟨rfl, Or.inl rfl, z, rfl⟩) hd hl
end New
end Jvm.RoadKit
namespace Jvm.Pilot.@@N@@
open Jvm Jvm.ClassFile Sem Op Lib Jvm.Free Jvm.Stand Jvm.LawKit Jvm.RoadKit Bundle Jvm.Pilot.@@N@@.Jvm.D
def own_b (P : Prop) [Decidable P] : Int32 := if P then (1 : Int32) else (0 : Int32)
theorem own_bt {P : Prop} [Decidable P] (h : P) : own_b P = (1 : Int32) := if_pos h
theorem own_bf {P : Prop} [Decidable P] (h : ¬ P) : own_b P = (0 : Int32) := if_neg h
theorem own_btn {P : Prop} [Decidable P] (h : P) : ¬ (own_b P = (0 : Int32)) := by rw [own_bt h]; decide
theorem own_bfn {P : Prop} [Decidable P] (h : ¬ P) : ¬ (own_b P = (1 : Int32)) := by rw [own_bf h]; decide
theorem own_b_congr {P Q : Prop} [Decidable P] [Decidable Q] (h : P ↔ Q) : own_b P = own_b Q := by
  by_cases q : P
  · rw [own_bt q, own_bt (h.mp q)]
  · rw [own_bf q, own_bf fun z => q (h.mpr z)]
theorem own_eqI {args : Array Value} {s : State} {t : Term} {k : Int32} (h : (Jvm.Cond.eq t (.int k)).value args s none s [] = some true) : t.eval args s none [] s = some (.int k) := by
  obtain ⟨x, y, h1, h2, -, h4⟩ := cmp_v (Or.inl h)
  cases Option.some.inj (h2.symm.trans (Term.int_eval k))
  obtain ⟨z, rfl⟩ := h4
  rw [h1, gotT (Cond.eq_ints h1 h2) h]
theorem own_eqR {args : Array Value} {s : State} {t u : Term} {y : Addr} (hu : u.eval args s none [] s = some (.ref y)) (h : (Jvm.Cond.eq t u).value args s none s [] = some true) : t.eval args s none [] s = some (.ref y) := by
  obtain ⟨x, y', h1, h2, -, h4⟩ := cmp_v (Or.inl h)
  cases Option.some.inj (h2.symm.trans hu)
  rw [h1, gotT (eq_R h1 h2 h4.2 rfl) h]
theorem own_len {args : Array Value} {s : State} {t : Term} {a : Addr} {cl : Cell} {ty : FieldType} {k : Int32} (ev : t.eval args s none [] s = some (.ref a)) (A : Arr s s.heap a cl ty) (h : (Term.length t).eval args s none [] s = some (.int k)) : cl.slots.size < 2 ^ 31 ∧ cl.slots.size.toInt32 = k := by
  have ha : s.arrayAt? a = some cl := A.fin (Vm.Alike.refl _)
  by_cases hl : cl.slots.size < 2 ^ 31
  · rw [len_f ev ha hl] at h
    exact ⟨hl, by simpa using h⟩
  · simp [Term.eval, ev, ha, hl] at h
theorem own_eqL {args : Array Value} {s : State} {t : Term} {k : Int64} (h : (Jvm.Cond.eq t (.long k)).value args s none s [] = some true) : t.eval args s none [] s = some (.long k) := by
  obtain ⟨x, y, h1, h2, -, h4⟩ := cmp_v (Or.inl h)
  cases Option.some.inj (h2.symm.trans (long_at k))
  obtain ⟨z, rfl⟩ := h4
  rw [h1, gotT (eq_L h1 h2) h]
theorem own_inc (s d : Int32) (h : ¬ d < 1 ∧ ¬ 5 < d) : own_b ((s / (100 : Int32)) = d) = own_b (¬ (s < (d * (100 : Int32))) ∧ ¬ (((d * (100 : Int32)) + (99 : Int32)) < s)) := by
  refine own_b_congr ?_
  obtain ⟨h1, h2⟩ := h
  have q := c_idiv s 100 100 (by decide) (by decide)
  have m := c_imul d 100
  have p := c_iadd (d * 100) 99
  have r1 := rng32 s
  have r2 := rng32 d
  have r3 := rng32 (d * 100)
  have r4 := rng32 (d * 100 + 99)
  have e100 : (100 : Int32).toInt = 100 := by decide
  have e99 : (99 : Int32).toInt = 99 := by decide
  have e1 : (1 : Int32).toInt = 1 := by decide
  have e5 : (5 : Int32).toInt = 5 := by decide
  rw [e100] at m
  rw [e99] at p
  simp only [Int32.lt_iff_toInt_lt, ← Int32.toInt_inj, e1, e5] at *
  have m' : (d * 100).toInt = d.toInt * 100 := by omega
  have p' : (d * 100 + 99).toInt = d.toInt * 100 + 99 := by omega
  rw [p', m']
  obtain ⟨q1, q2⟩ := q
  rcases (by omega : s.toInt < 0 ∨ 0 ≤ s.toInt) with n | n
  · have := q2 n
    omega
  · have := q1 n
    omega

theorem d1_0 : decode prog_14_method_4_code 0 = .ok (.iload_n 1, 1) := by decide +kernel
theorem d1_1 : decode prog_14_method_4_code 1 = .ok (.bipush 100, 2) := by decide +kernel
theorem d1_3 : decode prog_14_method_4_code 3 = .ok (.idiv, 1) := by decide +kernel
theorem d1_4 : decode prog_14_method_4_code 4 = .ok (.aload_n 0, 1) := by decide +kernel
theorem d1_5 : decode prog_14_method_4_code 5 = .ok (.getfield 38, 3) := by decide +kernel
theorem d1_8 : decode prog_14_method_4_code 8 = .ok (.if_icmp .ne 7, 3) := by decide +kernel
theorem d1_11 : decode prog_14_method_4_code 11 = .ok (.iconst 1, 1) := by decide +kernel
theorem d1_12 : decode prog_14_method_4_code 12 = .ok (.goto 4, 3) := by decide +kernel
theorem d1_16 : decode prog_14_method_4_code 16 = .ok (.ireturn, 1) := by decide +kernel
theorem d1_15 : decode prog_14_method_4_code 15 = .ok (.iconst 0, 1) := by decide +kernel
theorem pn_com_example_prueba_prueba_Series : plainName "com/example/prueba/prueba/Series" = true := by first | (simp [plainName, overriddenIn]; done) | decide +kernel
theorem ef1 (m : MethodId) (tz : Addr) (x1 : Int32) : entryFrame m #[(.ref tz), (.int x1)] 2 = mkF m 0 #[.val (.ref tz), .val (.int x1)] [] := by first | (simp [entryFrame, mkF, argsToLocals, Value.category]; done) | rfl
def Q1 (Z : State) (tz : Addr) (x1 : Int32) (tz_firstDigit : Int32) (h0 : Heap) (n0 : Nat) (v : Option Value) (h : Heap) (L : List Loc) : Prop := v = some (.int (own_b ((x1 / (100 : Int32)) = tz_firstDigit))) ∧ Fr n0 L ∧ h = h0
set_option maxRecDepth 65536 in
set_option maxHeartbeats 40000000 in
theorem rm1 (l : Launch) (Z : State) (a0 : Array Value) (hw : ∀ d ∈ tables_1, d.before a0 Z = true) (ws : List Jvm.Cond) (tz : Addr) (x1 : Int32) (tz_firstDigit : Int32) (h0 : Heap) (n0 : Nat) (Z0 : n0 ≤ h0.size) (O0 : Old Z n0 h0) (F_tz_firstDigit : Fld Z h0 tz "com/example/prueba/prueba/Series" "firstDigit" "I" (.int tz_firstDigit)) :
    MetFree l (⟨"com/example/prueba/prueba/Series", "includes", "(I)Z"⟩ : MethodName) (head1 (Jvm.Cond.code (⟨"com/example/prueba/prueba/Series", "includes", "(I)Z"⟩ : MethodName) prog_14_method_4_code 2 (some .boolean) :: ws) ({ frames := 0, cells := 0, slots := 0, locals := 0 } : Room)) (fun a U => a = #[(.ref tz), (.int x1)] ∧ Z.Warmed39 U.vm ∧ U.heap = h0) (fun _ _ _ _ _ => True) (fun _ U o U' => ∃ v L, o = .returned v ∧ Q1 Z tz x1 tz_firstDigit h0 n0 v U'.heap L ∧ FrameEnd U o U' L ({ frames := 0, cells := 0, slots := 0, locals := 0 } : Room).cells ({ frames := 0, cells := 0, slots := 0, locals := 0 } : Room).slots) := by
  refine MetFree.of_bodySF (plainFor_of_name pn_com_example_prueba_prueba_Series) hisR ?_
  intro p e s m args below meth c s₁ Bd hml0 hP hK
  obtain ⟨rfl, hZ, hh⟩ := hP
  have hx := Bd.exec
  have hby := Bd.bytes
  have hml : c.maxLocals = 2 := hml0
  have hown : s.vm.findClass "com/example/prueba/prueba/Series" = some m.cls := findClass_of_methodNamed Bd.named
  have hnm := (name_of_methodNamed Bd.named Bd.method).1
  have X0 : Stand p l e ({ frames := 0, cells := 0, slots := 0, locals := 0 } : Room) s m #[(.ref tz), (.int x1)] below meth c s₁ [] 0 0 := Stand.of_body Bd
  have e0 : s₁.heap = h0 := by rw [← hh, Bd.state]; rfl
  have N0 := Fr.nil n0
  have K0 : Keep h0 h0 [] := Keep.refl _ _
  have pre0 : ∀ t, Steps p.tables e below (s₁.setTop (mkF m 0 #[.val (.ref tz), .val (.int x1)] [])) t → Steps p.tables e below (s₁.setTop (entryFrame m #[(.ref tz), (.int x1)] 2)) t := fun t k => castTop (ef1 m tz x1) k
  obtain ⟨T1, X1, e1, st1⟩ := getF X0 hx hZ hown (host := "") (Or.inl (hw _ (List.mem_of_getElem? (i := 9) rfl))) Via.refl e0 F_tz_firstDigit (g := (mkF m 5 #[.val (.ref tz), .val (.int x1)] [(.ref tz), (.int (x1 / (100 : Int32)))])) rfl rfl (hb hby d1_5)
  have pre2 : ∀ t, Steps p.tables e below (T1.setTop (mkF m 8 #[.val (.ref tz), .val (.int x1)] [(.int tz_firstDigit), (.int (x1 / (100 : Int32)))])) t → Steps p.tables e below (s₁.setTop (entryFrame m #[(.ref tz), (.int x1)] 2)) t := by
    intro t kt
    refine pre0 t ?_
    show Steps p.tables e below (s₁.setTop (mkF m 0 #[.val (.ref tz), .val (.int x1)] [])) _
    refine XS.iloadN X0.here hx rfl (hb hby d1_0) rfl ?_
    show Steps p.tables e below (s₁.setTop (mkF m 1 #[.val (.ref tz), .val (.int x1)] [(.int x1)])) _
    refine XS.bipush X0.here hx rfl (hb hby d1_1) ?_
    show Steps p.tables e below (s₁.setTop (mkF m 3 #[.val (.ref tz), .val (.int x1)] [(.int (100 : Int32)), (.int x1)])) _
    refine XS.idiv X0.here hx rfl (hb hby d1_3) rfl (by decide) ?_
    show Steps p.tables e below (s₁.setTop (mkF m 4 #[.val (.ref tz), .val (.int x1)] [(.int (x1 / (100 : Int32)))])) _
    refine XS.aloadN X0.here hx rfl (hb hby d1_4) rfl rfl ?_
    show Steps p.tables e below (s₁.setTop (mkF m 5 #[.val (.ref tz), .val (.int x1)] [(.ref tz), (.int (x1 / (100 : Int32)))])) _
    refine st1 _ ?_
    exact kt
  by_cases hc8 : (x1 / (100 : Int32)) = tz_firstDigit
  · skip
    obtain ⟨fs, hr, hrun, hended, hW, hsame⟩ := X1.leave (v := some (.int (1 : Int32))) (fun h => by rw [Bd.returns] at h; cases h)
    refine ⟨_, _, pre2 _ ?_, hrun, hended, _, _, rfl, ?_, ⟨_, rfl⟩, hW, hsame.mono (by decide) (by decide)⟩
    · show Steps p.tables e below (T1.setTop (mkF m 8 #[.val (.ref tz), .val (.int x1)] [(.int tz_firstDigit), (.int (x1 / (100 : Int32)))])) _
      refine XS.icmpNo X1.here hx rfl (hb hby d1_8) rfl (teq hc8).2 ?_
      show Steps p.tables e below (T1.setTop (mkF m 11 #[.val (.ref tz), .val (.int x1)] [])) _
      refine XS.iconst X1.here hx rfl (hb hby d1_11) ?_
      show Steps p.tables e below (T1.setTop (mkF m 12 #[.val (.ref tz), .val (.int x1)] [(.int (1 : Int32))])) _
      refine XS.goto X1.here hx rfl (pc0 := 12) (pc' := 16) rfl (hb hby d1_12) (by decide) (by decide) ?_
      show Steps p.tables e below (T1.setTop (mkF m 16 #[.val (.ref tz), .val (.int x1)] [(.int (1 : Int32))])) _
      exact retN X1 hx (t := .boolean) Bd.returns (by simp) (hb hby d1_16) hr
    · show Q1 Z tz x1 tz_firstDigit h0 n0 _ T1.heap _
      rw [e1]
      exact ⟨(by simp [own_b, hc8]), N0, rfl⟩
  · skip
    obtain ⟨fs, hr, hrun, hended, hW, hsame⟩ := X1.leave (v := some (.int (0 : Int32))) (fun h => by rw [Bd.returns] at h; cases h)
    refine ⟨_, _, pre2 _ ?_, hrun, hended, _, _, rfl, ?_, ⟨_, rfl⟩, hW, hsame.mono (by decide) (by decide)⟩
    · show Steps p.tables e below (T1.setTop (mkF m 8 #[.val (.ref tz), .val (.int x1)] [(.int tz_firstDigit), (.int (x1 / (100 : Int32)))])) _
      refine XS.icmpYes X1.here hx rfl (pc0 := 8) (pc' := 15) rfl (hb hby d1_8) rfl (feq hc8).2 (by decide) (by decide) ?_
      show Steps p.tables e below (T1.setTop (mkF m 15 #[.val (.ref tz), .val (.int x1)] [])) _
      refine XS.iconst X1.here hx rfl (hb hby d1_15) ?_
      show Steps p.tables e below (T1.setTop (mkF m 16 #[.val (.ref tz), .val (.int x1)] [(.int (0 : Int32))])) _
      exact retN X1 hx (t := .boolean) Bd.returns (by simp) (hb hby d1_16) hr
    · show Q1 Z tz x1 tz_firstDigit h0 n0 _ T1.heap _
      rw [e1]
      exact ⟨(by simp [own_b, hc8]), N0, rfl⟩
theorem pd_0 : parseMethodDescriptor "(I)Z" = some ⟨[.int], some .boolean⟩ := by decide +kernel
theorem pn_com_example_prueba_prueba_SeriesIncludesPinLaw : plainName "com/example/prueba/prueba/SeriesIncludesPinLaw" = true := by first | (simp [plainName, overriddenIn]; done) | decide +kernel
theorem ef0 (m : MethodId) (x1 : Int32) (x2 : Int32) (x3 : Int32) : entryFrame m #[(.int x1), (.int x2), (.int x3)] maxLocals = mkF m 0 #[.val (.int x1), .val (.int x2), .val (.int x3), .unset, .unset, .unset, .unset, .unset, .unset, .unset] [] := by first | (simp [entryFrame, mkF, argsToLocals, Value.category, maxLocals]; done) | rfl
def Q0 (Z : State) (x1 : Int32) (x2 : Int32) (x3 : Int32) (st_INFORMATIONAL : Addr) (st_SUCCESSFUL : Addr) (st_REDIRECTION : Addr) (st_CLIENT_ERROR : Addr) (st_SERVER_ERROR : Addr) (h0 : Heap) (n0 : Nat) (v : Option Value) (h : Heap) (L : List Loc) : Prop := v = some (.int (1 : Int32)) ∧ Fr n0 L ∧ h = h0
set_option maxRecDepth 65536 in
set_option maxHeartbeats 40000000 in
theorem rm0 (l : Launch) (Z : State) (a0 : Array Value) (hw : ∀ d ∈ tables_1, d.before a0 Z = true) (ws : List Jvm.Cond) (x1 : Int32) (x2 : Int32) (x3 : Int32) (st_INFORMATIONAL : Addr) (st_SUCCESSFUL : Addr) (st_REDIRECTION : Addr) (st_CLIENT_ERROR : Addr) (st_SERVER_ERROR : Addr) (h0 : Heap) (n0 : Nat) (Z0 : n0 ≤ h0.size) (O0 : Old Z n0 h0) (S_INFORMATIONAL : Sta Z Z.heap "com/example/prueba/prueba/Series" "INFORMATIONAL" "Lcom/example/prueba/prueba/Series;" (.ref st_INFORMATIONAL)) (EZ_st_INFORMATIONAL : Exa Z Z.heap st_INFORMATIONAL "com/example/prueba/prueba/Series") (FZ_st_INFORMATIONAL_firstDigit : Fld Z Z.heap st_INFORMATIONAL "com/example/prueba/prueba/Series" "firstDigit" "I" (.int (1 : Int32))) (S_SUCCESSFUL : Sta Z Z.heap "com/example/prueba/prueba/Series" "SUCCESSFUL" "Lcom/example/prueba/prueba/Series;" (.ref st_SUCCESSFUL)) (EZ_st_SUCCESSFUL : Exa Z Z.heap st_SUCCESSFUL "com/example/prueba/prueba/Series") (FZ_st_SUCCESSFUL_firstDigit : Fld Z Z.heap st_SUCCESSFUL "com/example/prueba/prueba/Series" "firstDigit" "I" (.int (2 : Int32))) (S_REDIRECTION : Sta Z Z.heap "com/example/prueba/prueba/Series" "REDIRECTION" "Lcom/example/prueba/prueba/Series;" (.ref st_REDIRECTION)) (EZ_st_REDIRECTION : Exa Z Z.heap st_REDIRECTION "com/example/prueba/prueba/Series") (FZ_st_REDIRECTION_firstDigit : Fld Z Z.heap st_REDIRECTION "com/example/prueba/prueba/Series" "firstDigit" "I" (.int (3 : Int32))) (S_CLIENT_ERROR : Sta Z Z.heap "com/example/prueba/prueba/Series" "CLIENT_ERROR" "Lcom/example/prueba/prueba/Series;" (.ref st_CLIENT_ERROR)) (EZ_st_CLIENT_ERROR : Exa Z Z.heap st_CLIENT_ERROR "com/example/prueba/prueba/Series") (FZ_st_CLIENT_ERROR_firstDigit : Fld Z Z.heap st_CLIENT_ERROR "com/example/prueba/prueba/Series" "firstDigit" "I" (.int (4 : Int32))) (S_SERVER_ERROR : Sta Z Z.heap "com/example/prueba/prueba/Series" "SERVER_ERROR" "Lcom/example/prueba/prueba/Series;" (.ref st_SERVER_ERROR)) (EZ_st_SERVER_ERROR : Exa Z Z.heap st_SERVER_ERROR "com/example/prueba/prueba/Series") (FZ_st_SERVER_ERROR_firstDigit : Fld Z Z.heap st_SERVER_ERROR "com/example/prueba/prueba/Series" "firstDigit" "I" (.int (5 : Int32))) :
    MetFree l x (head1 (Jvm.Cond.code x code maxLocals ret :: ws) room_1) (fun a U => a = #[(.int x1), (.int x2), (.int x3)] ∧ Z.Warmed39 U.vm ∧ U.heap = h0) (fun _ _ _ _ _ => True) (fun _ U o U' => ∃ v L, o = .returned v ∧ Q0 Z x1 x2 x3 st_INFORMATIONAL st_SUCCESSFUL st_REDIRECTION st_CLIENT_ERROR st_SERVER_ERROR h0 n0 v U'.heap L ∧ FrameEnd U o U' L room_1.cells room_1.slots) := by
  refine MetFree.of_bodySF (plainFor_of_name pn_com_example_prueba_prueba_SeriesIncludesPinLaw) hisR ?_
  intro p e s m args below meth c s₁ Bd hml0 hP hK
  obtain ⟨rfl, hZ, hh⟩ := hP
  have hx := Bd.exec
  have hby := Bd.bytes
  have hml : c.maxLocals = 10 := hml0
  have hown : s.vm.findClass "com/example/prueba/prueba/SeriesIncludesPinLaw" = some m.cls := findClass_of_methodNamed Bd.named
  have hnm := (name_of_methodNamed Bd.named Bd.method).1
  have X0 : Stand p l e room_1 s m #[(.int x1), (.int x2), (.int x3)] below meth c s₁ [] 0 0 := Stand.of_body Bd
  have e0 : s₁.heap = h0 := by rw [← hh, Bd.state]; rfl
  have N0 := Fr.nil n0
  have K0 : Keep h0 h0 [] := Keep.refl _ _
  have pre0 : ∀ t, Steps p.tables e below (s₁.setTop (mkF m 0 #[.val (.int x1), .val (.int x2), .val (.int x3), .unset, .unset, .unset, .unset, .unset, .unset, .unset] [])) t → Steps p.tables e below (s₁.setTop (entryFrame m #[(.int x1), (.int x2), (.int x3)] maxLocals)) t := fun t k => castTop (ef0 m x1 x2 x3) k
  have C3 : Exa Z h0 st_INFORMATIONAL "com/example/prueba/prueba/Series" := EZ_st_INFORMATIONAL.ext O0.2
  have F4 : Fld Z h0 st_INFORMATIONAL "com/example/prueba/prueba/Series" "firstDigit" "I" (.int (1 : Int32)) := FZ_st_INFORMATIONAL_firstDigit.ext O0.2
  have C5 : Exa Z h0 st_SUCCESSFUL "com/example/prueba/prueba/Series" := EZ_st_SUCCESSFUL.ext O0.2
  have F6 : Fld Z h0 st_SUCCESSFUL "com/example/prueba/prueba/Series" "firstDigit" "I" (.int (2 : Int32)) := FZ_st_SUCCESSFUL_firstDigit.ext O0.2
  have C7 : Exa Z h0 st_REDIRECTION "com/example/prueba/prueba/Series" := EZ_st_REDIRECTION.ext O0.2
  have F8 : Fld Z h0 st_REDIRECTION "com/example/prueba/prueba/Series" "firstDigit" "I" (.int (3 : Int32)) := FZ_st_REDIRECTION_firstDigit.ext O0.2
  have C9 : Exa Z h0 st_CLIENT_ERROR "com/example/prueba/prueba/Series" := EZ_st_CLIENT_ERROR.ext O0.2
  have F10 : Fld Z h0 st_CLIENT_ERROR "com/example/prueba/prueba/Series" "firstDigit" "I" (.int (4 : Int32)) := FZ_st_CLIENT_ERROR_firstDigit.ext O0.2
  have C11 : Exa Z h0 st_SERVER_ERROR "com/example/prueba/prueba/Series" := EZ_st_SERVER_ERROR.ext O0.2
  have F12 : Fld Z h0 st_SERVER_ERROR "com/example/prueba/prueba/Series" "firstDigit" "I" (.int (5 : Int32)) := FZ_st_SERVER_ERROR_firstDigit.ext O0.2
  have pre13 : ∀ t, Steps p.tables e below (s₁.setTop (mkF m 7 #[.val (.int x1), .val (.int x2), .val (.int x3), .val (.int ((x1 &&& (2147483647 : Int32)) % (5 : Int32))), .unset, .unset, .unset, .unset, .unset, .unset] [])) t → Steps p.tables e below (s₁.setTop (entryFrame m #[(.int x1), (.int x2), (.int x3)] maxLocals)) t := by
    intro t kt
    refine pre0 t ?_
    show Steps p.tables e below (s₁.setTop (mkF m 0 #[.val (.int x1), .val (.int x2), .val (.int x3), .unset, .unset, .unset, .unset, .unset, .unset, .unset] [])) _
    refine XS.iloadN X0.here hx rfl (hb hby at_0) rfl ?_
    show Steps p.tables e below (s₁.setTop (mkF m 1 #[.val (.int x1), .val (.int x2), .val (.int x3), .unset, .unset, .unset, .unset, .unset, .unset, .unset] [(.int x1)])) _
    refine X0.ldcInt hx hown (mvT hZ (hw _ (List.mem_of_getElem? (i := 0) rfl))) (g := (mkF m 1 #[.val (.int x1), .val (.int x2), .val (.int x3), .unset, .unset, .unset, .unset, .unset, .unset, .unset] [(.int x1)])) rfl (hb hby at_1) _ ?_
    show Steps p.tables e below (s₁.setTop (mkF m 3 #[.val (.int x1), .val (.int x2), .val (.int x3), .unset, .unset, .unset, .unset, .unset, .unset, .unset] [(.int (2147483647 : Int32)), (.int x1)])) _
    refine XS.iand X0.here hx rfl (hb hby at_3) rfl ?_
    show Steps p.tables e below (s₁.setTop (mkF m 4 #[.val (.int x1), .val (.int x2), .val (.int x3), .unset, .unset, .unset, .unset, .unset, .unset, .unset] [(.int (x1 &&& (2147483647 : Int32)))])) _
    refine XS.iconst X0.here hx rfl (hb hby at_4) ?_
    show Steps p.tables e below (s₁.setTop (mkF m 5 #[.val (.int x1), .val (.int x2), .val (.int x3), .unset, .unset, .unset, .unset, .unset, .unset, .unset] [(.int (5 : Int32)), (.int (x1 &&& (2147483647 : Int32)))])) _
    refine iremM X0 hx rfl (hb hby at_5) rfl (by decide) ?_
    show Steps p.tables e below (s₁.setTop (mkF m 6 #[.val (.int x1), .val (.int x2), .val (.int x3), .unset, .unset, .unset, .unset, .unset, .unset, .unset] [(.int ((x1 &&& (2147483647 : Int32)) % (5 : Int32)))])) _
    refine XS.istoreN X0.here hx rfl (hb hby at_6) rfl (l' := #[.val (.int x1), .val (.int x2), .val (.int x3), .val (.int ((x1 &&& (2147483647 : Int32)) % (5 : Int32))), .unset, .unset, .unset, .unset, .unset, .unset]) rfl ?_
    exact kt
  obtain ⟨ser_14, dig_14, T14, L14, X14, e14, N14, J14_0, J14_1, J14_2, k14⟩ : ∃ (ser_14 : Addr) (dig_14 : Int32) (T14 : State) (L14 : List Loc), Stand p l e room_1 s m #[(.int x1), (.int x2), (.int x3)] below meth c T14 L14 0 0 ∧ T14.heap = h0 ∧ Fr n0 L14 ∧ Exa Z Z.heap ser_14 "com/example/prueba/prueba/Series" ∧ Fld Z Z.heap ser_14 "com/example/prueba/prueba/Series" "firstDigit" "I" (.int dig_14) ∧ (¬ dig_14 < 1 ∧ ¬ 5 < dig_14) ∧ ∀ t, Steps p.tables e below (T14.setTop (mkF m 78 #[.val (.int x1), .val (.int x2), .val (.int x3), .val (.int ((x1 &&& (2147483647 : Int32)) % (5 : Int32))), .val (.ref ser_14), .val (.int dig_14), .unset, .unset, .unset, .unset] [])) t → Steps p.tables e below (s₁.setTop (mkF m 7 #[.val (.int x1), .val (.int x2), .val (.int x3), .val (.int ((x1 &&& (2147483647 : Int32)) % (5 : Int32))), .unset, .unset, .unset, .unset, .unset, .unset] [])) t := by
    have pj14 : ∀ t, Steps p.tables e below (s₁.setTop (mkF m 7 #[.val (.int x1), .val (.int x2), .val (.int x3), .val (.int ((x1 &&& (2147483647 : Int32)) % (5 : Int32))), .unset, .unset, .unset, .unset, .unset, .unset] [])) t → Steps p.tables e below (s₁.setTop (mkF m 7 #[.val (.int x1), .val (.int x2), .val (.int x3), .val (.int ((x1 &&& (2147483647 : Int32)) % (5 : Int32))), .unset, .unset, .unset, .unset, .unset, .unset] [])) t := fun _ k => k
    have pre15 : ∀ t, Steps p.tables e below (s₁.setTop (mkF m 8 #[.val (.int x1), .val (.int x2), .val (.int x3), .val (.int ((x1 &&& (2147483647 : Int32)) % (5 : Int32))), .unset, .unset, .unset, .unset, .unset, .unset] [(.int ((x1 &&& (2147483647 : Int32)) % (5 : Int32)))])) t → Steps p.tables e below (s₁.setTop (mkF m 7 #[.val (.int x1), .val (.int x2), .val (.int x3), .val (.int ((x1 &&& (2147483647 : Int32)) % (5 : Int32))), .unset, .unset, .unset, .unset, .unset, .unset] [])) t := by
      intro t kt
      refine pj14 t ?_
      show Steps p.tables e below (s₁.setTop (mkF m 7 #[.val (.int x1), .val (.int x2), .val (.int x3), .val (.int ((x1 &&& (2147483647 : Int32)) % (5 : Int32))), .unset, .unset, .unset, .unset, .unset, .unset] [])) _
      refine XS.iloadN X0.here hx rfl (hb hby at_7) rfl ?_
      exact kt
    by_cases hc8 : ((x1 &&& (2147483647 : Int32)) % (5 : Int32)) = (0 : Int32)
    · skip
      obtain ⟨T16, X16, e16, st16⟩ := getS2 X0 hx hZ hown (host := "") (Or.inl (hw _ (List.mem_of_getElem? (i := 1) rfl))) Via.refl e0 (S_INFORMATIONAL.ext O0.2) (g := (mkF m 11 #[.val (.int x1), .val (.int x2), .val (.int x3), .val (.int ((x1 &&& (2147483647 : Int32)) % (5 : Int32))), .unset, .unset, .unset, .unset, .unset, .unset] [])) rfl (hb hby at_11)
      have pre17 : ∀ t, Steps p.tables e below (T16.setTop (mkF m 78 #[.val (.int x1), .val (.int x2), .val (.int x3), .val (.int ((x1 &&& (2147483647 : Int32)) % (5 : Int32))), .val (.ref st_INFORMATIONAL), .val (.int (1 : Int32)), .unset, .unset, .unset, .unset] [])) t → Steps p.tables e below (s₁.setTop (mkF m 7 #[.val (.int x1), .val (.int x2), .val (.int x3), .val (.int ((x1 &&& (2147483647 : Int32)) % (5 : Int32))), .unset, .unset, .unset, .unset, .unset, .unset] [])) t := by
        intro t kt
        refine pre15 t ?_
        show Steps p.tables e below (s₁.setTop (mkF m 8 #[.val (.int x1), .val (.int x2), .val (.int x3), .val (.int ((x1 &&& (2147483647 : Int32)) % (5 : Int32))), .unset, .unset, .unset, .unset, .unset, .unset] [(.int ((x1 &&& (2147483647 : Int32)) % (5 : Int32)))])) _
        refine XS.ifNo X0.here hx rfl (hb hby at_8) rfl ((if0 _ _).trans (teq hc8).2) ?_
        show Steps p.tables e below (s₁.setTop (mkF m 11 #[.val (.int x1), .val (.int x2), .val (.int x3), .val (.int ((x1 &&& (2147483647 : Int32)) % (5 : Int32))), .unset, .unset, .unset, .unset, .unset, .unset] [])) _
        refine st16 _ ?_
        show Steps p.tables e below (T16.setTop (mkF m 14 #[.val (.int x1), .val (.int x2), .val (.int x3), .val (.int ((x1 &&& (2147483647 : Int32)) % (5 : Int32))), .unset, .unset, .unset, .unset, .unset, .unset] [(.ref st_INFORMATIONAL)])) _
        refine XS.astore X16.here hx rfl (hb hby at_14) rfl rfl (l' := #[.val (.int x1), .val (.int x2), .val (.int x3), .val (.int ((x1 &&& (2147483647 : Int32)) % (5 : Int32))), .val (.ref st_INFORMATIONAL), .unset, .unset, .unset, .unset, .unset]) rfl ?_
        show Steps p.tables e below (T16.setTop (mkF m 16 #[.val (.int x1), .val (.int x2), .val (.int x3), .val (.int ((x1 &&& (2147483647 : Int32)) % (5 : Int32))), .val (.ref st_INFORMATIONAL), .unset, .unset, .unset, .unset, .unset] [])) _
        refine XS.iconst X16.here hx rfl (hb hby at_16) ?_
        show Steps p.tables e below (T16.setTop (mkF m 17 #[.val (.int x1), .val (.int x2), .val (.int x3), .val (.int ((x1 &&& (2147483647 : Int32)) % (5 : Int32))), .val (.ref st_INFORMATIONAL), .unset, .unset, .unset, .unset, .unset] [(.int (1 : Int32))])) _
        refine XS.istore X16.here hx rfl (hb hby at_17) rfl (l' := #[.val (.int x1), .val (.int x2), .val (.int x3), .val (.int ((x1 &&& (2147483647 : Int32)) % (5 : Int32))), .val (.ref st_INFORMATIONAL), .val (.int (1 : Int32)), .unset, .unset, .unset, .unset]) rfl ?_
        show Steps p.tables e below (T16.setTop (mkF m 19 #[.val (.int x1), .val (.int x2), .val (.int x3), .val (.int ((x1 &&& (2147483647 : Int32)) % (5 : Int32))), .val (.ref st_INFORMATIONAL), .val (.int (1 : Int32)), .unset, .unset, .unset, .unset] [])) _
        refine XS.goto X16.here hx rfl (pc0 := 19) (pc' := 78) rfl (hb hby at_19) (by decide) (by decide) ?_
        exact kt
      exact ⟨st_INFORMATIONAL, (1 : Int32), T16, _, X16, e16, N0, EZ_st_INFORMATIONAL, FZ_st_INFORMATIONAL_firstDigit, (by decide), pre17⟩
    · skip
      have pre18 : ∀ t, Steps p.tables e below (s₁.setTop (mkF m 24 #[.val (.int x1), .val (.int x2), .val (.int x3), .val (.int ((x1 &&& (2147483647 : Int32)) % (5 : Int32))), .unset, .unset, .unset, .unset, .unset, .unset] [(.int (1 : Int32)), (.int ((x1 &&& (2147483647 : Int32)) % (5 : Int32)))])) t → Steps p.tables e below (s₁.setTop (mkF m 7 #[.val (.int x1), .val (.int x2), .val (.int x3), .val (.int ((x1 &&& (2147483647 : Int32)) % (5 : Int32))), .unset, .unset, .unset, .unset, .unset, .unset] [])) t := by
        intro t kt
        refine pre15 t ?_
        show Steps p.tables e below (s₁.setTop (mkF m 8 #[.val (.int x1), .val (.int x2), .val (.int x3), .val (.int ((x1 &&& (2147483647 : Int32)) % (5 : Int32))), .unset, .unset, .unset, .unset, .unset, .unset] [(.int ((x1 &&& (2147483647 : Int32)) % (5 : Int32)))])) _
        refine XS.ifYes X0.here hx rfl (pc0 := 8) (pc' := 22) rfl (hb hby at_8) rfl ((if0 _ _).trans (feq hc8).2) (by decide) (by decide) ?_
        show Steps p.tables e below (s₁.setTop (mkF m 22 #[.val (.int x1), .val (.int x2), .val (.int x3), .val (.int ((x1 &&& (2147483647 : Int32)) % (5 : Int32))), .unset, .unset, .unset, .unset, .unset, .unset] [])) _
        refine XS.iloadN X0.here hx rfl (hb hby at_22) rfl ?_
        show Steps p.tables e below (s₁.setTop (mkF m 23 #[.val (.int x1), .val (.int x2), .val (.int x3), .val (.int ((x1 &&& (2147483647 : Int32)) % (5 : Int32))), .unset, .unset, .unset, .unset, .unset, .unset] [(.int ((x1 &&& (2147483647 : Int32)) % (5 : Int32)))])) _
        refine XS.iconst X0.here hx rfl (hb hby at_23) ?_
        exact kt
      by_cases hc24 : ((x1 &&& (2147483647 : Int32)) % (5 : Int32)) = (1 : Int32)
      · skip
        obtain ⟨T19, X19, e19, st19⟩ := getS2 X0 hx hZ hown (host := "") (Or.inl (hw _ (List.mem_of_getElem? (i := 11) rfl))) Via.refl e0 (S_SUCCESSFUL.ext O0.2) (g := (mkF m 27 #[.val (.int x1), .val (.int x2), .val (.int x3), .val (.int ((x1 &&& (2147483647 : Int32)) % (5 : Int32))), .unset, .unset, .unset, .unset, .unset, .unset] [])) rfl (hb hby at_27)
        have pre20 : ∀ t, Steps p.tables e below (T19.setTop (mkF m 78 #[.val (.int x1), .val (.int x2), .val (.int x3), .val (.int ((x1 &&& (2147483647 : Int32)) % (5 : Int32))), .val (.ref st_SUCCESSFUL), .val (.int (2 : Int32)), .unset, .unset, .unset, .unset] [])) t → Steps p.tables e below (s₁.setTop (mkF m 7 #[.val (.int x1), .val (.int x2), .val (.int x3), .val (.int ((x1 &&& (2147483647 : Int32)) % (5 : Int32))), .unset, .unset, .unset, .unset, .unset, .unset] [])) t := by
          intro t kt
          refine pre18 t ?_
          show Steps p.tables e below (s₁.setTop (mkF m 24 #[.val (.int x1), .val (.int x2), .val (.int x3), .val (.int ((x1 &&& (2147483647 : Int32)) % (5 : Int32))), .unset, .unset, .unset, .unset, .unset, .unset] [(.int (1 : Int32)), (.int ((x1 &&& (2147483647 : Int32)) % (5 : Int32)))])) _
          refine XS.icmpNo X0.here hx rfl (hb hby at_24) rfl (teq hc24).2 ?_
          show Steps p.tables e below (s₁.setTop (mkF m 27 #[.val (.int x1), .val (.int x2), .val (.int x3), .val (.int ((x1 &&& (2147483647 : Int32)) % (5 : Int32))), .unset, .unset, .unset, .unset, .unset, .unset] [])) _
          refine st19 _ ?_
          show Steps p.tables e below (T19.setTop (mkF m 30 #[.val (.int x1), .val (.int x2), .val (.int x3), .val (.int ((x1 &&& (2147483647 : Int32)) % (5 : Int32))), .unset, .unset, .unset, .unset, .unset, .unset] [(.ref st_SUCCESSFUL)])) _
          refine XS.astore X19.here hx rfl (hb hby at_30) rfl rfl (l' := #[.val (.int x1), .val (.int x2), .val (.int x3), .val (.int ((x1 &&& (2147483647 : Int32)) % (5 : Int32))), .val (.ref st_SUCCESSFUL), .unset, .unset, .unset, .unset, .unset]) rfl ?_
          show Steps p.tables e below (T19.setTop (mkF m 32 #[.val (.int x1), .val (.int x2), .val (.int x3), .val (.int ((x1 &&& (2147483647 : Int32)) % (5 : Int32))), .val (.ref st_SUCCESSFUL), .unset, .unset, .unset, .unset, .unset] [])) _
          refine XS.iconst X19.here hx rfl (hb hby at_32) ?_
          show Steps p.tables e below (T19.setTop (mkF m 33 #[.val (.int x1), .val (.int x2), .val (.int x3), .val (.int ((x1 &&& (2147483647 : Int32)) % (5 : Int32))), .val (.ref st_SUCCESSFUL), .unset, .unset, .unset, .unset, .unset] [(.int (2 : Int32))])) _
          refine XS.istore X19.here hx rfl (hb hby at_33) rfl (l' := #[.val (.int x1), .val (.int x2), .val (.int x3), .val (.int ((x1 &&& (2147483647 : Int32)) % (5 : Int32))), .val (.ref st_SUCCESSFUL), .val (.int (2 : Int32)), .unset, .unset, .unset, .unset]) rfl ?_
          show Steps p.tables e below (T19.setTop (mkF m 35 #[.val (.int x1), .val (.int x2), .val (.int x3), .val (.int ((x1 &&& (2147483647 : Int32)) % (5 : Int32))), .val (.ref st_SUCCESSFUL), .val (.int (2 : Int32)), .unset, .unset, .unset, .unset] [])) _
          refine XS.goto X19.here hx rfl (pc0 := 35) (pc' := 78) rfl (hb hby at_35) (by decide) (by decide) ?_
          exact kt
        exact ⟨st_SUCCESSFUL, (2 : Int32), T19, _, X19, e19, N0, EZ_st_SUCCESSFUL, FZ_st_SUCCESSFUL_firstDigit, (by decide), pre20⟩
      · skip
        have pre21 : ∀ t, Steps p.tables e below (s₁.setTop (mkF m 40 #[.val (.int x1), .val (.int x2), .val (.int x3), .val (.int ((x1 &&& (2147483647 : Int32)) % (5 : Int32))), .unset, .unset, .unset, .unset, .unset, .unset] [(.int (2 : Int32)), (.int ((x1 &&& (2147483647 : Int32)) % (5 : Int32)))])) t → Steps p.tables e below (s₁.setTop (mkF m 7 #[.val (.int x1), .val (.int x2), .val (.int x3), .val (.int ((x1 &&& (2147483647 : Int32)) % (5 : Int32))), .unset, .unset, .unset, .unset, .unset, .unset] [])) t := by
          intro t kt
          refine pre18 t ?_
          show Steps p.tables e below (s₁.setTop (mkF m 24 #[.val (.int x1), .val (.int x2), .val (.int x3), .val (.int ((x1 &&& (2147483647 : Int32)) % (5 : Int32))), .unset, .unset, .unset, .unset, .unset, .unset] [(.int (1 : Int32)), (.int ((x1 &&& (2147483647 : Int32)) % (5 : Int32)))])) _
          refine XS.icmpYes X0.here hx rfl (pc0 := 24) (pc' := 38) rfl (hb hby at_24) rfl (feq hc24).2 (by decide) (by decide) ?_
          show Steps p.tables e below (s₁.setTop (mkF m 38 #[.val (.int x1), .val (.int x2), .val (.int x3), .val (.int ((x1 &&& (2147483647 : Int32)) % (5 : Int32))), .unset, .unset, .unset, .unset, .unset, .unset] [])) _
          refine XS.iloadN X0.here hx rfl (hb hby at_38) rfl ?_
          show Steps p.tables e below (s₁.setTop (mkF m 39 #[.val (.int x1), .val (.int x2), .val (.int x3), .val (.int ((x1 &&& (2147483647 : Int32)) % (5 : Int32))), .unset, .unset, .unset, .unset, .unset, .unset] [(.int ((x1 &&& (2147483647 : Int32)) % (5 : Int32)))])) _
          refine XS.iconst X0.here hx rfl (hb hby at_39) ?_
          exact kt
        by_cases hc40 : ((x1 &&& (2147483647 : Int32)) % (5 : Int32)) = (2 : Int32)
        · skip
          obtain ⟨T22, X22, e22, st22⟩ := getS2 X0 hx hZ hown (host := "") (Or.inl (hw _ (List.mem_of_getElem? (i := 17) rfl))) Via.refl e0 (S_REDIRECTION.ext O0.2) (g := (mkF m 43 #[.val (.int x1), .val (.int x2), .val (.int x3), .val (.int ((x1 &&& (2147483647 : Int32)) % (5 : Int32))), .unset, .unset, .unset, .unset, .unset, .unset] [])) rfl (hb hby at_43)
          have pre23 : ∀ t, Steps p.tables e below (T22.setTop (mkF m 78 #[.val (.int x1), .val (.int x2), .val (.int x3), .val (.int ((x1 &&& (2147483647 : Int32)) % (5 : Int32))), .val (.ref st_REDIRECTION), .val (.int (3 : Int32)), .unset, .unset, .unset, .unset] [])) t → Steps p.tables e below (s₁.setTop (mkF m 7 #[.val (.int x1), .val (.int x2), .val (.int x3), .val (.int ((x1 &&& (2147483647 : Int32)) % (5 : Int32))), .unset, .unset, .unset, .unset, .unset, .unset] [])) t := by
            intro t kt
            refine pre21 t ?_
            show Steps p.tables e below (s₁.setTop (mkF m 40 #[.val (.int x1), .val (.int x2), .val (.int x3), .val (.int ((x1 &&& (2147483647 : Int32)) % (5 : Int32))), .unset, .unset, .unset, .unset, .unset, .unset] [(.int (2 : Int32)), (.int ((x1 &&& (2147483647 : Int32)) % (5 : Int32)))])) _
            refine XS.icmpNo X0.here hx rfl (hb hby at_40) rfl (teq hc40).2 ?_
            show Steps p.tables e below (s₁.setTop (mkF m 43 #[.val (.int x1), .val (.int x2), .val (.int x3), .val (.int ((x1 &&& (2147483647 : Int32)) % (5 : Int32))), .unset, .unset, .unset, .unset, .unset, .unset] [])) _
            refine st22 _ ?_
            show Steps p.tables e below (T22.setTop (mkF m 46 #[.val (.int x1), .val (.int x2), .val (.int x3), .val (.int ((x1 &&& (2147483647 : Int32)) % (5 : Int32))), .unset, .unset, .unset, .unset, .unset, .unset] [(.ref st_REDIRECTION)])) _
            refine XS.astore X22.here hx rfl (hb hby at_46) rfl rfl (l' := #[.val (.int x1), .val (.int x2), .val (.int x3), .val (.int ((x1 &&& (2147483647 : Int32)) % (5 : Int32))), .val (.ref st_REDIRECTION), .unset, .unset, .unset, .unset, .unset]) rfl ?_
            show Steps p.tables e below (T22.setTop (mkF m 48 #[.val (.int x1), .val (.int x2), .val (.int x3), .val (.int ((x1 &&& (2147483647 : Int32)) % (5 : Int32))), .val (.ref st_REDIRECTION), .unset, .unset, .unset, .unset, .unset] [])) _
            refine XS.iconst X22.here hx rfl (hb hby at_48) ?_
            show Steps p.tables e below (T22.setTop (mkF m 49 #[.val (.int x1), .val (.int x2), .val (.int x3), .val (.int ((x1 &&& (2147483647 : Int32)) % (5 : Int32))), .val (.ref st_REDIRECTION), .unset, .unset, .unset, .unset, .unset] [(.int (3 : Int32))])) _
            refine XS.istore X22.here hx rfl (hb hby at_49) rfl (l' := #[.val (.int x1), .val (.int x2), .val (.int x3), .val (.int ((x1 &&& (2147483647 : Int32)) % (5 : Int32))), .val (.ref st_REDIRECTION), .val (.int (3 : Int32)), .unset, .unset, .unset, .unset]) rfl ?_
            show Steps p.tables e below (T22.setTop (mkF m 51 #[.val (.int x1), .val (.int x2), .val (.int x3), .val (.int ((x1 &&& (2147483647 : Int32)) % (5 : Int32))), .val (.ref st_REDIRECTION), .val (.int (3 : Int32)), .unset, .unset, .unset, .unset] [])) _
            refine XS.goto X22.here hx rfl (pc0 := 51) (pc' := 78) rfl (hb hby at_51) (by decide) (by decide) ?_
            exact kt
          exact ⟨st_REDIRECTION, (3 : Int32), T22, _, X22, e22, N0, EZ_st_REDIRECTION, FZ_st_REDIRECTION_firstDigit, (by decide), pre23⟩
        · skip
          have pre24 : ∀ t, Steps p.tables e below (s₁.setTop (mkF m 56 #[.val (.int x1), .val (.int x2), .val (.int x3), .val (.int ((x1 &&& (2147483647 : Int32)) % (5 : Int32))), .unset, .unset, .unset, .unset, .unset, .unset] [(.int (3 : Int32)), (.int ((x1 &&& (2147483647 : Int32)) % (5 : Int32)))])) t → Steps p.tables e below (s₁.setTop (mkF m 7 #[.val (.int x1), .val (.int x2), .val (.int x3), .val (.int ((x1 &&& (2147483647 : Int32)) % (5 : Int32))), .unset, .unset, .unset, .unset, .unset, .unset] [])) t := by
            intro t kt
            refine pre21 t ?_
            show Steps p.tables e below (s₁.setTop (mkF m 40 #[.val (.int x1), .val (.int x2), .val (.int x3), .val (.int ((x1 &&& (2147483647 : Int32)) % (5 : Int32))), .unset, .unset, .unset, .unset, .unset, .unset] [(.int (2 : Int32)), (.int ((x1 &&& (2147483647 : Int32)) % (5 : Int32)))])) _
            refine XS.icmpYes X0.here hx rfl (pc0 := 40) (pc' := 54) rfl (hb hby at_40) rfl (feq hc40).2 (by decide) (by decide) ?_
            show Steps p.tables e below (s₁.setTop (mkF m 54 #[.val (.int x1), .val (.int x2), .val (.int x3), .val (.int ((x1 &&& (2147483647 : Int32)) % (5 : Int32))), .unset, .unset, .unset, .unset, .unset, .unset] [])) _
            refine XS.iloadN X0.here hx rfl (hb hby at_54) rfl ?_
            show Steps p.tables e below (s₁.setTop (mkF m 55 #[.val (.int x1), .val (.int x2), .val (.int x3), .val (.int ((x1 &&& (2147483647 : Int32)) % (5 : Int32))), .unset, .unset, .unset, .unset, .unset, .unset] [(.int ((x1 &&& (2147483647 : Int32)) % (5 : Int32)))])) _
            refine XS.iconst X0.here hx rfl (hb hby at_55) ?_
            exact kt
          by_cases hc56 : ((x1 &&& (2147483647 : Int32)) % (5 : Int32)) = (3 : Int32)
          · skip
            obtain ⟨T25, X25, e25, st25⟩ := getS2 X0 hx hZ hown (host := "") (Or.inl (hw _ (List.mem_of_getElem? (i := 15) rfl))) Via.refl e0 (S_CLIENT_ERROR.ext O0.2) (g := (mkF m 59 #[.val (.int x1), .val (.int x2), .val (.int x3), .val (.int ((x1 &&& (2147483647 : Int32)) % (5 : Int32))), .unset, .unset, .unset, .unset, .unset, .unset] [])) rfl (hb hby at_59)
            have pre26 : ∀ t, Steps p.tables e below (T25.setTop (mkF m 78 #[.val (.int x1), .val (.int x2), .val (.int x3), .val (.int ((x1 &&& (2147483647 : Int32)) % (5 : Int32))), .val (.ref st_CLIENT_ERROR), .val (.int (4 : Int32)), .unset, .unset, .unset, .unset] [])) t → Steps p.tables e below (s₁.setTop (mkF m 7 #[.val (.int x1), .val (.int x2), .val (.int x3), .val (.int ((x1 &&& (2147483647 : Int32)) % (5 : Int32))), .unset, .unset, .unset, .unset, .unset, .unset] [])) t := by
              intro t kt
              refine pre24 t ?_
              show Steps p.tables e below (s₁.setTop (mkF m 56 #[.val (.int x1), .val (.int x2), .val (.int x3), .val (.int ((x1 &&& (2147483647 : Int32)) % (5 : Int32))), .unset, .unset, .unset, .unset, .unset, .unset] [(.int (3 : Int32)), (.int ((x1 &&& (2147483647 : Int32)) % (5 : Int32)))])) _
              refine XS.icmpNo X0.here hx rfl (hb hby at_56) rfl (teq hc56).2 ?_
              show Steps p.tables e below (s₁.setTop (mkF m 59 #[.val (.int x1), .val (.int x2), .val (.int x3), .val (.int ((x1 &&& (2147483647 : Int32)) % (5 : Int32))), .unset, .unset, .unset, .unset, .unset, .unset] [])) _
              refine st25 _ ?_
              show Steps p.tables e below (T25.setTop (mkF m 62 #[.val (.int x1), .val (.int x2), .val (.int x3), .val (.int ((x1 &&& (2147483647 : Int32)) % (5 : Int32))), .unset, .unset, .unset, .unset, .unset, .unset] [(.ref st_CLIENT_ERROR)])) _
              refine XS.astore X25.here hx rfl (hb hby at_62) rfl rfl (l' := #[.val (.int x1), .val (.int x2), .val (.int x3), .val (.int ((x1 &&& (2147483647 : Int32)) % (5 : Int32))), .val (.ref st_CLIENT_ERROR), .unset, .unset, .unset, .unset, .unset]) rfl ?_
              show Steps p.tables e below (T25.setTop (mkF m 64 #[.val (.int x1), .val (.int x2), .val (.int x3), .val (.int ((x1 &&& (2147483647 : Int32)) % (5 : Int32))), .val (.ref st_CLIENT_ERROR), .unset, .unset, .unset, .unset, .unset] [])) _
              refine XS.iconst X25.here hx rfl (hb hby at_64) ?_
              show Steps p.tables e below (T25.setTop (mkF m 65 #[.val (.int x1), .val (.int x2), .val (.int x3), .val (.int ((x1 &&& (2147483647 : Int32)) % (5 : Int32))), .val (.ref st_CLIENT_ERROR), .unset, .unset, .unset, .unset, .unset] [(.int (4 : Int32))])) _
              refine XS.istore X25.here hx rfl (hb hby at_65) rfl (l' := #[.val (.int x1), .val (.int x2), .val (.int x3), .val (.int ((x1 &&& (2147483647 : Int32)) % (5 : Int32))), .val (.ref st_CLIENT_ERROR), .val (.int (4 : Int32)), .unset, .unset, .unset, .unset]) rfl ?_
              show Steps p.tables e below (T25.setTop (mkF m 67 #[.val (.int x1), .val (.int x2), .val (.int x3), .val (.int ((x1 &&& (2147483647 : Int32)) % (5 : Int32))), .val (.ref st_CLIENT_ERROR), .val (.int (4 : Int32)), .unset, .unset, .unset, .unset] [])) _
              refine XS.goto X25.here hx rfl (pc0 := 67) (pc' := 78) rfl (hb hby at_67) (by decide) (by decide) ?_
              exact kt
            exact ⟨st_CLIENT_ERROR, (4 : Int32), T25, _, X25, e25, N0, EZ_st_CLIENT_ERROR, FZ_st_CLIENT_ERROR_firstDigit, (by decide), pre26⟩
          · skip
            obtain ⟨T27, X27, e27, st27⟩ := getS2 X0 hx hZ hown (host := "") (Or.inl (hw _ (List.mem_of_getElem? (i := 13) rfl))) Via.refl e0 (S_SERVER_ERROR.ext O0.2) (g := (mkF m 70 #[.val (.int x1), .val (.int x2), .val (.int x3), .val (.int ((x1 &&& (2147483647 : Int32)) % (5 : Int32))), .unset, .unset, .unset, .unset, .unset, .unset] [])) rfl (hb hby at_70)
            have pre28 : ∀ t, Steps p.tables e below (T27.setTop (mkF m 78 #[.val (.int x1), .val (.int x2), .val (.int x3), .val (.int ((x1 &&& (2147483647 : Int32)) % (5 : Int32))), .val (.ref st_SERVER_ERROR), .val (.int (5 : Int32)), .unset, .unset, .unset, .unset] [])) t → Steps p.tables e below (s₁.setTop (mkF m 7 #[.val (.int x1), .val (.int x2), .val (.int x3), .val (.int ((x1 &&& (2147483647 : Int32)) % (5 : Int32))), .unset, .unset, .unset, .unset, .unset, .unset] [])) t := by
              intro t kt
              refine pre24 t ?_
              show Steps p.tables e below (s₁.setTop (mkF m 56 #[.val (.int x1), .val (.int x2), .val (.int x3), .val (.int ((x1 &&& (2147483647 : Int32)) % (5 : Int32))), .unset, .unset, .unset, .unset, .unset, .unset] [(.int (3 : Int32)), (.int ((x1 &&& (2147483647 : Int32)) % (5 : Int32)))])) _
              refine XS.icmpYes X0.here hx rfl (pc0 := 56) (pc' := 70) rfl (hb hby at_56) rfl (feq hc56).2 (by decide) (by decide) ?_
              show Steps p.tables e below (s₁.setTop (mkF m 70 #[.val (.int x1), .val (.int x2), .val (.int x3), .val (.int ((x1 &&& (2147483647 : Int32)) % (5 : Int32))), .unset, .unset, .unset, .unset, .unset, .unset] [])) _
              refine st27 _ ?_
              show Steps p.tables e below (T27.setTop (mkF m 73 #[.val (.int x1), .val (.int x2), .val (.int x3), .val (.int ((x1 &&& (2147483647 : Int32)) % (5 : Int32))), .unset, .unset, .unset, .unset, .unset, .unset] [(.ref st_SERVER_ERROR)])) _
              refine XS.astore X27.here hx rfl (hb hby at_73) rfl rfl (l' := #[.val (.int x1), .val (.int x2), .val (.int x3), .val (.int ((x1 &&& (2147483647 : Int32)) % (5 : Int32))), .val (.ref st_SERVER_ERROR), .unset, .unset, .unset, .unset, .unset]) rfl ?_
              show Steps p.tables e below (T27.setTop (mkF m 75 #[.val (.int x1), .val (.int x2), .val (.int x3), .val (.int ((x1 &&& (2147483647 : Int32)) % (5 : Int32))), .val (.ref st_SERVER_ERROR), .unset, .unset, .unset, .unset, .unset] [])) _
              refine XS.iconst X27.here hx rfl (hb hby at_75) ?_
              show Steps p.tables e below (T27.setTop (mkF m 76 #[.val (.int x1), .val (.int x2), .val (.int x3), .val (.int ((x1 &&& (2147483647 : Int32)) % (5 : Int32))), .val (.ref st_SERVER_ERROR), .unset, .unset, .unset, .unset, .unset] [(.int (5 : Int32))])) _
              refine XS.istore X27.here hx rfl (hb hby at_76) rfl (l' := #[.val (.int x1), .val (.int x2), .val (.int x3), .val (.int ((x1 &&& (2147483647 : Int32)) % (5 : Int32))), .val (.ref st_SERVER_ERROR), .val (.int (5 : Int32)), .unset, .unset, .unset, .unset]) rfl ?_
              exact kt
            exact ⟨st_SERVER_ERROR, (5 : Int32), T27, _, X27, e27, N0, EZ_st_SERVER_ERROR, FZ_st_SERVER_ERROR_firstDigit, (by decide), pre28⟩
  have C29 : Exa Z h0 ser_14 "com/example/prueba/prueba/Series" := J14_0.ext O0.2
  have F30 : Fld Z h0 ser_14 "com/example/prueba/prueba/Series" "firstDigit" "I" (.int dig_14) := J14_1.ext O0.2
  have pre31 : ∀ t, Steps p.tables e below (T14.setTop (mkF m 90 #[.val (.int x1), .val (.int x2), .val (.int x3), .val (.int ((x1 &&& (2147483647 : Int32)) % (5 : Int32))), .val (.ref ser_14), .val (.int dig_14), .val (.int (dig_14 * (100 : Int32))), .val (.int (x3 &&& (3 : Int32))), .unset, .unset] [])) t → Steps p.tables e below (s₁.setTop (entryFrame m #[(.int x1), (.int x2), (.int x3)] maxLocals)) t := by
    intro t kt
    refine pre13 t ?_
    show Steps p.tables e below (s₁.setTop (mkF m 7 #[.val (.int x1), .val (.int x2), .val (.int x3), .val (.int ((x1 &&& (2147483647 : Int32)) % (5 : Int32))), .unset, .unset, .unset, .unset, .unset, .unset] [])) _
    refine k14 _ ?_
    show Steps p.tables e below (T14.setTop (mkF m 78 #[.val (.int x1), .val (.int x2), .val (.int x3), .val (.int ((x1 &&& (2147483647 : Int32)) % (5 : Int32))), .val (.ref ser_14), .val (.int dig_14), .unset, .unset, .unset, .unset] [])) _
    refine XS.iload X14.here hx rfl (hb hby at_78) rfl ?_
    show Steps p.tables e below (T14.setTop (mkF m 80 #[.val (.int x1), .val (.int x2), .val (.int x3), .val (.int ((x1 &&& (2147483647 : Int32)) % (5 : Int32))), .val (.ref ser_14), .val (.int dig_14), .unset, .unset, .unset, .unset] [(.int dig_14)])) _
    refine XS.bipush X14.here hx rfl (hb hby at_80) ?_
    show Steps p.tables e below (T14.setTop (mkF m 82 #[.val (.int x1), .val (.int x2), .val (.int x3), .val (.int ((x1 &&& (2147483647 : Int32)) % (5 : Int32))), .val (.ref ser_14), .val (.int dig_14), .unset, .unset, .unset, .unset] [(.int (100 : Int32)), (.int dig_14)])) _
    refine XS.imul X14.here hx rfl (hb hby at_82) rfl ?_
    show Steps p.tables e below (T14.setTop (mkF m 83 #[.val (.int x1), .val (.int x2), .val (.int x3), .val (.int ((x1 &&& (2147483647 : Int32)) % (5 : Int32))), .val (.ref ser_14), .val (.int dig_14), .unset, .unset, .unset, .unset] [(.int (dig_14 * (100 : Int32)))])) _
    refine XS.istore X14.here hx rfl (hb hby at_83) rfl (l' := #[.val (.int x1), .val (.int x2), .val (.int x3), .val (.int ((x1 &&& (2147483647 : Int32)) % (5 : Int32))), .val (.ref ser_14), .val (.int dig_14), .val (.int (dig_14 * (100 : Int32))), .unset, .unset, .unset]) rfl ?_
    show Steps p.tables e below (T14.setTop (mkF m 85 #[.val (.int x1), .val (.int x2), .val (.int x3), .val (.int ((x1 &&& (2147483647 : Int32)) % (5 : Int32))), .val (.ref ser_14), .val (.int dig_14), .val (.int (dig_14 * (100 : Int32))), .unset, .unset, .unset] [])) _
    refine XS.iloadN X14.here hx rfl (hb hby at_85) rfl ?_
    show Steps p.tables e below (T14.setTop (mkF m 86 #[.val (.int x1), .val (.int x2), .val (.int x3), .val (.int ((x1 &&& (2147483647 : Int32)) % (5 : Int32))), .val (.ref ser_14), .val (.int dig_14), .val (.int (dig_14 * (100 : Int32))), .unset, .unset, .unset] [(.int x3)])) _
    refine XS.iconst X14.here hx rfl (hb hby at_86) ?_
    show Steps p.tables e below (T14.setTop (mkF m 87 #[.val (.int x1), .val (.int x2), .val (.int x3), .val (.int ((x1 &&& (2147483647 : Int32)) % (5 : Int32))), .val (.ref ser_14), .val (.int dig_14), .val (.int (dig_14 * (100 : Int32))), .unset, .unset, .unset] [(.int (3 : Int32)), (.int x3)])) _
    refine XS.iand X14.here hx rfl (hb hby at_87) rfl ?_
    show Steps p.tables e below (T14.setTop (mkF m 88 #[.val (.int x1), .val (.int x2), .val (.int x3), .val (.int ((x1 &&& (2147483647 : Int32)) % (5 : Int32))), .val (.ref ser_14), .val (.int dig_14), .val (.int (dig_14 * (100 : Int32))), .unset, .unset, .unset] [(.int (x3 &&& (3 : Int32)))])) _
    refine XS.istore X14.here hx rfl (hb hby at_88) rfl (l' := #[.val (.int x1), .val (.int x2), .val (.int x3), .val (.int ((x1 &&& (2147483647 : Int32)) % (5 : Int32))), .val (.ref ser_14), .val (.int dig_14), .val (.int (dig_14 * (100 : Int32))), .val (.int (x3 &&& (3 : Int32))), .unset, .unset]) rfl ?_
    exact kt
  obtain ⟨stt_32, T32, L32, X32, e32, N32, k32⟩ : ∃ (stt_32 : Int32) (T32 : State) (L32 : List Loc), Stand p l e room_1 s m #[(.int x1), (.int x2), (.int x3)] below meth c T32 L32 0 0 ∧ T32.heap = h0 ∧ Fr n0 L32 ∧ ∀ t, Steps p.tables e below (T32.setTop (mkF m 147 #[.val (.int x1), .val (.int x2), .val (.int x3), .val (.int ((x1 &&& (2147483647 : Int32)) % (5 : Int32))), .val (.ref ser_14), .val (.int dig_14), .val (.int (dig_14 * (100 : Int32))), .val (.int (x3 &&& (3 : Int32))), .val (.int stt_32), .unset] [])) t → Steps p.tables e below (T14.setTop (mkF m 90 #[.val (.int x1), .val (.int x2), .val (.int x3), .val (.int ((x1 &&& (2147483647 : Int32)) % (5 : Int32))), .val (.ref ser_14), .val (.int dig_14), .val (.int (dig_14 * (100 : Int32))), .val (.int (x3 &&& (3 : Int32))), .unset, .unset] [])) t := by
    have pj32 : ∀ t, Steps p.tables e below (T14.setTop (mkF m 90 #[.val (.int x1), .val (.int x2), .val (.int x3), .val (.int ((x1 &&& (2147483647 : Int32)) % (5 : Int32))), .val (.ref ser_14), .val (.int dig_14), .val (.int (dig_14 * (100 : Int32))), .val (.int (x3 &&& (3 : Int32))), .unset, .unset] [])) t → Steps p.tables e below (T14.setTop (mkF m 90 #[.val (.int x1), .val (.int x2), .val (.int x3), .val (.int ((x1 &&& (2147483647 : Int32)) % (5 : Int32))), .val (.ref ser_14), .val (.int dig_14), .val (.int (dig_14 * (100 : Int32))), .val (.int (x3 &&& (3 : Int32))), .unset, .unset] [])) t := fun _ k => k
    have pre33 : ∀ t, Steps p.tables e below (T14.setTop (mkF m 92 #[.val (.int x1), .val (.int x2), .val (.int x3), .val (.int ((x1 &&& (2147483647 : Int32)) % (5 : Int32))), .val (.ref ser_14), .val (.int dig_14), .val (.int (dig_14 * (100 : Int32))), .val (.int (x3 &&& (3 : Int32))), .unset, .unset] [(.int (x3 &&& (3 : Int32)))])) t → Steps p.tables e below (T14.setTop (mkF m 90 #[.val (.int x1), .val (.int x2), .val (.int x3), .val (.int ((x1 &&& (2147483647 : Int32)) % (5 : Int32))), .val (.ref ser_14), .val (.int dig_14), .val (.int (dig_14 * (100 : Int32))), .val (.int (x3 &&& (3 : Int32))), .unset, .unset] [])) t := by
      intro t kt
      refine pj32 t ?_
      show Steps p.tables e below (T14.setTop (mkF m 90 #[.val (.int x1), .val (.int x2), .val (.int x3), .val (.int ((x1 &&& (2147483647 : Int32)) % (5 : Int32))), .val (.ref ser_14), .val (.int dig_14), .val (.int (dig_14 * (100 : Int32))), .val (.int (x3 &&& (3 : Int32))), .unset, .unset] [])) _
      refine XS.iload X14.here hx rfl (hb hby at_90) rfl ?_
      exact kt
    by_cases hc92 : (x3 &&& (3 : Int32)) = (0 : Int32)
    · skip
      have pre34 : ∀ t, Steps p.tables e below (T14.setTop (mkF m 147 #[.val (.int x1), .val (.int x2), .val (.int x3), .val (.int ((x1 &&& (2147483647 : Int32)) % (5 : Int32))), .val (.ref ser_14), .val (.int dig_14), .val (.int (dig_14 * (100 : Int32))), .val (.int (x3 &&& (3 : Int32))), .val (.int x2), .unset] [])) t → Steps p.tables e below (T14.setTop (mkF m 90 #[.val (.int x1), .val (.int x2), .val (.int x3), .val (.int ((x1 &&& (2147483647 : Int32)) % (5 : Int32))), .val (.ref ser_14), .val (.int dig_14), .val (.int (dig_14 * (100 : Int32))), .val (.int (x3 &&& (3 : Int32))), .unset, .unset] [])) t := by
        intro t kt
        refine pre33 t ?_
        show Steps p.tables e below (T14.setTop (mkF m 92 #[.val (.int x1), .val (.int x2), .val (.int x3), .val (.int ((x1 &&& (2147483647 : Int32)) % (5 : Int32))), .val (.ref ser_14), .val (.int dig_14), .val (.int (dig_14 * (100 : Int32))), .val (.int (x3 &&& (3 : Int32))), .unset, .unset] [(.int (x3 &&& (3 : Int32)))])) _
        refine XS.ifNo X14.here hx rfl (hb hby at_92) rfl ((if0 _ _).trans (teq hc92).2) ?_
        show Steps p.tables e below (T14.setTop (mkF m 95 #[.val (.int x1), .val (.int x2), .val (.int x3), .val (.int ((x1 &&& (2147483647 : Int32)) % (5 : Int32))), .val (.ref ser_14), .val (.int dig_14), .val (.int (dig_14 * (100 : Int32))), .val (.int (x3 &&& (3 : Int32))), .unset, .unset] [])) _
        refine XS.iloadN X14.here hx rfl (hb hby at_95) rfl ?_
        show Steps p.tables e below (T14.setTop (mkF m 96 #[.val (.int x1), .val (.int x2), .val (.int x3), .val (.int ((x1 &&& (2147483647 : Int32)) % (5 : Int32))), .val (.ref ser_14), .val (.int dig_14), .val (.int (dig_14 * (100 : Int32))), .val (.int (x3 &&& (3 : Int32))), .unset, .unset] [(.int x2)])) _
        refine XS.istore X14.here hx rfl (hb hby at_96) rfl (l' := #[.val (.int x1), .val (.int x2), .val (.int x3), .val (.int ((x1 &&& (2147483647 : Int32)) % (5 : Int32))), .val (.ref ser_14), .val (.int dig_14), .val (.int (dig_14 * (100 : Int32))), .val (.int (x3 &&& (3 : Int32))), .val (.int x2), .unset]) rfl ?_
        show Steps p.tables e below (T14.setTop (mkF m 98 #[.val (.int x1), .val (.int x2), .val (.int x3), .val (.int ((x1 &&& (2147483647 : Int32)) % (5 : Int32))), .val (.ref ser_14), .val (.int dig_14), .val (.int (dig_14 * (100 : Int32))), .val (.int (x3 &&& (3 : Int32))), .val (.int x2), .unset] [])) _
        refine XS.goto X14.here hx rfl (pc0 := 98) (pc' := 147) rfl (hb hby at_98) (by decide) (by decide) ?_
        exact kt
      exact ⟨x2, T14, _, X14, e14, N14, pre34⟩
    · skip
      have pre35 : ∀ t, Steps p.tables e below (T14.setTop (mkF m 104 #[.val (.int x1), .val (.int x2), .val (.int x3), .val (.int ((x1 &&& (2147483647 : Int32)) % (5 : Int32))), .val (.ref ser_14), .val (.int dig_14), .val (.int (dig_14 * (100 : Int32))), .val (.int (x3 &&& (3 : Int32))), .unset, .unset] [(.int (1 : Int32)), (.int (x3 &&& (3 : Int32)))])) t → Steps p.tables e below (T14.setTop (mkF m 90 #[.val (.int x1), .val (.int x2), .val (.int x3), .val (.int ((x1 &&& (2147483647 : Int32)) % (5 : Int32))), .val (.ref ser_14), .val (.int dig_14), .val (.int (dig_14 * (100 : Int32))), .val (.int (x3 &&& (3 : Int32))), .unset, .unset] [])) t := by
        intro t kt
        refine pre33 t ?_
        show Steps p.tables e below (T14.setTop (mkF m 92 #[.val (.int x1), .val (.int x2), .val (.int x3), .val (.int ((x1 &&& (2147483647 : Int32)) % (5 : Int32))), .val (.ref ser_14), .val (.int dig_14), .val (.int (dig_14 * (100 : Int32))), .val (.int (x3 &&& (3 : Int32))), .unset, .unset] [(.int (x3 &&& (3 : Int32)))])) _
        refine XS.ifYes X14.here hx rfl (pc0 := 92) (pc' := 101) rfl (hb hby at_92) rfl ((if0 _ _).trans (feq hc92).2) (by decide) (by decide) ?_
        show Steps p.tables e below (T14.setTop (mkF m 101 #[.val (.int x1), .val (.int x2), .val (.int x3), .val (.int ((x1 &&& (2147483647 : Int32)) % (5 : Int32))), .val (.ref ser_14), .val (.int dig_14), .val (.int (dig_14 * (100 : Int32))), .val (.int (x3 &&& (3 : Int32))), .unset, .unset] [])) _
        refine XS.iload X14.here hx rfl (hb hby at_101) rfl ?_
        show Steps p.tables e below (T14.setTop (mkF m 103 #[.val (.int x1), .val (.int x2), .val (.int x3), .val (.int ((x1 &&& (2147483647 : Int32)) % (5 : Int32))), .val (.ref ser_14), .val (.int dig_14), .val (.int (dig_14 * (100 : Int32))), .val (.int (x3 &&& (3 : Int32))), .unset, .unset] [(.int (x3 &&& (3 : Int32)))])) _
        refine XS.iconst X14.here hx rfl (hb hby at_103) ?_
        exact kt
      by_cases hc104 : (x3 &&& (3 : Int32)) = (1 : Int32)
      · skip
        have pre36 : ∀ t, Steps p.tables e below (T14.setTop (mkF m 147 #[.val (.int x1), .val (.int x2), .val (.int x3), .val (.int ((x1 &&& (2147483647 : Int32)) % (5 : Int32))), .val (.ref ser_14), .val (.int dig_14), .val (.int (dig_14 * (100 : Int32))), .val (.int (x3 &&& (3 : Int32))), .val (.int ((dig_14 * (100 : Int32)) + (x2 % (150 : Int32)))), .unset] [])) t → Steps p.tables e below (T14.setTop (mkF m 90 #[.val (.int x1), .val (.int x2), .val (.int x3), .val (.int ((x1 &&& (2147483647 : Int32)) % (5 : Int32))), .val (.ref ser_14), .val (.int dig_14), .val (.int (dig_14 * (100 : Int32))), .val (.int (x3 &&& (3 : Int32))), .unset, .unset] [])) t := by
          intro t kt
          refine pre35 t ?_
          show Steps p.tables e below (T14.setTop (mkF m 104 #[.val (.int x1), .val (.int x2), .val (.int x3), .val (.int ((x1 &&& (2147483647 : Int32)) % (5 : Int32))), .val (.ref ser_14), .val (.int dig_14), .val (.int (dig_14 * (100 : Int32))), .val (.int (x3 &&& (3 : Int32))), .unset, .unset] [(.int (1 : Int32)), (.int (x3 &&& (3 : Int32)))])) _
          refine XS.icmpNo X14.here hx rfl (hb hby at_104) rfl (teq hc104).2 ?_
          show Steps p.tables e below (T14.setTop (mkF m 107 #[.val (.int x1), .val (.int x2), .val (.int x3), .val (.int ((x1 &&& (2147483647 : Int32)) % (5 : Int32))), .val (.ref ser_14), .val (.int dig_14), .val (.int (dig_14 * (100 : Int32))), .val (.int (x3 &&& (3 : Int32))), .unset, .unset] [])) _
          refine XS.iload X14.here hx rfl (hb hby at_107) rfl ?_
          show Steps p.tables e below (T14.setTop (mkF m 109 #[.val (.int x1), .val (.int x2), .val (.int x3), .val (.int ((x1 &&& (2147483647 : Int32)) % (5 : Int32))), .val (.ref ser_14), .val (.int dig_14), .val (.int (dig_14 * (100 : Int32))), .val (.int (x3 &&& (3 : Int32))), .unset, .unset] [(.int (dig_14 * (100 : Int32)))])) _
          refine XS.iloadN X14.here hx rfl (hb hby at_109) rfl ?_
          show Steps p.tables e below (T14.setTop (mkF m 110 #[.val (.int x1), .val (.int x2), .val (.int x3), .val (.int ((x1 &&& (2147483647 : Int32)) % (5 : Int32))), .val (.ref ser_14), .val (.int dig_14), .val (.int (dig_14 * (100 : Int32))), .val (.int (x3 &&& (3 : Int32))), .unset, .unset] [(.int x2), (.int (dig_14 * (100 : Int32)))])) _
          refine XS.sipush X14.here hx rfl (hb hby at_110) ?_
          show Steps p.tables e below (T14.setTop (mkF m 113 #[.val (.int x1), .val (.int x2), .val (.int x3), .val (.int ((x1 &&& (2147483647 : Int32)) % (5 : Int32))), .val (.ref ser_14), .val (.int dig_14), .val (.int (dig_14 * (100 : Int32))), .val (.int (x3 &&& (3 : Int32))), .unset, .unset] [(.int (150 : Int32)), (.int x2), (.int (dig_14 * (100 : Int32)))])) _
          refine iremM X14 hx rfl (hb hby at_113) rfl (by decide) ?_
          show Steps p.tables e below (T14.setTop (mkF m 114 #[.val (.int x1), .val (.int x2), .val (.int x3), .val (.int ((x1 &&& (2147483647 : Int32)) % (5 : Int32))), .val (.ref ser_14), .val (.int dig_14), .val (.int (dig_14 * (100 : Int32))), .val (.int (x3 &&& (3 : Int32))), .unset, .unset] [(.int (x2 % (150 : Int32))), (.int (dig_14 * (100 : Int32)))])) _
          refine XS.iadd X14.here hx rfl (hb hby at_114) rfl ?_
          show Steps p.tables e below (T14.setTop (mkF m 115 #[.val (.int x1), .val (.int x2), .val (.int x3), .val (.int ((x1 &&& (2147483647 : Int32)) % (5 : Int32))), .val (.ref ser_14), .val (.int dig_14), .val (.int (dig_14 * (100 : Int32))), .val (.int (x3 &&& (3 : Int32))), .unset, .unset] [(.int ((dig_14 * (100 : Int32)) + (x2 % (150 : Int32))))])) _
          refine XS.istore X14.here hx rfl (hb hby at_115) rfl (l' := #[.val (.int x1), .val (.int x2), .val (.int x3), .val (.int ((x1 &&& (2147483647 : Int32)) % (5 : Int32))), .val (.ref ser_14), .val (.int dig_14), .val (.int (dig_14 * (100 : Int32))), .val (.int (x3 &&& (3 : Int32))), .val (.int ((dig_14 * (100 : Int32)) + (x2 % (150 : Int32)))), .unset]) rfl ?_
          show Steps p.tables e below (T14.setTop (mkF m 117 #[.val (.int x1), .val (.int x2), .val (.int x3), .val (.int ((x1 &&& (2147483647 : Int32)) % (5 : Int32))), .val (.ref ser_14), .val (.int dig_14), .val (.int (dig_14 * (100 : Int32))), .val (.int (x3 &&& (3 : Int32))), .val (.int ((dig_14 * (100 : Int32)) + (x2 % (150 : Int32)))), .unset] [])) _
          refine XS.goto X14.here hx rfl (pc0 := 117) (pc' := 147) rfl (hb hby at_117) (by decide) (by decide) ?_
          exact kt
        exact ⟨((dig_14 * (100 : Int32)) + (x2 % (150 : Int32))), T14, _, X14, e14, N14, pre36⟩
      · skip
        have pre37 : ∀ t, Steps p.tables e below (T14.setTop (mkF m 123 #[.val (.int x1), .val (.int x2), .val (.int x3), .val (.int ((x1 &&& (2147483647 : Int32)) % (5 : Int32))), .val (.ref ser_14), .val (.int dig_14), .val (.int (dig_14 * (100 : Int32))), .val (.int (x3 &&& (3 : Int32))), .unset, .unset] [(.int (2 : Int32)), (.int (x3 &&& (3 : Int32)))])) t → Steps p.tables e below (T14.setTop (mkF m 90 #[.val (.int x1), .val (.int x2), .val (.int x3), .val (.int ((x1 &&& (2147483647 : Int32)) % (5 : Int32))), .val (.ref ser_14), .val (.int dig_14), .val (.int (dig_14 * (100 : Int32))), .val (.int (x3 &&& (3 : Int32))), .unset, .unset] [])) t := by
          intro t kt
          refine pre35 t ?_
          show Steps p.tables e below (T14.setTop (mkF m 104 #[.val (.int x1), .val (.int x2), .val (.int x3), .val (.int ((x1 &&& (2147483647 : Int32)) % (5 : Int32))), .val (.ref ser_14), .val (.int dig_14), .val (.int (dig_14 * (100 : Int32))), .val (.int (x3 &&& (3 : Int32))), .unset, .unset] [(.int (1 : Int32)), (.int (x3 &&& (3 : Int32)))])) _
          refine XS.icmpYes X14.here hx rfl (pc0 := 104) (pc' := 120) rfl (hb hby at_104) rfl (feq hc104).2 (by decide) (by decide) ?_
          show Steps p.tables e below (T14.setTop (mkF m 120 #[.val (.int x1), .val (.int x2), .val (.int x3), .val (.int ((x1 &&& (2147483647 : Int32)) % (5 : Int32))), .val (.ref ser_14), .val (.int dig_14), .val (.int (dig_14 * (100 : Int32))), .val (.int (x3 &&& (3 : Int32))), .unset, .unset] [])) _
          refine XS.iload X14.here hx rfl (hb hby at_120) rfl ?_
          show Steps p.tables e below (T14.setTop (mkF m 122 #[.val (.int x1), .val (.int x2), .val (.int x3), .val (.int ((x1 &&& (2147483647 : Int32)) % (5 : Int32))), .val (.ref ser_14), .val (.int dig_14), .val (.int (dig_14 * (100 : Int32))), .val (.int (x3 &&& (3 : Int32))), .unset, .unset] [(.int (x3 &&& (3 : Int32)))])) _
          refine XS.iconst X14.here hx rfl (hb hby at_122) ?_
          exact kt
        by_cases hc123 : (x3 &&& (3 : Int32)) = (2 : Int32)
        · skip
          have pre38 : ∀ t, Steps p.tables e below (T14.setTop (mkF m 147 #[.val (.int x1), .val (.int x2), .val (.int x3), .val (.int ((x1 &&& (2147483647 : Int32)) % (5 : Int32))), .val (.ref ser_14), .val (.int dig_14), .val (.int (dig_14 * (100 : Int32))), .val (.int (x3 &&& (3 : Int32))), .val (.int ((-(dig_14 * (100 : Int32))) + (x2 % (150 : Int32)))), .unset] [])) t → Steps p.tables e below (T14.setTop (mkF m 90 #[.val (.int x1), .val (.int x2), .val (.int x3), .val (.int ((x1 &&& (2147483647 : Int32)) % (5 : Int32))), .val (.ref ser_14), .val (.int dig_14), .val (.int (dig_14 * (100 : Int32))), .val (.int (x3 &&& (3 : Int32))), .unset, .unset] [])) t := by
            intro t kt
            refine pre37 t ?_
            show Steps p.tables e below (T14.setTop (mkF m 123 #[.val (.int x1), .val (.int x2), .val (.int x3), .val (.int ((x1 &&& (2147483647 : Int32)) % (5 : Int32))), .val (.ref ser_14), .val (.int dig_14), .val (.int (dig_14 * (100 : Int32))), .val (.int (x3 &&& (3 : Int32))), .unset, .unset] [(.int (2 : Int32)), (.int (x3 &&& (3 : Int32)))])) _
            refine XS.icmpNo X14.here hx rfl (hb hby at_123) rfl (teq hc123).2 ?_
            show Steps p.tables e below (T14.setTop (mkF m 126 #[.val (.int x1), .val (.int x2), .val (.int x3), .val (.int ((x1 &&& (2147483647 : Int32)) % (5 : Int32))), .val (.ref ser_14), .val (.int dig_14), .val (.int (dig_14 * (100 : Int32))), .val (.int (x3 &&& (3 : Int32))), .unset, .unset] [])) _
            refine XS.iload X14.here hx rfl (hb hby at_126) rfl ?_
            show Steps p.tables e below (T14.setTop (mkF m 128 #[.val (.int x1), .val (.int x2), .val (.int x3), .val (.int ((x1 &&& (2147483647 : Int32)) % (5 : Int32))), .val (.ref ser_14), .val (.int dig_14), .val (.int (dig_14 * (100 : Int32))), .val (.int (x3 &&& (3 : Int32))), .unset, .unset] [(.int (dig_14 * (100 : Int32)))])) _
            refine XS.ineg X14.here hx rfl (hb hby at_128) rfl ?_
            show Steps p.tables e below (T14.setTop (mkF m 129 #[.val (.int x1), .val (.int x2), .val (.int x3), .val (.int ((x1 &&& (2147483647 : Int32)) % (5 : Int32))), .val (.ref ser_14), .val (.int dig_14), .val (.int (dig_14 * (100 : Int32))), .val (.int (x3 &&& (3 : Int32))), .unset, .unset] [(.int (-(dig_14 * (100 : Int32))))])) _
            refine XS.iloadN X14.here hx rfl (hb hby at_129) rfl ?_
            show Steps p.tables e below (T14.setTop (mkF m 130 #[.val (.int x1), .val (.int x2), .val (.int x3), .val (.int ((x1 &&& (2147483647 : Int32)) % (5 : Int32))), .val (.ref ser_14), .val (.int dig_14), .val (.int (dig_14 * (100 : Int32))), .val (.int (x3 &&& (3 : Int32))), .unset, .unset] [(.int x2), (.int (-(dig_14 * (100 : Int32))))])) _
            refine XS.sipush X14.here hx rfl (hb hby at_130) ?_
            show Steps p.tables e below (T14.setTop (mkF m 133 #[.val (.int x1), .val (.int x2), .val (.int x3), .val (.int ((x1 &&& (2147483647 : Int32)) % (5 : Int32))), .val (.ref ser_14), .val (.int dig_14), .val (.int (dig_14 * (100 : Int32))), .val (.int (x3 &&& (3 : Int32))), .unset, .unset] [(.int (150 : Int32)), (.int x2), (.int (-(dig_14 * (100 : Int32))))])) _
            refine iremM X14 hx rfl (hb hby at_133) rfl (by decide) ?_
            show Steps p.tables e below (T14.setTop (mkF m 134 #[.val (.int x1), .val (.int x2), .val (.int x3), .val (.int ((x1 &&& (2147483647 : Int32)) % (5 : Int32))), .val (.ref ser_14), .val (.int dig_14), .val (.int (dig_14 * (100 : Int32))), .val (.int (x3 &&& (3 : Int32))), .unset, .unset] [(.int (x2 % (150 : Int32))), (.int (-(dig_14 * (100 : Int32))))])) _
            refine XS.iadd X14.here hx rfl (hb hby at_134) rfl ?_
            show Steps p.tables e below (T14.setTop (mkF m 135 #[.val (.int x1), .val (.int x2), .val (.int x3), .val (.int ((x1 &&& (2147483647 : Int32)) % (5 : Int32))), .val (.ref ser_14), .val (.int dig_14), .val (.int (dig_14 * (100 : Int32))), .val (.int (x3 &&& (3 : Int32))), .unset, .unset] [(.int ((-(dig_14 * (100 : Int32))) + (x2 % (150 : Int32))))])) _
            refine XS.istore X14.here hx rfl (hb hby at_135) rfl (l' := #[.val (.int x1), .val (.int x2), .val (.int x3), .val (.int ((x1 &&& (2147483647 : Int32)) % (5 : Int32))), .val (.ref ser_14), .val (.int dig_14), .val (.int (dig_14 * (100 : Int32))), .val (.int (x3 &&& (3 : Int32))), .val (.int ((-(dig_14 * (100 : Int32))) + (x2 % (150 : Int32)))), .unset]) rfl ?_
            show Steps p.tables e below (T14.setTop (mkF m 137 #[.val (.int x1), .val (.int x2), .val (.int x3), .val (.int ((x1 &&& (2147483647 : Int32)) % (5 : Int32))), .val (.ref ser_14), .val (.int dig_14), .val (.int (dig_14 * (100 : Int32))), .val (.int (x3 &&& (3 : Int32))), .val (.int ((-(dig_14 * (100 : Int32))) + (x2 % (150 : Int32)))), .unset] [])) _
            refine XS.goto X14.here hx rfl (pc0 := 137) (pc' := 147) rfl (hb hby at_137) (by decide) (by decide) ?_
            exact kt
          exact ⟨((-(dig_14 * (100 : Int32))) + (x2 % (150 : Int32))), T14, _, X14, e14, N14, pre38⟩
        · skip
          have pre39 : ∀ t, Steps p.tables e below (T14.setTop (mkF m 147 #[.val (.int x1), .val (.int x2), .val (.int x3), .val (.int ((x1 &&& (2147483647 : Int32)) % (5 : Int32))), .val (.ref ser_14), .val (.int dig_14), .val (.int (dig_14 * (100 : Int32))), .val (.int (x3 &&& (3 : Int32))), .val (.int (x2 &&& (1023 : Int32))), .unset] [])) t → Steps p.tables e below (T14.setTop (mkF m 90 #[.val (.int x1), .val (.int x2), .val (.int x3), .val (.int ((x1 &&& (2147483647 : Int32)) % (5 : Int32))), .val (.ref ser_14), .val (.int dig_14), .val (.int (dig_14 * (100 : Int32))), .val (.int (x3 &&& (3 : Int32))), .unset, .unset] [])) t := by
            intro t kt
            refine pre37 t ?_
            show Steps p.tables e below (T14.setTop (mkF m 123 #[.val (.int x1), .val (.int x2), .val (.int x3), .val (.int ((x1 &&& (2147483647 : Int32)) % (5 : Int32))), .val (.ref ser_14), .val (.int dig_14), .val (.int (dig_14 * (100 : Int32))), .val (.int (x3 &&& (3 : Int32))), .unset, .unset] [(.int (2 : Int32)), (.int (x3 &&& (3 : Int32)))])) _
            refine XS.icmpYes X14.here hx rfl (pc0 := 123) (pc' := 140) rfl (hb hby at_123) rfl (feq hc123).2 (by decide) (by decide) ?_
            show Steps p.tables e below (T14.setTop (mkF m 140 #[.val (.int x1), .val (.int x2), .val (.int x3), .val (.int ((x1 &&& (2147483647 : Int32)) % (5 : Int32))), .val (.ref ser_14), .val (.int dig_14), .val (.int (dig_14 * (100 : Int32))), .val (.int (x3 &&& (3 : Int32))), .unset, .unset] [])) _
            refine XS.iloadN X14.here hx rfl (hb hby at_140) rfl ?_
            show Steps p.tables e below (T14.setTop (mkF m 141 #[.val (.int x1), .val (.int x2), .val (.int x3), .val (.int ((x1 &&& (2147483647 : Int32)) % (5 : Int32))), .val (.ref ser_14), .val (.int dig_14), .val (.int (dig_14 * (100 : Int32))), .val (.int (x3 &&& (3 : Int32))), .unset, .unset] [(.int x2)])) _
            refine XS.sipush X14.here hx rfl (hb hby at_141) ?_
            show Steps p.tables e below (T14.setTop (mkF m 144 #[.val (.int x1), .val (.int x2), .val (.int x3), .val (.int ((x1 &&& (2147483647 : Int32)) % (5 : Int32))), .val (.ref ser_14), .val (.int dig_14), .val (.int (dig_14 * (100 : Int32))), .val (.int (x3 &&& (3 : Int32))), .unset, .unset] [(.int (1023 : Int32)), (.int x2)])) _
            refine XS.iand X14.here hx rfl (hb hby at_144) rfl ?_
            show Steps p.tables e below (T14.setTop (mkF m 145 #[.val (.int x1), .val (.int x2), .val (.int x3), .val (.int ((x1 &&& (2147483647 : Int32)) % (5 : Int32))), .val (.ref ser_14), .val (.int dig_14), .val (.int (dig_14 * (100 : Int32))), .val (.int (x3 &&& (3 : Int32))), .unset, .unset] [(.int (x2 &&& (1023 : Int32)))])) _
            refine XS.istore X14.here hx rfl (hb hby at_145) rfl (l' := #[.val (.int x1), .val (.int x2), .val (.int x3), .val (.int ((x1 &&& (2147483647 : Int32)) % (5 : Int32))), .val (.ref ser_14), .val (.int dig_14), .val (.int (dig_14 * (100 : Int32))), .val (.int (x3 &&& (3 : Int32))), .val (.int (x2 &&& (1023 : Int32))), .unset]) rfl ?_
            exact kt
          exact ⟨(x2 &&& (1023 : Int32)), T14, _, X14, e14, N14, pre39⟩
  have pre40 : ∀ t, Steps p.tables e below (T32.setTop (mkF m 147 #[.val (.int x1), .val (.int x2), .val (.int x3), .val (.int ((x1 &&& (2147483647 : Int32)) % (5 : Int32))), .val (.ref ser_14), .val (.int dig_14), .val (.int (dig_14 * (100 : Int32))), .val (.int (x3 &&& (3 : Int32))), .val (.int stt_32), .unset] [])) t → Steps p.tables e below (s₁.setTop (entryFrame m #[(.int x1), (.int x2), (.int x3)] maxLocals)) t := by
    intro t kt
    refine pre31 t ?_
    show Steps p.tables e below (T14.setTop (mkF m 90 #[.val (.int x1), .val (.int x2), .val (.int x3), .val (.int ((x1 &&& (2147483647 : Int32)) % (5 : Int32))), .val (.ref ser_14), .val (.int dig_14), .val (.int (dig_14 * (100 : Int32))), .val (.int (x3 &&& (3 : Int32))), .unset, .unset] [])) _
    refine k32 _ ?_
    exact kt
  obtain ⟨exq_41, T41, L41, X41, e41, N41, J41_0, k41⟩ : ∃ (exq_41 : Int32) (T41 : State) (L41 : List Loc), Stand p l e room_1 s m #[(.int x1), (.int x2), (.int x3)] below meth c T41 L41 0 0 ∧ T41.heap = h0 ∧ Fr n0 L41 ∧ (exq_41 = own_b (¬ (stt_32 < (dig_14 * (100 : Int32))) ∧ ¬ (((dig_14 * (100 : Int32)) + (99 : Int32)) < stt_32))) ∧ ∀ t, Steps p.tables e below (T41.setTop (mkF m 171 #[.val (.int x1), .val (.int x2), .val (.int x3), .val (.int ((x1 &&& (2147483647 : Int32)) % (5 : Int32))), .val (.ref ser_14), .val (.int dig_14), .val (.int (dig_14 * (100 : Int32))), .val (.int (x3 &&& (3 : Int32))), .val (.int stt_32), .val (.int exq_41)] [])) t → Steps p.tables e below (T32.setTop (mkF m 147 #[.val (.int x1), .val (.int x2), .val (.int x3), .val (.int ((x1 &&& (2147483647 : Int32)) % (5 : Int32))), .val (.ref ser_14), .val (.int dig_14), .val (.int (dig_14 * (100 : Int32))), .val (.int (x3 &&& (3 : Int32))), .val (.int stt_32), .unset] [])) t := by
    have pj41 : ∀ t, Steps p.tables e below (T32.setTop (mkF m 147 #[.val (.int x1), .val (.int x2), .val (.int x3), .val (.int ((x1 &&& (2147483647 : Int32)) % (5 : Int32))), .val (.ref ser_14), .val (.int dig_14), .val (.int (dig_14 * (100 : Int32))), .val (.int (x3 &&& (3 : Int32))), .val (.int stt_32), .unset] [])) t → Steps p.tables e below (T32.setTop (mkF m 147 #[.val (.int x1), .val (.int x2), .val (.int x3), .val (.int ((x1 &&& (2147483647 : Int32)) % (5 : Int32))), .val (.ref ser_14), .val (.int dig_14), .val (.int (dig_14 * (100 : Int32))), .val (.int (x3 &&& (3 : Int32))), .val (.int stt_32), .unset] [])) t := fun _ k => k
    have pre42 : ∀ t, Steps p.tables e below (T32.setTop (mkF m 151 #[.val (.int x1), .val (.int x2), .val (.int x3), .val (.int ((x1 &&& (2147483647 : Int32)) % (5 : Int32))), .val (.ref ser_14), .val (.int dig_14), .val (.int (dig_14 * (100 : Int32))), .val (.int (x3 &&& (3 : Int32))), .val (.int stt_32), .unset] [(.int (dig_14 * (100 : Int32))), (.int stt_32)])) t → Steps p.tables e below (T32.setTop (mkF m 147 #[.val (.int x1), .val (.int x2), .val (.int x3), .val (.int ((x1 &&& (2147483647 : Int32)) % (5 : Int32))), .val (.ref ser_14), .val (.int dig_14), .val (.int (dig_14 * (100 : Int32))), .val (.int (x3 &&& (3 : Int32))), .val (.int stt_32), .unset] [])) t := by
      intro t kt
      refine pj41 t ?_
      show Steps p.tables e below (T32.setTop (mkF m 147 #[.val (.int x1), .val (.int x2), .val (.int x3), .val (.int ((x1 &&& (2147483647 : Int32)) % (5 : Int32))), .val (.ref ser_14), .val (.int dig_14), .val (.int (dig_14 * (100 : Int32))), .val (.int (x3 &&& (3 : Int32))), .val (.int stt_32), .unset] [])) _
      refine XS.iload X32.here hx rfl (hb hby at_147) rfl ?_
      show Steps p.tables e below (T32.setTop (mkF m 149 #[.val (.int x1), .val (.int x2), .val (.int x3), .val (.int ((x1 &&& (2147483647 : Int32)) % (5 : Int32))), .val (.ref ser_14), .val (.int dig_14), .val (.int (dig_14 * (100 : Int32))), .val (.int (x3 &&& (3 : Int32))), .val (.int stt_32), .unset] [(.int stt_32)])) _
      refine XS.iload X32.here hx rfl (hb hby at_149) rfl ?_
      exact kt
    by_cases hc151 : stt_32 < (dig_14 * (100 : Int32))
    · skip
      have pre43 : ∀ t, Steps p.tables e below (T32.setTop (mkF m 171 #[.val (.int x1), .val (.int x2), .val (.int x3), .val (.int ((x1 &&& (2147483647 : Int32)) % (5 : Int32))), .val (.ref ser_14), .val (.int dig_14), .val (.int (dig_14 * (100 : Int32))), .val (.int (x3 &&& (3 : Int32))), .val (.int stt_32), .val (.int (0 : Int32))] [])) t → Steps p.tables e below (T32.setTop (mkF m 147 #[.val (.int x1), .val (.int x2), .val (.int x3), .val (.int ((x1 &&& (2147483647 : Int32)) % (5 : Int32))), .val (.ref ser_14), .val (.int dig_14), .val (.int (dig_14 * (100 : Int32))), .val (.int (x3 &&& (3 : Int32))), .val (.int stt_32), .unset] [])) t := by
        intro t kt
        refine pre42 t ?_
        show Steps p.tables e below (T32.setTop (mkF m 151 #[.val (.int x1), .val (.int x2), .val (.int x3), .val (.int ((x1 &&& (2147483647 : Int32)) % (5 : Int32))), .val (.ref ser_14), .val (.int dig_14), .val (.int (dig_14 * (100 : Int32))), .val (.int (x3 &&& (3 : Int32))), .val (.int stt_32), .unset] [(.int (dig_14 * (100 : Int32))), (.int stt_32)])) _
        refine XS.icmpYes X32.here hx rfl (pc0 := 151) (pc' := 168) rfl (hb hby at_151) rfl (tlt hc151).1 (by decide) (by decide) ?_
        show Steps p.tables e below (T32.setTop (mkF m 168 #[.val (.int x1), .val (.int x2), .val (.int x3), .val (.int ((x1 &&& (2147483647 : Int32)) % (5 : Int32))), .val (.ref ser_14), .val (.int dig_14), .val (.int (dig_14 * (100 : Int32))), .val (.int (x3 &&& (3 : Int32))), .val (.int stt_32), .unset] [])) _
        refine XS.iconst X32.here hx rfl (hb hby at_168) ?_
        show Steps p.tables e below (T32.setTop (mkF m 169 #[.val (.int x1), .val (.int x2), .val (.int x3), .val (.int ((x1 &&& (2147483647 : Int32)) % (5 : Int32))), .val (.ref ser_14), .val (.int dig_14), .val (.int (dig_14 * (100 : Int32))), .val (.int (x3 &&& (3 : Int32))), .val (.int stt_32), .unset] [(.int (0 : Int32))])) _
        refine XS.istore X32.here hx rfl (hb hby at_169) rfl (l' := #[.val (.int x1), .val (.int x2), .val (.int x3), .val (.int ((x1 &&& (2147483647 : Int32)) % (5 : Int32))), .val (.ref ser_14), .val (.int dig_14), .val (.int (dig_14 * (100 : Int32))), .val (.int (x3 &&& (3 : Int32))), .val (.int stt_32), .val (.int (0 : Int32))]) rfl ?_
        exact kt
      exact ⟨(0 : Int32), T32, _, X32, e32, N32, (by simp [own_b, hc151]), pre43⟩
    · skip
      have pre44 : ∀ t, Steps p.tables e below (T32.setTop (mkF m 161 #[.val (.int x1), .val (.int x2), .val (.int x3), .val (.int ((x1 &&& (2147483647 : Int32)) % (5 : Int32))), .val (.ref ser_14), .val (.int dig_14), .val (.int (dig_14 * (100 : Int32))), .val (.int (x3 &&& (3 : Int32))), .val (.int stt_32), .unset] [(.int ((dig_14 * (100 : Int32)) + (99 : Int32))), (.int stt_32)])) t → Steps p.tables e below (T32.setTop (mkF m 147 #[.val (.int x1), .val (.int x2), .val (.int x3), .val (.int ((x1 &&& (2147483647 : Int32)) % (5 : Int32))), .val (.ref ser_14), .val (.int dig_14), .val (.int (dig_14 * (100 : Int32))), .val (.int (x3 &&& (3 : Int32))), .val (.int stt_32), .unset] [])) t := by
        intro t kt
        refine pre42 t ?_
        show Steps p.tables e below (T32.setTop (mkF m 151 #[.val (.int x1), .val (.int x2), .val (.int x3), .val (.int ((x1 &&& (2147483647 : Int32)) % (5 : Int32))), .val (.ref ser_14), .val (.int dig_14), .val (.int (dig_14 * (100 : Int32))), .val (.int (x3 &&& (3 : Int32))), .val (.int stt_32), .unset] [(.int (dig_14 * (100 : Int32))), (.int stt_32)])) _
        refine XS.icmpNo X32.here hx rfl (hb hby at_151) rfl (flt hc151).1 ?_
        show Steps p.tables e below (T32.setTop (mkF m 154 #[.val (.int x1), .val (.int x2), .val (.int x3), .val (.int ((x1 &&& (2147483647 : Int32)) % (5 : Int32))), .val (.ref ser_14), .val (.int dig_14), .val (.int (dig_14 * (100 : Int32))), .val (.int (x3 &&& (3 : Int32))), .val (.int stt_32), .unset] [])) _
        refine XS.iload X32.here hx rfl (hb hby at_154) rfl ?_
        show Steps p.tables e below (T32.setTop (mkF m 156 #[.val (.int x1), .val (.int x2), .val (.int x3), .val (.int ((x1 &&& (2147483647 : Int32)) % (5 : Int32))), .val (.ref ser_14), .val (.int dig_14), .val (.int (dig_14 * (100 : Int32))), .val (.int (x3 &&& (3 : Int32))), .val (.int stt_32), .unset] [(.int stt_32)])) _
        refine XS.iload X32.here hx rfl (hb hby at_156) rfl ?_
        show Steps p.tables e below (T32.setTop (mkF m 158 #[.val (.int x1), .val (.int x2), .val (.int x3), .val (.int ((x1 &&& (2147483647 : Int32)) % (5 : Int32))), .val (.ref ser_14), .val (.int dig_14), .val (.int (dig_14 * (100 : Int32))), .val (.int (x3 &&& (3 : Int32))), .val (.int stt_32), .unset] [(.int (dig_14 * (100 : Int32))), (.int stt_32)])) _
        refine XS.bipush X32.here hx rfl (hb hby at_158) ?_
        show Steps p.tables e below (T32.setTop (mkF m 160 #[.val (.int x1), .val (.int x2), .val (.int x3), .val (.int ((x1 &&& (2147483647 : Int32)) % (5 : Int32))), .val (.ref ser_14), .val (.int dig_14), .val (.int (dig_14 * (100 : Int32))), .val (.int (x3 &&& (3 : Int32))), .val (.int stt_32), .unset] [(.int (99 : Int32)), (.int (dig_14 * (100 : Int32))), (.int stt_32)])) _
        refine XS.iadd X32.here hx rfl (hb hby at_160) rfl ?_
        exact kt
      by_cases hc161 : ((dig_14 * (100 : Int32)) + (99 : Int32)) < stt_32
      · skip
        have pre45 : ∀ t, Steps p.tables e below (T32.setTop (mkF m 171 #[.val (.int x1), .val (.int x2), .val (.int x3), .val (.int ((x1 &&& (2147483647 : Int32)) % (5 : Int32))), .val (.ref ser_14), .val (.int dig_14), .val (.int (dig_14 * (100 : Int32))), .val (.int (x3 &&& (3 : Int32))), .val (.int stt_32), .val (.int (0 : Int32))] [])) t → Steps p.tables e below (T32.setTop (mkF m 147 #[.val (.int x1), .val (.int x2), .val (.int x3), .val (.int ((x1 &&& (2147483647 : Int32)) % (5 : Int32))), .val (.ref ser_14), .val (.int dig_14), .val (.int (dig_14 * (100 : Int32))), .val (.int (x3 &&& (3 : Int32))), .val (.int stt_32), .unset] [])) t := by
          intro t kt
          refine pre44 t ?_
          show Steps p.tables e below (T32.setTop (mkF m 161 #[.val (.int x1), .val (.int x2), .val (.int x3), .val (.int ((x1 &&& (2147483647 : Int32)) % (5 : Int32))), .val (.ref ser_14), .val (.int dig_14), .val (.int (dig_14 * (100 : Int32))), .val (.int (x3 &&& (3 : Int32))), .val (.int stt_32), .unset] [(.int ((dig_14 * (100 : Int32)) + (99 : Int32))), (.int stt_32)])) _
          refine XS.icmpYes X32.here hx rfl (pc0 := 161) (pc' := 168) rfl (hb hby at_161) rfl (tlt hc161).2.2.1 (by decide) (by decide) ?_
          show Steps p.tables e below (T32.setTop (mkF m 168 #[.val (.int x1), .val (.int x2), .val (.int x3), .val (.int ((x1 &&& (2147483647 : Int32)) % (5 : Int32))), .val (.ref ser_14), .val (.int dig_14), .val (.int (dig_14 * (100 : Int32))), .val (.int (x3 &&& (3 : Int32))), .val (.int stt_32), .unset] [])) _
          refine XS.iconst X32.here hx rfl (hb hby at_168) ?_
          show Steps p.tables e below (T32.setTop (mkF m 169 #[.val (.int x1), .val (.int x2), .val (.int x3), .val (.int ((x1 &&& (2147483647 : Int32)) % (5 : Int32))), .val (.ref ser_14), .val (.int dig_14), .val (.int (dig_14 * (100 : Int32))), .val (.int (x3 &&& (3 : Int32))), .val (.int stt_32), .unset] [(.int (0 : Int32))])) _
          refine XS.istore X32.here hx rfl (hb hby at_169) rfl (l' := #[.val (.int x1), .val (.int x2), .val (.int x3), .val (.int ((x1 &&& (2147483647 : Int32)) % (5 : Int32))), .val (.ref ser_14), .val (.int dig_14), .val (.int (dig_14 * (100 : Int32))), .val (.int (x3 &&& (3 : Int32))), .val (.int stt_32), .val (.int (0 : Int32))]) rfl ?_
          exact kt
        exact ⟨(0 : Int32), T32, _, X32, e32, N32, (by simp [own_b, hc151, hc161]), pre45⟩
      · skip
        have pre46 : ∀ t, Steps p.tables e below (T32.setTop (mkF m 171 #[.val (.int x1), .val (.int x2), .val (.int x3), .val (.int ((x1 &&& (2147483647 : Int32)) % (5 : Int32))), .val (.ref ser_14), .val (.int dig_14), .val (.int (dig_14 * (100 : Int32))), .val (.int (x3 &&& (3 : Int32))), .val (.int stt_32), .val (.int (1 : Int32))] [])) t → Steps p.tables e below (T32.setTop (mkF m 147 #[.val (.int x1), .val (.int x2), .val (.int x3), .val (.int ((x1 &&& (2147483647 : Int32)) % (5 : Int32))), .val (.ref ser_14), .val (.int dig_14), .val (.int (dig_14 * (100 : Int32))), .val (.int (x3 &&& (3 : Int32))), .val (.int stt_32), .unset] [])) t := by
          intro t kt
          refine pre44 t ?_
          show Steps p.tables e below (T32.setTop (mkF m 161 #[.val (.int x1), .val (.int x2), .val (.int x3), .val (.int ((x1 &&& (2147483647 : Int32)) % (5 : Int32))), .val (.ref ser_14), .val (.int dig_14), .val (.int (dig_14 * (100 : Int32))), .val (.int (x3 &&& (3 : Int32))), .val (.int stt_32), .unset] [(.int ((dig_14 * (100 : Int32)) + (99 : Int32))), (.int stt_32)])) _
          refine XS.icmpNo X32.here hx rfl (hb hby at_161) rfl (flt hc161).2.2.1 ?_
          show Steps p.tables e below (T32.setTop (mkF m 164 #[.val (.int x1), .val (.int x2), .val (.int x3), .val (.int ((x1 &&& (2147483647 : Int32)) % (5 : Int32))), .val (.ref ser_14), .val (.int dig_14), .val (.int (dig_14 * (100 : Int32))), .val (.int (x3 &&& (3 : Int32))), .val (.int stt_32), .unset] [])) _
          refine XS.iconst X32.here hx rfl (hb hby at_164) ?_
          show Steps p.tables e below (T32.setTop (mkF m 165 #[.val (.int x1), .val (.int x2), .val (.int x3), .val (.int ((x1 &&& (2147483647 : Int32)) % (5 : Int32))), .val (.ref ser_14), .val (.int dig_14), .val (.int (dig_14 * (100 : Int32))), .val (.int (x3 &&& (3 : Int32))), .val (.int stt_32), .unset] [(.int (1 : Int32))])) _
          refine XS.goto X32.here hx rfl (pc0 := 165) (pc' := 169) rfl (hb hby at_165) (by decide) (by decide) ?_
          show Steps p.tables e below (T32.setTop (mkF m 169 #[.val (.int x1), .val (.int x2), .val (.int x3), .val (.int ((x1 &&& (2147483647 : Int32)) % (5 : Int32))), .val (.ref ser_14), .val (.int dig_14), .val (.int (dig_14 * (100 : Int32))), .val (.int (x3 &&& (3 : Int32))), .val (.int stt_32), .unset] [(.int (1 : Int32))])) _
          refine XS.istore X32.here hx rfl (hb hby at_169) rfl (l' := #[.val (.int x1), .val (.int x2), .val (.int x3), .val (.int ((x1 &&& (2147483647 : Int32)) % (5 : Int32))), .val (.ref ser_14), .val (.int dig_14), .val (.int (dig_14 * (100 : Int32))), .val (.int (x3 &&& (3 : Int32))), .val (.int stt_32), .val (.int (1 : Int32))]) rfl ?_
          exact kt
        exact ⟨(1 : Int32), T32, _, X32, e32, N32, (by simp [own_b, hc151, hc161]), pre46⟩
  obtain ⟨cq47, kq47, q47a, q47b, q47c⟩ := isOf hZ e41 C29
  obtain ⟨_, _, ⟨T47, L47, k47, n47⟩, -, X47, ⟨Lc47, hQ47, l47, y47, z47⟩, st47⟩ := X41.virtualBack hx (y := (⟨"com/example/prueba/prueba/Series", "includes", "(I)Z"⟩ : MethodName)) (z := (⟨"com/example/prueba/prueba/Series", "includes", "(I)Z"⟩ : MethodName)) hown (mvT hZ (hw _ (List.mem_of_getElem? (i := 4) rfl))) (mvT hZ (hw _ (List.mem_of_getElem? (i := 5) rfl))) (notFace_of_selects (args := #[]) (mvT hZ (hw _ (List.mem_of_getElem? (i := 7) rfl)))) (mvT hZ (hw _ (List.mem_of_getElem? (i := 7) rfl))) (mvT hZ (hw _ (List.mem_of_getElem? (i := 6) rfl))) (by decide) (backOf (W := 0) (rm1 l Z a0 hw [] ser_14 stt_32 dig_14 h0 n0 Z0 O0 F30) hZ (hw _ (List.mem_of_getElem? (i := 8) rfl)) (hw _ (List.mem_of_getElem? (i := 2) rfl)) (by decide) (by decide)) q47a q47c (g := (mkF m 175 #[.val (.int x1), .val (.int x2), .val (.int x3), .val (.int ((x1 &&& (2147483647 : Int32)) % (5 : Int32))), .val (.ref ser_14), .val (.int dig_14), .val (.int (dig_14 * (100 : Int32))), .val (.int (x3 &&& (3 : Int32))), .val (.int stt_32), .val (.int exq_41)] [(.int stt_32), (.ref ser_14)])) rfl (by rw [hml]; rfl) (Steps.refl _) (argsL := [(.int stt_32)]) (rest := []) (lenOf pd_0 rfl) rfl (by show 2 * 0 + _ ≤ _; exact Nat.le_of_eq rfl) (hb hby at_175) (fun _ _ => ⟨rfl, e41, (by decide : 0 + 0 ≤ _), (by decide : 0 + 0 ≤ _)⟩)
  dsimp only [Pt.U, Pt.locs, Pt.cells, Pt.slots] at X47 l47 y47 z47 st47 hQ47
  subst l47 y47 z47
  obtain ⟨rfl, N47q, eh47⟩ := hQ47
  have N47 := Fr.app N41 N47q
  obtain ⟨fs, hr, hrun, hended, hW, hsame⟩ := X47.leave (v := some (.int (1 : Int32))) (fun h => by rw [Bd.returns] at h; cases h)
  refine ⟨_, _, pre40 _ ?_, hrun, hended, _, _, rfl, ?_, ⟨_, rfl⟩, hW, hsame.mono (by decide) (by decide)⟩
  · show Steps p.tables e below (T32.setTop (mkF m 147 #[.val (.int x1), .val (.int x2), .val (.int x3), .val (.int ((x1 &&& (2147483647 : Int32)) % (5 : Int32))), .val (.ref ser_14), .val (.int dig_14), .val (.int (dig_14 * (100 : Int32))), .val (.int (x3 &&& (3 : Int32))), .val (.int stt_32), .unset] [])) _
    refine k41 _ ?_
    show Steps p.tables e below (T41.setTop (mkF m 171 #[.val (.int x1), .val (.int x2), .val (.int x3), .val (.int ((x1 &&& (2147483647 : Int32)) % (5 : Int32))), .val (.ref ser_14), .val (.int dig_14), .val (.int (dig_14 * (100 : Int32))), .val (.int (x3 &&& (3 : Int32))), .val (.int stt_32), .val (.int exq_41)] [])) _
    refine XS.aload X41.here hx rfl (hb hby at_171) rfl rfl ?_
    show Steps p.tables e below (T41.setTop (mkF m 173 #[.val (.int x1), .val (.int x2), .val (.int x3), .val (.int ((x1 &&& (2147483647 : Int32)) % (5 : Int32))), .val (.ref ser_14), .val (.int dig_14), .val (.int (dig_14 * (100 : Int32))), .val (.int (x3 &&& (3 : Int32))), .val (.int stt_32), .val (.int exq_41)] [(.ref ser_14)])) _
    refine XS.iload X41.here hx rfl (hb hby at_173) rfl ?_
    show Steps p.tables e below (T41.setTop (mkF m 175 #[.val (.int x1), .val (.int x2), .val (.int x3), .val (.int ((x1 &&& (2147483647 : Int32)) % (5 : Int32))), .val (.ref ser_14), .val (.int dig_14), .val (.int (dig_14 * (100 : Int32))), .val (.int (x3 &&& (3 : Int32))), .val (.int stt_32), .val (.int exq_41)] [(.int stt_32), (.ref ser_14)])) _
    refine st47.trans ?_
    show Steps p.tables e below (T47.setTop (mkF m 178 #[.val (.int x1), .val (.int x2), .val (.int x3), .val (.int ((x1 &&& (2147483647 : Int32)) % (5 : Int32))), .val (.ref ser_14), .val (.int dig_14), .val (.int (dig_14 * (100 : Int32))), .val (.int (x3 &&& (3 : Int32))), .val (.int stt_32), .val (.int exq_41)] [(.int (own_b ((stt_32 / (100 : Int32)) = dig_14)))])) _
    refine XS.iload X47.here hx rfl (hb hby at_178) rfl ?_
    show Steps p.tables e below (T47.setTop (mkF m 180 #[.val (.int x1), .val (.int x2), .val (.int x3), .val (.int ((x1 &&& (2147483647 : Int32)) % (5 : Int32))), .val (.ref ser_14), .val (.int dig_14), .val (.int (dig_14 * (100 : Int32))), .val (.int (x3 &&& (3 : Int32))), .val (.int stt_32), .val (.int exq_41)] [(.int exq_41), (.int (own_b ((stt_32 / (100 : Int32)) = dig_14)))])) _
    refine XS.icmpNo X47.here hx rfl (hb hby at_180) rfl (teq ((own_inc stt_32 dig_14 J14_2).trans J41_0.symm)).2 ?_
    show Steps p.tables e below (T47.setTop (mkF m 183 #[.val (.int x1), .val (.int x2), .val (.int x3), .val (.int ((x1 &&& (2147483647 : Int32)) % (5 : Int32))), .val (.ref ser_14), .val (.int dig_14), .val (.int (dig_14 * (100 : Int32))), .val (.int (x3 &&& (3 : Int32))), .val (.int stt_32), .val (.int exq_41)] [])) _
    refine XS.iconst X47.here hx rfl (hb hby at_183) ?_
    show Steps p.tables e below (T47.setTop (mkF m 184 #[.val (.int x1), .val (.int x2), .val (.int x3), .val (.int ((x1 &&& (2147483647 : Int32)) % (5 : Int32))), .val (.ref ser_14), .val (.int dig_14), .val (.int (dig_14 * (100 : Int32))), .val (.int (x3 &&& (3 : Int32))), .val (.int stt_32), .val (.int exq_41)] [(.int (1 : Int32))])) _
    refine XS.goto X47.here hx rfl (pc0 := 184) (pc' := 188) rfl (hb hby at_184) (by decide) (by decide) ?_
    show Steps p.tables e below (T47.setTop (mkF m 188 #[.val (.int x1), .val (.int x2), .val (.int x3), .val (.int ((x1 &&& (2147483647 : Int32)) % (5 : Int32))), .val (.ref ser_14), .val (.int dig_14), .val (.int (dig_14 * (100 : Int32))), .val (.int (x3 &&& (3 : Int32))), .val (.int stt_32), .val (.int exq_41)] [(.int (1 : Int32))])) _
    exact retN X47 hx (t := .boolean) Bd.returns (by simp) (hb hby at_188) hr
  · show Q0 Z x1 x2 x3 st_INFORMATIONAL st_SUCCESSFUL st_REDIRECTION st_CLIENT_ERROR st_SERVER_ERROR h0 n0 _ T47.heap _
    rw [eh47]
    exact ⟨rfl, N47, rfl⟩
-- end of walk
set_option maxRecDepth 65536 in
set_option maxHeartbeats 40000000 in
theorem comes_1 {Post : Tables → Env → Array Value → State → Outcome → State → Prop} (hpost : ∀ tb e args s v u, (limb_1_1.after args s (.returned v) u = true ∧ limb_1_2.after args s (.returned v) u = true ∧ True) → FrameEnd s (.returned v) u (Jvm.fieldLocs frame_1_writes args s ++ Jvm.arrayLocs frame_1_arrays args s ++ Jvm.staticLocs frame_1_statics s) 0 0 → Post tb e args s (.returned v) u) :
    ArmFor flags0 classFile x code maxLocals ret World_1 tables_1 room_1 Calls_1 rest_1 Pre_1 Post := by
  intro l hfl _ _ p e ha hc hk s m args below hf hA hF happ hP
  obtain ⟨hcalls, hrest, hpre⟩ := hP
  obtain ⟨-, -, -, hnamed, -, -, -, hat⟩ := (Spec.applies_iff hf).mp happ
  obtain ⟨hg, hn⟩ := and_e (Cond.before_iff.mp (show (Jvm.Cond.and given_1 narrow_1).before args s = true from hpre))
  obtain ⟨gg1, gg2⟩ := and_e hg
  obtain ⟨gg3, gg4⟩ := and_e gg2
  obtain ⟨gg5, gg6⟩ := and_e gg4
  obtain ⟨gg7, gg8⟩ := and_e hn
  obtain ⟨gg9, gg10⟩ := and_e gg8
  obtain ⟨gg11, gg12⟩ := and_e gg10
  obtain ⟨gg13, gg14⟩ := and_e gg12
  obtain ⟨gg15, gg16⟩ := and_e gg14
  obtain ⟨gg17, gg18⟩ := and_e gg16
  obtain ⟨gg19, gg20⟩ := and_e gg18
  obtain ⟨gg21, gg22⟩ := and_e gg20
  obtain ⟨gg23, gg24⟩ := and_e gg22
  obtain ⟨w0, w1, w2, rfl⟩ : ∃ w0 w1 w2 : Value, args = #[w0, w1, w2] := by
    have hs : args.size = 3 := by simpa [Cond.value, given_1] using gg1
    obtain ⟨L⟩ := args
    match L, hs with
    | [w0, w1, w2], _ => exact ⟨w0, w1, w2, rfl⟩
  have hw := fun d (hd : d ∈ tables_1) => atoms_spec (ws := Jvm.Cond.code x code maxLocals ret :: tables_1) hat d (List.mem_cons_of_mem _ hd)
  have hfit : Fit s := fun {y c} hc i hi => by
    obtain ⟨ha, rfl⟩ := Array.getElem?_eq_some_iff.mp hc
    have q := List.all_eq_true.mp ((Array.all_eq_true_iff_forall_mem.mp hF) _ (Array.getElem_mem ha)) i (List.mem_range.mpr hi)
    simpa [Array.getElem?_eq_getElem hi] using q
  obtain ⟨i0, ei0⟩ := is_v gg3
  obtain rfl : w0 = (.int i0) := Option.some.inj ei0
  obtain ⟨i1, ei1⟩ := is_v gg5
  obtain rfl : w1 = (.int i1) := Option.some.inj ei1
  obtain ⟨i2, ei2⟩ := is_v gg6
  obtain rfl : w2 = (.int i2) := Option.some.inj ei2
  obtain ⟨st_INFORMATIONAL, ev_st_INFORMATIONAL⟩ := exa_v gg7
  have S_INFORMATIONAL : Sta s s.heap "com/example/prueba/prueba/Series" "INFORMATIONAL" "Lcom/example/prueba/prueba/Series;" (.ref st_INFORMATIONAL) := Sta.start ev_st_INFORMATIONAL (Or.inr ⟨hw _ (List.mem_of_getElem? (i := 2) rfl), hw _ (List.mem_of_getElem? (i := 3) rfl)⟩)
  have EZ_st_INFORMATIONAL : Exa s s.heap st_INFORMATIONAL "com/example/prueba/prueba/Series" := Exa.start ev_st_INFORMATIONAL gg7
  have FZ_st_INFORMATIONAL_firstDigit : Fld s s.heap st_INFORMATIONAL "com/example/prueba/prueba/Series" "firstDigit" "I" (.int (1 : Int32)) := Fld.start ((fld_at ev_st_INFORMATIONAL).symm.trans (own_eqI gg9))
  obtain ⟨st_SUCCESSFUL, ev_st_SUCCESSFUL⟩ := exa_v gg11
  have S_SUCCESSFUL : Sta s s.heap "com/example/prueba/prueba/Series" "SUCCESSFUL" "Lcom/example/prueba/prueba/Series;" (.ref st_SUCCESSFUL) := Sta.start ev_st_SUCCESSFUL (Or.inr ⟨hw _ (List.mem_of_getElem? (i := 2) rfl), hw _ (List.mem_of_getElem? (i := 12) rfl)⟩)
  have EZ_st_SUCCESSFUL : Exa s s.heap st_SUCCESSFUL "com/example/prueba/prueba/Series" := Exa.start ev_st_SUCCESSFUL gg11
  have FZ_st_SUCCESSFUL_firstDigit : Fld s s.heap st_SUCCESSFUL "com/example/prueba/prueba/Series" "firstDigit" "I" (.int (2 : Int32)) := Fld.start ((fld_at ev_st_SUCCESSFUL).symm.trans (own_eqI gg13))
  obtain ⟨st_SERVER_ERROR, ev_st_SERVER_ERROR⟩ := exa_v gg15
  have S_SERVER_ERROR : Sta s s.heap "com/example/prueba/prueba/Series" "SERVER_ERROR" "Lcom/example/prueba/prueba/Series;" (.ref st_SERVER_ERROR) := Sta.start ev_st_SERVER_ERROR (Or.inr ⟨hw _ (List.mem_of_getElem? (i := 2) rfl), hw _ (List.mem_of_getElem? (i := 14) rfl)⟩)
  have EZ_st_SERVER_ERROR : Exa s s.heap st_SERVER_ERROR "com/example/prueba/prueba/Series" := Exa.start ev_st_SERVER_ERROR gg15
  have FZ_st_SERVER_ERROR_firstDigit : Fld s s.heap st_SERVER_ERROR "com/example/prueba/prueba/Series" "firstDigit" "I" (.int (5 : Int32)) := Fld.start ((fld_at ev_st_SERVER_ERROR).symm.trans (own_eqI gg17))
  obtain ⟨st_CLIENT_ERROR, ev_st_CLIENT_ERROR⟩ := exa_v gg19
  have S_CLIENT_ERROR : Sta s s.heap "com/example/prueba/prueba/Series" "CLIENT_ERROR" "Lcom/example/prueba/prueba/Series;" (.ref st_CLIENT_ERROR) := Sta.start ev_st_CLIENT_ERROR (Or.inr ⟨hw _ (List.mem_of_getElem? (i := 2) rfl), hw _ (List.mem_of_getElem? (i := 16) rfl)⟩)
  have EZ_st_CLIENT_ERROR : Exa s s.heap st_CLIENT_ERROR "com/example/prueba/prueba/Series" := Exa.start ev_st_CLIENT_ERROR gg19
  have FZ_st_CLIENT_ERROR_firstDigit : Fld s s.heap st_CLIENT_ERROR "com/example/prueba/prueba/Series" "firstDigit" "I" (.int (4 : Int32)) := Fld.start ((fld_at ev_st_CLIENT_ERROR).symm.trans (own_eqI gg21))
  obtain ⟨st_REDIRECTION, ev_st_REDIRECTION⟩ := exa_v gg23
  have S_REDIRECTION : Sta s s.heap "com/example/prueba/prueba/Series" "REDIRECTION" "Lcom/example/prueba/prueba/Series;" (.ref st_REDIRECTION) := Sta.start ev_st_REDIRECTION (Or.inr ⟨hw _ (List.mem_of_getElem? (i := 2) rfl), hw _ (List.mem_of_getElem? (i := 18) rfl)⟩)
  have EZ_st_REDIRECTION : Exa s s.heap st_REDIRECTION "com/example/prueba/prueba/Series" := Exa.start ev_st_REDIRECTION gg23
  have FZ_st_REDIRECTION_firstDigit : Fld s s.heap st_REDIRECTION "com/example/prueba/prueba/Series" "firstDigit" "I" (.int (3 : Int32)) := Fld.start ((fld_at ev_st_REDIRECTION).symm.trans (own_eqI gg24))
  obtain ⟨n, o, h1, h2, h3, _, L, rfl, ⟨rfl, N, -⟩, hq⟩ := rm0 l s _ hw tables_1 i0 i1 i2 st_INFORMATIONAL st_SUCCESSFUL st_REDIRECTION st_CLIENT_ERROR st_SERVER_ERROR s.heap s.heap.size (Nat.le_refl _) (Old.start s) S_INFORMATIONAL EZ_st_INFORMATIONAL FZ_st_INFORMATIONAL_firstDigit S_SUCCESSFUL EZ_st_SUCCESSFUL FZ_st_SUCCESSFUL_firstDigit S_REDIRECTION EZ_st_REDIRECTION FZ_st_REDIRECTION_firstDigit S_CLIENT_ERROR EZ_st_CLIENT_ERROR FZ_st_CLIENT_ERROR_firstDigit S_SERVER_ERROR EZ_st_SERVER_ERROR FZ_st_SERVER_ERROR_firstDigit p e ha hc hk s m _ below hf ((Spec.applies_iff_loose hf).mp happ).1 ⟨rfl, State.Warmed39.refl s, rfl⟩ trivial
  refine ⟨n, _, h1, h2, h3, hpost _ _ _ _ _ _ ⟨Cond.after_iff.mpr rfl, Cond.after_iff.mpr (eq_i res_at (Term.int_eval (1)) rfl), trivial⟩ ⟨hq.1, hq.2.1, (hq.2.2.sift fun y hy => Or.inr (N y hy)).mono (by decide) (by decide)⟩⟩
theorem main_1_1 : Claimed_1_1 := comes_1 fun _ _ _ _ _ _ h hF => ⟨h.1, hF⟩
theorem main_1_2 : Claimed_1_2 := comes_1 fun _ _ _ _ _ _ h hF => ⟨h.2.1, hF⟩
end Jvm.Pilot.@@N@@
namespace Jvm.Pilot.@@N@@
open Jvm Jvm.ClassFile Sem Op Lib Jvm.Free Jvm.Stand Jvm.Pilot.@@N@@.Jvm.D
/-! MADE BY PROGRAM (witnessworld.py) out of the Statement's table words and the real class files: 12 classes; the members and pool entries that the words name. The judged class is class 1, her method 1. -/
namespace start1
open Jvm.ClassFile
def u (s : String) : CpInfo := .utf8 (stringToUtf16 s)
/-- a pool by its gaps: so many unusable entries, then the entry; so many at the end -/
def gap : Nat → List CpInfo → List CpInfo
  | 0, r => r
  | n + 1, r => .unusable :: gap n r
def poolList (es : List (Nat × CpInfo)) (last : Nat) : List CpInfo := es.foldr (fun e r => gap e.1 (e.2 :: r)) (gap last [])
def pool (es : List (Nat × CpInfo)) (last : Nat) : Array CpInfo := ⟨poolList es last⟩
def fileOf (pool : Array CpInfo) (this : Nat) (attrs : Array Attribute := #[]) (ms : Array MethodInfo := #[]) (fl : Nat := 33) (sup : Nat := 0) (ifs : Array Nat := #[]) (fds : Array FieldInfo := #[]) : ClassFile where
  minorVersion := 0
  majorVersion := 65
  constantPool := pool
  accessFlags := fl
  thisClass := this
  superClass := sup
  interfaces := ifs
  fields := fds
  methods := ms
  attributes := attrs
def plain (name : String) (sup : Option ClassId) : Class where
  name := name
  kind := .ordinary
  loader := none
  accessFlags := 33
  super := sup
  interfaces := #[]
  cf := none
  fields := #[]
  methods := #[]
  instanceTypes := #[]
  staticTypes := #[]
  resolved := #[]
  callSites := []
  init := .initialized
  statics := none
  mirror := none

def pool0 : Array CpInfo := pool [(5, u "<init>"), (0, u "()V"), (1, .class_ 10), (1, u "java/lang/Object")] 113

def k0m0 : Method := { name := "<init>", desc := "()V", sig := { parameters := [], returnType := none }, accessFlags := 1, code := none }
/-- java/lang/Object -/
def k0 : Class := { plain "java/lang/Object" none with
  accessFlags := 33
  interfaces := #[]
  cf := some (fileOf pool0 8 #[] #[{ accessFlags := 1, nameIndex := 5, descriptorIndex := 6, attributes := #[] }] 33 0 #[] #[])
  fields := #[]
  methods := #[k0m0]
  instanceTypes := #[]
  staticTypes := #[]
  resolved := Array.replicate 124 none
  statics := none }

def pool1 : Array CpInfo := pool [(2, .class_ 4), (1, u "java/lang/Object"), (0, u "<init>"), (0, u "()V"), (0, .integer 2147483647), (0, .fieldref 9 10), (0, .class_ 11), (0, .nameAndType 12 13), (0, u "com/example/prueba/prueba/Series"), (0, u "INFORMATIONAL"), (0, u "Lcom/example/prueba/prueba/Series;"), (0, .fieldref 9 15), (0, .nameAndType 16 13), (0, u "SUCCESSFUL"), (0, .fieldref 9 18), (0, .nameAndType 19 13), (0, u "REDIRECTION"), (0, .fieldref 9 21), (0, .nameAndType 22 13), (0, u "CLIENT_ERROR"), (0, .fieldref 9 24), (0, .nameAndType 25 13), (0, u "SERVER_ERROR"), (0, .methodref 9 27), (0, .nameAndType 28 29), (0, u "includes"), (0, u "(I)Z"), (0, .class_ 31), (0, u "com/example/prueba/prueba/SeriesIncludesPinLaw"), (2, u "law"), (0, u "(III)Z")] 3

def k1m0 : Method := { name := "<init>", desc := "()V", sig := { parameters := [], returnType := none }, accessFlags := 2, code := none }
def k1c1 : Code := { maxStack := 3, maxLocals := 10, code := code, exceptionTable := #[], attributes := #[] }
def k1m1 : Method := { name := "law", desc := "(III)Z", sig := { parameters := [.int, .int, .int], returnType := some .boolean }, accessFlags := 9, code := some k1c1 }
/-- com/example/prueba/prueba/SeriesIncludesPinLaw -/
def k1 : Class := { plain "com/example/prueba/prueba/SeriesIncludesPinLaw" (some 0) with
  accessFlags := 49
  interfaces := #[]
  cf := some (fileOf pool1 30 #[] #[{ accessFlags := 2, nameIndex := 5, descriptorIndex := 6, attributes := #[] }, { accessFlags := 9, nameIndex := 34, descriptorIndex := 35, attributes := #[] }] 49 2 #[] #[])
  fields := #[]
  methods := #[k1m0, k1m1]
  instanceTypes := #[]
  staticTypes := #[]
  resolved := Array.replicate 39 none
  statics := none }

def pool2 : Array CpInfo := pool [(1, .class_ 2), (0, u "java/lang/constant/Constable"), (0, .class_ 4), (0, u "java/lang/Object")] 6

/-- java/lang/constant/Constable -/
def k2 : Class := { plain "java/lang/constant/Constable" (some 0) with
  accessFlags := 1537
  interfaces := #[]
  cf := some (fileOf pool2 1 #[] #[] 1537 3 #[] #[])
  fields := #[]
  methods := #[]
  instanceTypes := #[]
  staticTypes := #[]
  resolved := Array.replicate 11 none
  statics := none }

def pool3 : Array CpInfo := pool [(1, .class_ 2), (0, u "java/lang/Comparable"), (0, .class_ 4), (0, u "java/lang/Object")] 7

/-- java/lang/Comparable -/
def k3 : Class := { plain "java/lang/Comparable" (some 0) with
  accessFlags := 1537
  interfaces := #[]
  cf := some (fileOf pool3 1 #[] #[] 1537 3 #[] #[])
  fields := #[]
  methods := #[]
  instanceTypes := #[]
  staticTypes := #[]
  resolved := Array.replicate 12 none
  statics := none }

def pool4 : Array CpInfo := pool [(1, .class_ 2), (0, u "java/io/Serializable"), (0, .class_ 4), (0, u "java/lang/Object")] 2

/-- java/io/Serializable -/
def k4 : Class := { plain "java/io/Serializable" (some 0) with
  accessFlags := 1537
  interfaces := #[]
  cf := some (fileOf pool4 1 #[] #[] 1537 3 #[] #[])
  fields := #[]
  methods := #[]
  instanceTypes := #[]
  staticTypes := #[]
  resolved := Array.replicate 7 none
  statics := none }

def pool5 : Array CpInfo := pool [(2, .class_ 4), (1, u "java/lang/Enum"), (0, u "name"), (0, u "Ljava/lang/String;"), (2, u "ordinal"), (0, u "I"), (1, .class_ 14), (1, u "java/lang/Object"), (4, u "hash"), (86, .class_ 108), (1, u "java/lang/Enum$EnumDesc"), (2, .class_ 112), (0, u "java/lang/constant/Constable"), (0, .class_ 114), (0, u "java/lang/Comparable"), (0, .class_ 116), (0, u "java/io/Serializable")] 87

/-- java/lang/Enum -/
def k5 : Class := { plain "java/lang/Enum" (some 0) with
  accessFlags := 1057
  interfaces := #[2, 3, 4]
  cf := some (fileOf pool5 2 #[.nestMembers #[106]] #[] 1057 12 #[111, 113, 115] #[{ accessFlags := 18, nameIndex := 5, descriptorIndex := 6, attributes := #[] }, { accessFlags := 18, nameIndex := 9, descriptorIndex := 10, attributes := #[] }, { accessFlags := 2, nameIndex := 19, descriptorIndex := 10, attributes := #[] }])
  fields := #[{ name := "name", type := (.object "java/lang/String"), accessFlags := 18, slot := 0, constantValue := 0 }, { name := "ordinal", type := .int, accessFlags := 18, slot := 1, constantValue := 0 }, { name := "hash", type := .int, accessFlags := 2, slot := 2, constantValue := 0 }]
  methods := #[]
  instanceTypes := #[(.object "java/lang/String"), .int, .int]
  staticTypes := #[]
  resolved := Array.replicate 204 none
  statics := none }

def pool6 : Array CpInfo := pool [(1, .class_ 2), (0, u "com/example/prueba/prueba/Series"), (2, u "INFORMATIONAL"), (0, u "Lcom/example/prueba/prueba/Series;"), (2, u "SUCCESSFUL"), (2, u "REDIRECTION"), (2, u "CLIENT_ERROR"), (2, u "SERVER_ERROR"), (2, u "$VALUES"), (0, u "[Lcom/example/prueba/prueba/Series;"), (6, .class_ 31), (1, u "java/lang/Enum"), (6, .fieldref 1 39), (0, .nameAndType 40 41), (0, u "firstDigit"), (0, u "I"), (23, u "includes"), (0, u "(I)Z")] 23

def k6c0 : Code := { maxStack := 2, maxLocals := 2, code := prog_14_method_4_code, exceptionTable := #[], attributes := #[] }
def k6m0 : Method := { name := "includes", desc := "(I)Z", sig := { parameters := [.int], returnType := some .boolean }, accessFlags := 1, code := some k6c0 }
/-- com/example/prueba/prueba/Series -/
def k6 : Class := { plain "com/example/prueba/prueba/Series" (some 5) with
  accessFlags := 16433
  interfaces := #[]
  cf := some (fileOf pool6 1 #[] #[{ accessFlags := 1, nameIndex := 65, descriptorIndex := 66, attributes := #[] }] 16433 29 #[] #[{ accessFlags := 16409, nameIndex := 5, descriptorIndex := 6, attributes := #[] }, { accessFlags := 16409, nameIndex := 9, descriptorIndex := 6, attributes := #[] }, { accessFlags := 16409, nameIndex := 12, descriptorIndex := 6, attributes := #[] }, { accessFlags := 16409, nameIndex := 15, descriptorIndex := 6, attributes := #[] }, { accessFlags := 16409, nameIndex := 18, descriptorIndex := 6, attributes := #[] }, { accessFlags := 18, nameIndex := 40, descriptorIndex := 41, attributes := #[] }, { accessFlags := 4122, nameIndex := 21, descriptorIndex := 22, attributes := #[] }])
  fields := #[{ name := "INFORMATIONAL", type := (.object "com/example/prueba/prueba/Series"), accessFlags := 16409, slot := 0, constantValue := 0 }, { name := "SUCCESSFUL", type := (.object "com/example/prueba/prueba/Series"), accessFlags := 16409, slot := 1, constantValue := 0 }, { name := "REDIRECTION", type := (.object "com/example/prueba/prueba/Series"), accessFlags := 16409, slot := 2, constantValue := 0 }, { name := "CLIENT_ERROR", type := (.object "com/example/prueba/prueba/Series"), accessFlags := 16409, slot := 3, constantValue := 0 }, { name := "SERVER_ERROR", type := (.object "com/example/prueba/prueba/Series"), accessFlags := 16409, slot := 4, constantValue := 0 }, { name := "firstDigit", type := .int, accessFlags := 18, slot := 3, constantValue := 0 }, { name := "$VALUES", type := (.array (.object "com/example/prueba/prueba/Series")), accessFlags := 4122, slot := 5, constantValue := 0 }]
  methods := #[k6m0]
  instanceTypes := #[(.object "java/lang/String"), .int, .int, .int]
  staticTypes := #[(.object "com/example/prueba/prueba/Series"), (.object "com/example/prueba/prueba/Series"), (.object "com/example/prueba/prueba/Series"), (.object "com/example/prueba/prueba/Series"), (.object "com/example/prueba/prueba/Series"), (.array (.object "com/example/prueba/prueba/Series"))]
  resolved := Array.replicate 90 none
  statics := some 0 }

def pool7 : Array CpInfo := pool [(1, u "java/lang/Cloneable"), (0, .class_ 1), (0, u "java/lang/Object"), (0, .class_ 3)] 3

/-- java/lang/Cloneable -/
def k7 : Class := { plain "java/lang/Cloneable" (some 0) with
  accessFlags := 1537
  interfaces := #[]
  cf := some (fileOf pool7 2 #[] #[] 1537 4 #[] #[])
  fields := #[]
  methods := #[]
  instanceTypes := #[]
  staticTypes := #[]
  resolved := Array.replicate 8 none
  statics := none }

/-- the primitive byte -/
def k8 : Class := { plain "byte" none with kind := .primitive 'B', accessFlags := 0x411 }
/-- [B -/
def k9 : Class := { plain "[B" (some 0) with kind := .array 8 .byte, interfaces := #[7, 4], accessFlags := 1041 }

/-- the primitive int -/
def k10 : Class := { plain "int" none with kind := .primitive 'I', accessFlags := 0x411 }
/-- [I -/
def k11 : Class := { plain "[I" (some 0) with kind := .array 10 .int, interfaces := #[7, 4], accessFlags := 1041 }

def heap : Heap := #[{ cls := 6, slots := #[.ref 1, .ref 2, .ref 3, .ref 4, .ref 5, .null], vm := .statics 6 },
  { cls := 6, slots := #[.null, .int 0, .int 0, .int 1], vm := .none },
  { cls := 6, slots := #[.null, .int 0, .int 0, .int 2], vm := .none },
  { cls := 6, slots := #[.null, .int 0, .int 0, .int 3], vm := .none },
  { cls := 6, slots := #[.null, .int 0, .int 0, .int 4], vm := .none },
  { cls := 6, slots := #[.null, .int 0, .int 0, .int 5], vm := .none }]
def classes : Array Class := #[k0, k1, k2, k3, k4, k5, k6, k7, k8, k9, k10, k11]
def interned : List (Array UInt16 × Addr) := []
def slotsUsed : Nat := 26
def theMethod : MethodId := ⟨1, 1⟩
def args0 : Array Value := #[.int 5, .int 5, .int 5]
def aboutOver (below : List Frame) : State where
  vm := { classes := classes, interned := interned.toArray }
  heap := heap
  slotsUsed := slotsUsed
  threads := #[{ frames := .invoking theMethod args0 :: below }]
def below0 : List Frame := [.native { method := ⟨0, 0⟩, args := #[] }]
def about1 : State := aboutOver below0
def p0 : Program := .bare "" "" ""
def e0 : Env := launch0.env 0 0 0
theorem w_frames : about1.frames = Frame.invoking theMethod args0 :: below0 := rfl
set_option maxRecDepth 65536 in
theorem w_args : argsFit about1.vm theMethod args0 = true := by decide +kernel
set_option maxRecDepth 65536 in
theorem w_heap : heapFits about1 = true := by decide +kernel
set_option maxRecDepth 65536 in
theorem w_runnable : about1.curStatus? = some .runnable := by decide +kernel
set_option maxRecDepth 65536 in
theorem w_alone : about1.alone = true := by decide +kernel
set_option maxRecDepth 65536 in
theorem w_named : about1.methodNamed? x = some theMethod := by decide +kernel
set_option maxRecDepth 65536 in
theorem w_hears : about1.hears theMethod below0 = true := by decide +kernel
set_option maxRecDepth 65536 in
theorem w_ripe : about1.ripe theMethod args0 below0 = true := by decide +kernel
theorem w_running : about1.status = .running := rfl
set_option maxRecDepth 65536 in
theorem w_room : about1.hasRoom e0.platform room_1 = true :=
  launch0.hasRoom_least _ room_1 (by decide +kernel) (by decide +kernel) (by decide +kernel) (by decide +kernel) (by decide +kernel) (by decide +kernel)
theorem allAtoms_all (ts : List Jvm.Cond) (a : Array Jvm.Value) (st : Jvm.State) : (allAtoms ts).before a st = ts.all (fun c => c.before a st) := by
  induction ts with
  | nil => rfl
  | cons c t ih =>
    show (Jvm.Cond.and c (allAtoms t)).before a st = _
    rw [Jvm.Cond.before_and, ih, List.all_cons]
def words1 : List Jvm.Cond := Jvm.Cond.code x code maxLocals ret :: tables_1
/-- a 'code' word, met by the world's own term for the bytes: nothing is compared byte by byte -/
theorem code_word {y : MethodName} {bytes : ByteArray} {mx : Nat} {rt : Option FieldType} {a : Array Value} {s : State} {m : MethodId} {meth : Method} {c : Code} (h1 : s.methodNamed? y = some m) (h2 : s.vm.method? m = some meth) (h3 : meth.code = some c) (h4 : c.code = bytes)
    (h5 : (c.maxLocals == mx && c.exceptionTable.isEmpty && decide (c.maxStack ≤ mostOperands) && decide (meth.sig.returnType = rt) && !meth.locks && decide (parseMethodDescriptor y.desc = some meth.sig)) = true) : (Jvm.Cond.code y bytes mx rt).before a s = true := by
  simp only [Bool.and_eq_true, beq_iff_eq, Bool.not_eq_true', decide_eq_true_eq] at h5
  obtain ⟨⟨⟨⟨⟨g1, g2⟩, g3⟩, g4⟩, g5⟩, g6⟩ := h5
  simp [Cond.before, Cond.holds, Cond.value, h1, h2, h3, h4, g1, g2, g3, g4, g5, g6]
def isCode : Jvm.Cond → Bool
  | .code _ _ _ _ => true
  | _ => false
theorem all_split {L : List Jvm.Cond} {P : Jvm.Cond → Bool} (h1 : L.all (fun c => isCode c || P c) = true) (h2 : ∀ c ∈ L.filter isCode, P c = true) : L.all P = true := by
  refine List.all_eq_true.mpr fun c hc => ?_
  have h := List.all_eq_true.mp h1 c hc
  rcases Bool.eq_false_or_eq_true (isCode c) with hi | hi
  · exact h2 c (List.mem_filter.mpr ⟨hc, hi⟩)
  · simpa [hi] using h
set_option maxRecDepth 65536 in
theorem w_c0 : (Jvm.Cond.code x code maxLocals ret).before args0 about1 = true := code_word (m := ⟨1, 1⟩) (meth := k1m1) (c := k1c1) (by decide +kernel) rfl rfl rfl (by decide +kernel)
set_option maxRecDepth 65536 in
theorem w_c1 : (Jvm.Cond.code ({ cls := "com/example/prueba/prueba/Series", name := "includes", desc := "(I)Z" } : Jvm.MethodName) prog_14_method_4_code (2 : Nat) (Option.some Jvm.ClassFile.FieldType.boolean)).before args0 about1 = true := code_word (m := ⟨6, 0⟩) (meth := k6m0) (c := k6c0) (by decide +kernel) rfl rfl rfl (by decide +kernel)
def codes1 : List Jvm.Cond := [Jvm.Cond.code x code maxLocals ret, Jvm.Cond.code ({ cls := "com/example/prueba/prueba/Series", name := "includes", desc := "(I)Z" } : Jvm.MethodName) prog_14_method_4_code (2 : Nat) (Option.some Jvm.ClassFile.FieldType.boolean)]
set_option maxRecDepth 65536 in
theorem codes_eq : words1.filter isCode = codes1 := rfl
theorem w_codes : ∀ c ∈ words1.filter isCode, c.before args0 about1 = true := by
  rw [codes_eq]
  intro c hc
  simp only [codes1, List.mem_cons, List.not_mem_nil, or_false] at hc
  rcases hc with rfl | rfl
  · exact w_c0
  · exact w_c1
set_option maxRecDepth 65536 in
theorem w_t1 : words1.all (fun c => isCode c || c.before args0 about1) = true := by decide +kernel
theorem w_tables : (allAtoms (Jvm.Cond.code x code maxLocals ret :: tables_1)).before args0 about1 = true := by
  rw [allAtoms_all]
  show words1.all (fun c => c.before args0 about1) = true
  refine all_split ?_ w_codes
  rw [w_t1]
set_option maxRecDepth 65536 in
theorem w_case : (Jvm.Cond.and given_1 narrow_1).before args0 about1 = true := by decide +kernel
theorem w_applies : (headSpec (Jvm.Cond.code x code maxLocals ret :: tables_1) room_1).applies x e0.platform about1 = true :=
  (Spec.applies_iff w_frames).mpr ⟨w_running, w_runnable, w_alone, w_named, w_hears, w_ripe, w_room, w_tables⟩
theorem atStart : AtStart classFile x code maxLocals ret World_1 tables_1 room_1 Calls_1 rest_1 Pre_1 launch0 p0 e0 about1 theMethod args0 below0 :=
  ⟨lists_1, trivial, launch0.admits_env _ _ _, launch0.least_env, fairChoices_fair.cas, fairChoices_fair.clock, w_frames, w_args, w_heap, w_applies, trivial, trivial, w_case⟩
end start1
theorem witness_1 : WitnessClaimed_1 := ⟨start1.p0, start1.e0, start1.about1, start1.theMethod, start1.args0, start1.below0, start1.atStart⟩
end Jvm.Pilot.@@N@@
