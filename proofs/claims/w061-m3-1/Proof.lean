import JvmDerived
import JvmDerived.Pilot.@@N@@Statement
import JvmDerived.Pilot.@@N@@Code
set_option linter.unusedVariables false
set_option linter.unusedSimpArgs false
namespace Jvm.RoadKit
open Sem ClassFile Op Lib Jvm.Stand Jvm.Free Jvm.LawKit
section New
variable {p : Program} {l : Launch} {e : Env} {R : Room} {s : State} {m : MethodId} {args : Array Value} {below : List Frame} {meth : Method} {c : Code} {T : State} {locs : List Loc} {cells slots : Nat}
theorem retI (X : Stand p l e R s m args below meth c T locs cells slots) (hx : p.tables.exec = Jvm.exec) {pc : Nat} {Ls : Array Slot} {z : Int32} {rest : List Value} (hret : meth.sig.returnType = some .int) (hd : decode c.code pc = .ok (.ireturn, 1)) {fs : List Frame}
    (hl : ∀ (f : JFrame) (acts : List Action), f.method = m → f.locked = none → f.entered = [] → (doReturn e (T.setTop f) acts (some (.int z))).1 = T.setFrames fs) : Steps p.tables e below (T.setTop (mkF m pc Ls (.int z :: rest))) (T.setFrames fs) :=
  retOut X hx hret rfl (Or.inl ⟨rfl, Or.inl rfl, z, rfl⟩) hd hl
end New
end Jvm.RoadKit
namespace Jvm.Pilot.@@N@@
open Jvm Jvm.ClassFile Sem Op Lib Jvm.Free Jvm.Stand Jvm.LawKit Jvm.RoadKit Bundle Jvm.Pilot.@@N@@.Jvm.D
def own_b (P : Prop) [Decidable P] : Int32 := if P then (1 : Int32) else (0 : Int32)
theorem own_bt {P : Prop} [Decidable P] (h : P) : own_b P = (1 : Int32) := if_pos h
theorem own_bf {P : Prop} [Decidable P] (h : ¬ P) : own_b P = (0 : Int32) := if_neg h
theorem own_btn {P : Prop} [Decidable P] (h : P) : ¬ (own_b P = (0 : Int32)) := by rw [own_bt h]; decide
theorem own_bfn {P : Prop} [Decidable P] (h : ¬ P) : ¬ (own_b P = (1 : Int32)) := by rw [own_bf h]; decide
theorem own_b_congr {P Q : Prop} [Decidable P] [Decidable Q] (h : P ↔ Q) : own_b P = own_b Q := by
  by_cases q : P
  · rw [own_bt q, own_bt (h.mp q)]
  · rw [own_bf q, own_bf fun z => q (h.mpr z)]
theorem own_eqI {args : Array Value} {s : State} {t : Term} {k : Int32} (h : (Jvm.Cond.eq t (.int k)).value args s none s [] = some true) : t.eval args s none [] s = some (.int k) := by
  obtain ⟨x, y, h1, h2, -, h4⟩ := cmp_v (Or.inl h)
  cases Option.some.inj (h2.symm.trans (Term.int_eval k))
  obtain ⟨z, rfl⟩ := h4
  rw [h1, gotT (Cond.eq_ints h1 h2) h]
theorem own_eqR {args : Array Value} {s : State} {t u : Term} {y : Addr} (hu : u.eval args s none [] s = some (.ref y)) (h : (Jvm.Cond.eq t u).value args s none s [] = some true) : t.eval args s none [] s = some (.ref y) := by
  obtain ⟨x, y', h1, h2, -, h4⟩ := cmp_v (Or.inl h)
  cases Option.some.inj (h2.symm.trans hu)
  rw [h1, gotT (eq_R h1 h2 h4.2 rfl) h]
theorem own_len {args : Array Value} {s : State} {t : Term} {a : Addr} {cl : Cell} {ty : FieldType} {k : Int32} (ev : t.eval args s none [] s = some (.ref a)) (A : Arr s s.heap a cl ty) (h : (Term.length t).eval args s none [] s = some (.int k)) : cl.slots.size < 2 ^ 31 ∧ cl.slots.size.toInt32 = k := by
  have ha : s.arrayAt? a = some cl := A.fin (Vm.Alike.refl _)
  by_cases hl : cl.slots.size < 2 ^ 31
  · rw [len_f ev ha hl] at h
    exact ⟨hl, by simpa using h⟩
  · simp [Term.eval, ev, ha, hl] at h
theorem own_eqL {args : Array Value} {s : State} {t : Term} {k : Int64} (h : (Jvm.Cond.eq t (.long k)).value args s none s [] = some true) : t.eval args s none [] s = some (.long k) := by
  obtain ⟨x, y, h1, h2, -, h4⟩ := cmp_v (Or.inl h)
  cases Option.some.inj (h2.symm.trans (long_at k))
  obtain ⟨z, rfl⟩ := h4
  rw [h1, gotT (eq_L h1 h2) h]
def own_lo (n : Int32) : Int64 := if n = (4 : Int32) then (2147483647 : Int64) else (9223372036854775807 : Int64)

theorem d1_0 : decode prog_41_method_9_code 0 = .ok (.aload_n 0, 1) := by decide +kernel
theorem d1_1 : decode prog_41_method_9_code 1 = .ok (.getfield 40, 3) := by decide +kernel
theorem d1_4 : decode prog_41_method_9_code 4 = .ok (.iconst 4, 1) := by decide +kernel
theorem d1_5 : decode prog_41_method_9_code 5 = .ok (.if_icmp .ne 9, 3) := by decide +kernel
theorem d1_8 : decode prog_41_method_9_code 8 = .ok (.ldc2_w 69, 3) := by decide +kernel
theorem d1_11 : decode prog_41_method_9_code 11 = .ok (.goto 6, 3) := by decide +kernel
theorem d1_17 : decode prog_41_method_9_code 17 = .ok (.lreturn, 1) := by decide +kernel
theorem d1_14 : decode prog_41_method_9_code 14 = .ok (.ldc2_w 73, 3) := by decide +kernel
theorem pn_com_example_tidecell_tidecell_netcdf_NetcdfFormat : plainName "com/example/tidecell/tidecell/netcdf/NetcdfFormat" = true := by first | (simp [plainName, overriddenIn]; done) | decide +kernel
theorem ef1 (m : MethodId) (tz : Addr) : entryFrame m #[(.ref tz)] 1 = mkF m 0 #[.val (.ref tz)] [] := by first | (simp [entryFrame, mkF, argsToLocals, Value.category]; done) | rfl
def Q1 (Z : State) (tz : Addr) (tz_offsetLength : Int32) (h0 : Heap) (n0 : Nat) (v : Option Value) (h : Heap) (L : List Loc) : Prop := v = some (.long (own_lo tz_offsetLength)) ∧ Fr n0 L ∧ h = h0
set_option maxRecDepth 65536 in
set_option maxHeartbeats 40000000 in
theorem rm1 (l : Launch) (Z : State) (a0 : Array Value) (hw : ∀ d ∈ tables_1, d.before a0 Z = true) (ws : List Jvm.Cond) (tz : Addr) (tz_offsetLength : Int32) (h0 : Heap) (n0 : Nat) (Z0 : n0 ≤ h0.size) (O0 : Old Z n0 h0) (F_tz_offsetLength : Fld Z h0 tz "com/example/tidecell/tidecell/netcdf/NetcdfFormat" "offsetLength" "I" (.int tz_offsetLength)) :
    MetFree l (⟨"com/example/tidecell/tidecell/netcdf/NetcdfFormat", "largestOffset", "()J"⟩ : MethodName) (head1 (Jvm.Cond.code (⟨"com/example/tidecell/tidecell/netcdf/NetcdfFormat", "largestOffset", "()J"⟩ : MethodName) prog_41_method_9_code 1 (some .long) :: ws) ({ frames := 0, cells := 0, slots := 0, locals := 0 } : Room)) (fun a U => a = #[(.ref tz)] ∧ Z.Warmed39 U.vm ∧ U.heap = h0) (fun _ _ _ _ _ => True) (fun _ U o U' => ∃ v L, o = .returned v ∧ Q1 Z tz tz_offsetLength h0 n0 v U'.heap L ∧ FrameEnd U o U' L ({ frames := 0, cells := 0, slots := 0, locals := 0 } : Room).cells ({ frames := 0, cells := 0, slots := 0, locals := 0 } : Room).slots) := by
  refine MetFree.of_bodySF (plainFor_of_name pn_com_example_tidecell_tidecell_netcdf_NetcdfFormat) hisR ?_
  intro p e s m args below meth c s₁ Bd hml0 hP hK
  obtain ⟨rfl, hZ, hh⟩ := hP
  have hx := Bd.exec
  have hby := Bd.bytes
  have hml : c.maxLocals = 1 := hml0
  have hown : s.vm.findClass "com/example/tidecell/tidecell/netcdf/NetcdfFormat" = some m.cls := findClass_of_methodNamed Bd.named
  have hnm := (name_of_methodNamed Bd.named Bd.method).1
  have X0 : Stand p l e ({ frames := 0, cells := 0, slots := 0, locals := 0 } : Room) s m #[(.ref tz)] below meth c s₁ [] 0 0 := Stand.of_body Bd
  have e0 : s₁.heap = h0 := by rw [← hh, Bd.state]; rfl
  have N0 := Fr.nil n0
  have K0 : Keep h0 h0 [] := Keep.refl _ _
  have pre0 : ∀ t, Steps p.tables e below (s₁.setTop (mkF m 0 #[.val (.ref tz)] [])) t → Steps p.tables e below (s₁.setTop (entryFrame m #[(.ref tz)] 1)) t := fun t k => castTop (ef1 m tz) k
  obtain ⟨T1, X1, e1, st1⟩ := getF X0 hx hZ hown (host := "") (Or.inl (hw _ (List.mem_of_getElem? (i := 10) rfl))) Via.refl e0 F_tz_offsetLength (g := (mkF m 1 #[.val (.ref tz)] [(.ref tz)])) rfl rfl (hb hby d1_1)
  have pre2 : ∀ t, Steps p.tables e below (T1.setTop (mkF m 5 #[.val (.ref tz)] [(.int (4 : Int32)), (.int tz_offsetLength)])) t → Steps p.tables e below (s₁.setTop (entryFrame m #[(.ref tz)] 1)) t := by
    intro t kt
    refine pre0 t ?_
    show Steps p.tables e below (s₁.setTop (mkF m 0 #[.val (.ref tz)] [])) _
    refine XS.aloadN X0.here hx rfl (hb hby d1_0) rfl rfl ?_
    show Steps p.tables e below (s₁.setTop (mkF m 1 #[.val (.ref tz)] [(.ref tz)])) _
    refine st1 _ ?_
    show Steps p.tables e below (T1.setTop (mkF m 4 #[.val (.ref tz)] [(.int tz_offsetLength)])) _
    refine XS.iconst X1.here hx rfl (hb hby d1_4) ?_
    exact kt
  by_cases hc5 : tz_offsetLength = (4 : Int32)
  · skip
    obtain ⟨fs, hr, hrun, hended, hW, hsame⟩ := X1.leave (v := some (.long (2147483647 : Int64))) (fun h => by rw [Bd.returns] at h; cases h)
    refine ⟨_, _, pre2 _ ?_, hrun, hended, _, _, rfl, ?_, ⟨_, rfl⟩, hW, hsame.mono (by decide) (by decide)⟩
    · show Steps p.tables e below (T1.setTop (mkF m 5 #[.val (.ref tz)] [(.int (4 : Int32)), (.int tz_offsetLength)])) _
      refine XS.icmpNo X1.here hx rfl (hb hby d1_5) rfl (teq hc5).2 ?_
      show Steps p.tables e below (T1.setTop (mkF m 8 #[.val (.ref tz)] [])) _
      refine X1.ldc2Long hx hown (mvT hZ (hw _ (List.mem_of_getElem? (i := 12) rfl))) (g := (mkF m 8 #[.val (.ref tz)] [])) rfl (hb hby d1_8) _ ?_
      show Steps p.tables e below (T1.setTop (mkF m 11 #[.val (.ref tz)] [(.long (2147483647 : Int64))])) _
      refine XS.goto X1.here hx rfl (pc0 := 11) (pc' := 17) rfl (hb hby d1_11) (by decide) (by decide) ?_
      show Steps p.tables e below (T1.setTop (mkF m 17 #[.val (.ref tz)] [(.long (2147483647 : Int64))])) _
      jvm_step X1.here [X1.here.top, hx, (hb hby d1_17), X1.method', Bd.returns, narrow]
      first | (intro acts; rw [hr _ acts rfl rfl rfl]) | rw [hr _ _ rfl rfl rfl]
      exact Steps.refl _
    · show Q1 Z tz tz_offsetLength h0 n0 _ T1.heap _
      rw [e1]
      exact ⟨(by simp [own_lo, hc5]), N0, rfl⟩
  · skip
    obtain ⟨fs, hr, hrun, hended, hW, hsame⟩ := X1.leave (v := some (.long (9223372036854775807 : Int64))) (fun h => by rw [Bd.returns] at h; cases h)
    refine ⟨_, _, pre2 _ ?_, hrun, hended, _, _, rfl, ?_, ⟨_, rfl⟩, hW, hsame.mono (by decide) (by decide)⟩
    · show Steps p.tables e below (T1.setTop (mkF m 5 #[.val (.ref tz)] [(.int (4 : Int32)), (.int tz_offsetLength)])) _
      refine XS.icmpYes X1.here hx rfl (pc0 := 5) (pc' := 14) rfl (hb hby d1_5) rfl (feq hc5).2 (by decide) (by decide) ?_
      show Steps p.tables e below (T1.setTop (mkF m 14 #[.val (.ref tz)] [])) _
      refine X1.ldc2Long hx hown (mvT hZ (hw _ (List.mem_of_getElem? (i := 28) rfl))) (g := (mkF m 14 #[.val (.ref tz)] [])) rfl (hb hby d1_14) _ ?_
      show Steps p.tables e below (T1.setTop (mkF m 17 #[.val (.ref tz)] [(.long (9223372036854775807 : Int64))])) _
      jvm_step X1.here [X1.here.top, hx, (hb hby d1_17), X1.method', Bd.returns, narrow]
      first | (intro acts; rw [hr _ acts rfl rfl rfl]) | rw [hr _ _ rfl rfl rfl]
      exact Steps.refl _
    · show Q1 Z tz tz_offsetLength h0 n0 _ T1.heap _
      rw [e1]
      exact ⟨(by simp [own_lo, hc5]), N0, rfl⟩
theorem d2_0 : decode prog_41_method_6_code 0 = .ok (.aload_n 0, 1) := by decide +kernel
theorem d2_1 : decode prog_41_method_6_code 1 = .ok (.getfield 40, 3) := by decide +kernel
theorem d2_4 : decode prog_41_method_6_code 4 = .ok (.ireturn, 1) := by decide +kernel
theorem ef2 (m : MethodId) (tz : Addr) : entryFrame m #[(.ref tz)] 1 = mkF m 0 #[.val (.ref tz)] [] := by first | (simp [entryFrame, mkF, argsToLocals, Value.category]; done) | rfl
def Q2 (Z : State) (tz : Addr) (tz_offsetLength : Int32) (h0 : Heap) (n0 : Nat) (v : Option Value) (h : Heap) (L : List Loc) : Prop := v = some (.int tz_offsetLength) ∧ Fr n0 L ∧ h = h0
set_option maxRecDepth 65536 in
set_option maxHeartbeats 40000000 in
theorem rm2 (l : Launch) (Z : State) (a0 : Array Value) (hw : ∀ d ∈ tables_1, d.before a0 Z = true) (ws : List Jvm.Cond) (tz : Addr) (tz_offsetLength : Int32) (h0 : Heap) (n0 : Nat) (Z0 : n0 ≤ h0.size) (O0 : Old Z n0 h0) (F_tz_offsetLength : Fld Z h0 tz "com/example/tidecell/tidecell/netcdf/NetcdfFormat" "offsetLength" "I" (.int tz_offsetLength)) :
    MetFree l (⟨"com/example/tidecell/tidecell/netcdf/NetcdfFormat", "offsetLength", "()I"⟩ : MethodName) (head1 (Jvm.Cond.code (⟨"com/example/tidecell/tidecell/netcdf/NetcdfFormat", "offsetLength", "()I"⟩ : MethodName) prog_41_method_6_code 1 (some .int) :: ws) ({ frames := 0, cells := 0, slots := 0, locals := 0 } : Room)) (fun a U => a = #[(.ref tz)] ∧ Z.Warmed39 U.vm ∧ U.heap = h0) (fun _ _ _ _ _ => True) (fun _ U o U' => ∃ v L, o = .returned v ∧ Q2 Z tz tz_offsetLength h0 n0 v U'.heap L ∧ FrameEnd U o U' L ({ frames := 0, cells := 0, slots := 0, locals := 0 } : Room).cells ({ frames := 0, cells := 0, slots := 0, locals := 0 } : Room).slots) := by
  refine MetFree.of_bodySF (plainFor_of_name pn_com_example_tidecell_tidecell_netcdf_NetcdfFormat) hisR ?_
  intro p e s m args below meth c s₁ Bd hml0 hP hK
  obtain ⟨rfl, hZ, hh⟩ := hP
  have hx := Bd.exec
  have hby := Bd.bytes
  have hml : c.maxLocals = 1 := hml0
  have hown : s.vm.findClass "com/example/tidecell/tidecell/netcdf/NetcdfFormat" = some m.cls := findClass_of_methodNamed Bd.named
  have hnm := (name_of_methodNamed Bd.named Bd.method).1
  have X0 : Stand p l e ({ frames := 0, cells := 0, slots := 0, locals := 0 } : Room) s m #[(.ref tz)] below meth c s₁ [] 0 0 := Stand.of_body Bd
  have e0 : s₁.heap = h0 := by rw [← hh, Bd.state]; rfl
  have N0 := Fr.nil n0
  have K0 : Keep h0 h0 [] := Keep.refl _ _
  have pre0 : ∀ t, Steps p.tables e below (s₁.setTop (mkF m 0 #[.val (.ref tz)] [])) t → Steps p.tables e below (s₁.setTop (entryFrame m #[(.ref tz)] 1)) t := fun t k => castTop (ef2 m tz) k
  obtain ⟨T3, X3, e3, st3⟩ := getF X0 hx hZ hown (host := "") (Or.inl (hw _ (List.mem_of_getElem? (i := 10) rfl))) Via.refl e0 F_tz_offsetLength (g := (mkF m 1 #[.val (.ref tz)] [(.ref tz)])) rfl rfl (hb hby d2_1)
  obtain ⟨fs, hr, hrun, hended, hW, hsame⟩ := X3.leave (v := some (.int tz_offsetLength)) (fun h => by rw [Bd.returns] at h; cases h)
  refine ⟨_, _, pre0 _ ?_, hrun, hended, _, _, rfl, ?_, ⟨_, rfl⟩, hW, hsame.mono (by decide) (by decide)⟩
  · show Steps p.tables e below (s₁.setTop (mkF m 0 #[.val (.ref tz)] [])) _
    refine XS.aloadN X0.here hx rfl (hb hby d2_0) rfl rfl ?_
    show Steps p.tables e below (s₁.setTop (mkF m 1 #[.val (.ref tz)] [(.ref tz)])) _
    refine st3 _ ?_
    show Steps p.tables e below (T3.setTop (mkF m 4 #[.val (.ref tz)] [(.int tz_offsetLength)])) _
    exact retI X3 hx Bd.returns (hb hby d2_4) hr
  · show Q2 Z tz tz_offsetLength h0 n0 _ T3.heap _
    rw [e3]
    exact ⟨rfl, N0, rfl⟩
theorem d3_0 : decode prog_41_method_7_code 0 = .ok (.aload_n 0, 1) := by decide +kernel
theorem d3_1 : decode prog_41_method_7_code 1 = .ok (.getfield 43, 3) := by decide +kernel
theorem d3_4 : decode prog_41_method_7_code 4 = .ok (.lreturn, 1) := by decide +kernel
theorem ef3 (m : MethodId) (tz : Addr) : entryFrame m #[(.ref tz)] 1 = mkF m 0 #[.val (.ref tz)] [] := by first | (simp [entryFrame, mkF, argsToLocals, Value.category]; done) | rfl
def Q3 (Z : State) (tz : Addr) (tz_largestVariable : Int64) (h0 : Heap) (n0 : Nat) (v : Option Value) (h : Heap) (L : List Loc) : Prop := v = some (.long tz_largestVariable) ∧ Fr n0 L ∧ h = h0
set_option maxRecDepth 65536 in
set_option maxHeartbeats 40000000 in
theorem rm3 (l : Launch) (Z : State) (a0 : Array Value) (hw : ∀ d ∈ tables_1, d.before a0 Z = true) (ws : List Jvm.Cond) (tz : Addr) (tz_largestVariable : Int64) (h0 : Heap) (n0 : Nat) (Z0 : n0 ≤ h0.size) (O0 : Old Z n0 h0) (F_tz_largestVariable : Fld Z h0 tz "com/example/tidecell/tidecell/netcdf/NetcdfFormat" "largestVariable" "J" (.long tz_largestVariable)) :
    MetFree l (⟨"com/example/tidecell/tidecell/netcdf/NetcdfFormat", "largestVariable", "()J"⟩ : MethodName) (head1 (Jvm.Cond.code (⟨"com/example/tidecell/tidecell/netcdf/NetcdfFormat", "largestVariable", "()J"⟩ : MethodName) prog_41_method_7_code 1 (some .long) :: ws) ({ frames := 0, cells := 0, slots := 0, locals := 0 } : Room)) (fun a U => a = #[(.ref tz)] ∧ Z.Warmed39 U.vm ∧ U.heap = h0) (fun _ _ _ _ _ => True) (fun _ U o U' => ∃ v L, o = .returned v ∧ Q3 Z tz tz_largestVariable h0 n0 v U'.heap L ∧ FrameEnd U o U' L ({ frames := 0, cells := 0, slots := 0, locals := 0 } : Room).cells ({ frames := 0, cells := 0, slots := 0, locals := 0 } : Room).slots) := by
  refine MetFree.of_bodySF (plainFor_of_name pn_com_example_tidecell_tidecell_netcdf_NetcdfFormat) hisR ?_
  intro p e s m args below meth c s₁ Bd hml0 hP hK
  obtain ⟨rfl, hZ, hh⟩ := hP
  have hx := Bd.exec
  have hby := Bd.bytes
  have hml : c.maxLocals = 1 := hml0
  have hown : s.vm.findClass "com/example/tidecell/tidecell/netcdf/NetcdfFormat" = some m.cls := findClass_of_methodNamed Bd.named
  have hnm := (name_of_methodNamed Bd.named Bd.method).1
  have X0 : Stand p l e ({ frames := 0, cells := 0, slots := 0, locals := 0 } : Room) s m #[(.ref tz)] below meth c s₁ [] 0 0 := Stand.of_body Bd
  have e0 : s₁.heap = h0 := by rw [← hh, Bd.state]; rfl
  have N0 := Fr.nil n0
  have K0 : Keep h0 h0 [] := Keep.refl _ _
  have pre0 : ∀ t, Steps p.tables e below (s₁.setTop (mkF m 0 #[.val (.ref tz)] [])) t → Steps p.tables e below (s₁.setTop (entryFrame m #[(.ref tz)] 1)) t := fun t k => castTop (ef3 m tz) k
  obtain ⟨T4, X4, e4, st4⟩ := getF X0 hx hZ hown (host := "") (Or.inl (hw _ (List.mem_of_getElem? (i := 23) rfl))) Via.refl e0 F_tz_largestVariable (g := (mkF m 1 #[.val (.ref tz)] [(.ref tz)])) rfl rfl (hb hby d3_1)
  obtain ⟨fs, hr, hrun, hended, hW, hsame⟩ := X4.leave (v := some (.long tz_largestVariable)) (fun h => by rw [Bd.returns] at h; cases h)
  refine ⟨_, _, pre0 _ ?_, hrun, hended, _, _, rfl, ?_, ⟨_, rfl⟩, hW, hsame.mono (by decide) (by decide)⟩
  · show Steps p.tables e below (s₁.setTop (mkF m 0 #[.val (.ref tz)] [])) _
    refine XS.aloadN X0.here hx rfl (hb hby d3_0) rfl rfl ?_
    show Steps p.tables e below (s₁.setTop (mkF m 1 #[.val (.ref tz)] [(.ref tz)])) _
    refine st4 _ ?_
    show Steps p.tables e below (T4.setTop (mkF m 4 #[.val (.ref tz)] [(.long tz_largestVariable)])) _
    jvm_step X4.here [X4.here.top, hx, (hb hby d3_4), X4.method', Bd.returns, narrow]
    first | (intro acts; rw [hr _ acts rfl rfl rfl]) | rw [hr _ _ rfl rfl rfl]
    exact Steps.refl _
  · show Q3 Z tz tz_largestVariable h0 n0 _ T4.heap _
    rw [e4]
    exact ⟨rfl, N0, rfl⟩
theorem pd_0 : parseMethodDescriptor "()J" = some ⟨[], some .long⟩ := by decide +kernel
theorem pd_1 : parseMethodDescriptor "()I" = some ⟨[], some .int⟩ := by decide +kernel
theorem pn_com_example_tidecell_tidecell_netcdf_NetcdfFormatLargestOffsetPinLaw : plainName "com/example/tidecell/tidecell/netcdf/NetcdfFormatLargestOffsetPinLaw" = true := by first | (simp [plainName, overriddenIn]; done) | decide +kernel
theorem ef0 (m : MethodId) (x1 : Int32) : entryFrame m #[(.int x1)] maxLocals = mkF m 0 #[.val (.int x1), .unset, .unset, .unset, .unset, .unset, .unset, .unset, .unset, .unset] [] := by first | (simp [entryFrame, mkF, argsToLocals, Value.category, maxLocals]; done) | rfl
def Q0 (Z : State) (x1 : Int32) (st_CLASSIC : Addr) (st_OFFSET_64BIT : Addr) (st_DATA_64BIT : Addr) (h0 : Heap) (n0 : Nat) (v : Option Value) (h : Heap) (L : List Loc) : Prop := v = some (.int (1 : Int32)) ∧ Fr n0 L ∧ h = h0
set_option maxRecDepth 65536 in
set_option maxHeartbeats 40000000 in
theorem rm0 (l : Launch) (Z : State) (a0 : Array Value) (hw : ∀ d ∈ tables_1, d.before a0 Z = true) (ws : List Jvm.Cond) (x1 : Int32) (st_CLASSIC : Addr) (st_OFFSET_64BIT : Addr) (st_DATA_64BIT : Addr) (h0 : Heap) (n0 : Nat) (Z0 : n0 ≤ h0.size) (O0 : Old Z n0 h0) (S_CLASSIC : Sta Z Z.heap "com/example/tidecell/tidecell/netcdf/NetcdfFormat" "CLASSIC" "Lcom/example/tidecell/tidecell/netcdf/NetcdfFormat;" (.ref st_CLASSIC)) (EZ_st_CLASSIC : Exa Z Z.heap st_CLASSIC "com/example/tidecell/tidecell/netcdf/NetcdfFormat") (FZ_st_CLASSIC_offsetLength : Fld Z Z.heap st_CLASSIC "com/example/tidecell/tidecell/netcdf/NetcdfFormat" "offsetLength" "I" (.int (4 : Int32))) (FZ_st_CLASSIC_largestVariable : Fld Z Z.heap st_CLASSIC "com/example/tidecell/tidecell/netcdf/NetcdfFormat" "largestVariable" "J" (.long (2147483644 : Int64))) (S_OFFSET_64BIT : Sta Z Z.heap "com/example/tidecell/tidecell/netcdf/NetcdfFormat" "OFFSET_64BIT" "Lcom/example/tidecell/tidecell/netcdf/NetcdfFormat;" (.ref st_OFFSET_64BIT)) (EZ_st_OFFSET_64BIT : Exa Z Z.heap st_OFFSET_64BIT "com/example/tidecell/tidecell/netcdf/NetcdfFormat") (FZ_st_OFFSET_64BIT_offsetLength : Fld Z Z.heap st_OFFSET_64BIT "com/example/tidecell/tidecell/netcdf/NetcdfFormat" "offsetLength" "I" (.int (8 : Int32))) (FZ_st_OFFSET_64BIT_largestVariable : Fld Z Z.heap st_OFFSET_64BIT "com/example/tidecell/tidecell/netcdf/NetcdfFormat" "largestVariable" "J" (.long (4294967292 : Int64))) (S_DATA_64BIT : Sta Z Z.heap "com/example/tidecell/tidecell/netcdf/NetcdfFormat" "DATA_64BIT" "Lcom/example/tidecell/tidecell/netcdf/NetcdfFormat;" (.ref st_DATA_64BIT)) (EZ_st_DATA_64BIT : Exa Z Z.heap st_DATA_64BIT "com/example/tidecell/tidecell/netcdf/NetcdfFormat") (FZ_st_DATA_64BIT_offsetLength : Fld Z Z.heap st_DATA_64BIT "com/example/tidecell/tidecell/netcdf/NetcdfFormat" "offsetLength" "I" (.int (8 : Int32))) (FZ_st_DATA_64BIT_largestVariable : Fld Z Z.heap st_DATA_64BIT "com/example/tidecell/tidecell/netcdf/NetcdfFormat" "largestVariable" "J" (.long (9223372036854775804 : Int64))) :
    MetFree l x (head1 (Jvm.Cond.code x code maxLocals ret :: ws) room_1) (fun a U => a = #[(.int x1)] ∧ Z.Warmed39 U.vm ∧ U.heap = h0) (fun _ _ _ _ _ => True) (fun _ U o U' => ∃ v L, o = .returned v ∧ Q0 Z x1 st_CLASSIC st_OFFSET_64BIT st_DATA_64BIT h0 n0 v U'.heap L ∧ FrameEnd U o U' L room_1.cells room_1.slots) := by
  refine MetFree.of_bodySF (plainFor_of_name pn_com_example_tidecell_tidecell_netcdf_NetcdfFormatLargestOffsetPinLaw) hisR ?_
  intro p e s m args below meth c s₁ Bd hml0 hP hK
  obtain ⟨rfl, hZ, hh⟩ := hP
  have hx := Bd.exec
  have hby := Bd.bytes
  have hml : c.maxLocals = 10 := hml0
  have hown : s.vm.findClass "com/example/tidecell/tidecell/netcdf/NetcdfFormatLargestOffsetPinLaw" = some m.cls := findClass_of_methodNamed Bd.named
  have hnm := (name_of_methodNamed Bd.named Bd.method).1
  have X0 : Stand p l e room_1 s m #[(.int x1)] below meth c s₁ [] 0 0 := Stand.of_body Bd
  have e0 : s₁.heap = h0 := by rw [← hh, Bd.state]; rfl
  have N0 := Fr.nil n0
  have K0 : Keep h0 h0 [] := Keep.refl _ _
  have pre0 : ∀ t, Steps p.tables e below (s₁.setTop (mkF m 0 #[.val (.int x1), .unset, .unset, .unset, .unset, .unset, .unset, .unset, .unset, .unset] [])) t → Steps p.tables e below (s₁.setTop (entryFrame m #[(.int x1)] maxLocals)) t := fun t k => castTop (ef0 m x1) k
  have C5 : Exa Z h0 st_CLASSIC "com/example/tidecell/tidecell/netcdf/NetcdfFormat" := EZ_st_CLASSIC.ext O0.2
  have F6 : Fld Z h0 st_CLASSIC "com/example/tidecell/tidecell/netcdf/NetcdfFormat" "offsetLength" "I" (.int (4 : Int32)) := FZ_st_CLASSIC_offsetLength.ext O0.2
  have F7 : Fld Z h0 st_CLASSIC "com/example/tidecell/tidecell/netcdf/NetcdfFormat" "largestVariable" "J" (.long (2147483644 : Int64)) := FZ_st_CLASSIC_largestVariable.ext O0.2
  have C8 : Exa Z h0 st_OFFSET_64BIT "com/example/tidecell/tidecell/netcdf/NetcdfFormat" := EZ_st_OFFSET_64BIT.ext O0.2
  have F9 : Fld Z h0 st_OFFSET_64BIT "com/example/tidecell/tidecell/netcdf/NetcdfFormat" "offsetLength" "I" (.int (8 : Int32)) := FZ_st_OFFSET_64BIT_offsetLength.ext O0.2
  have F10 : Fld Z h0 st_OFFSET_64BIT "com/example/tidecell/tidecell/netcdf/NetcdfFormat" "largestVariable" "J" (.long (4294967292 : Int64)) := FZ_st_OFFSET_64BIT_largestVariable.ext O0.2
  have C11 : Exa Z h0 st_DATA_64BIT "com/example/tidecell/tidecell/netcdf/NetcdfFormat" := EZ_st_DATA_64BIT.ext O0.2
  have F12 : Fld Z h0 st_DATA_64BIT "com/example/tidecell/tidecell/netcdf/NetcdfFormat" "offsetLength" "I" (.int (8 : Int32)) := FZ_st_DATA_64BIT_offsetLength.ext O0.2
  have F13 : Fld Z h0 st_DATA_64BIT "com/example/tidecell/tidecell/netcdf/NetcdfFormat" "largestVariable" "J" (.long (9223372036854775804 : Int64)) := FZ_st_DATA_64BIT_largestVariable.ext O0.2
  have pre14 : ∀ t, Steps p.tables e below (s₁.setTop (mkF m 8 #[.val (.int x1), .val (.int ((x1 &&& (2147483647 : Int32)) % (3 : Int32))), .unset, .unset, .unset, .unset, .unset, .unset, .unset, .unset] [(.int ((x1 &&& (2147483647 : Int32)) % (3 : Int32)))])) t → Steps p.tables e below (s₁.setTop (entryFrame m #[(.int x1)] maxLocals)) t := by
    intro t kt
    refine pre0 t ?_
    show Steps p.tables e below (s₁.setTop (mkF m 0 #[.val (.int x1), .unset, .unset, .unset, .unset, .unset, .unset, .unset, .unset, .unset] [])) _
    refine XS.iloadN X0.here hx rfl (hb hby at_0) rfl ?_
    show Steps p.tables e below (s₁.setTop (mkF m 1 #[.val (.int x1), .unset, .unset, .unset, .unset, .unset, .unset, .unset, .unset, .unset] [(.int x1)])) _
    refine X0.ldcInt hx hown (mvT hZ (hw _ (List.mem_of_getElem? (i := 0) rfl))) (g := (mkF m 1 #[.val (.int x1), .unset, .unset, .unset, .unset, .unset, .unset, .unset, .unset, .unset] [(.int x1)])) rfl (hb hby at_1) _ ?_
    show Steps p.tables e below (s₁.setTop (mkF m 3 #[.val (.int x1), .unset, .unset, .unset, .unset, .unset, .unset, .unset, .unset, .unset] [(.int (2147483647 : Int32)), (.int x1)])) _
    refine XS.iand X0.here hx rfl (hb hby at_3) rfl ?_
    show Steps p.tables e below (s₁.setTop (mkF m 4 #[.val (.int x1), .unset, .unset, .unset, .unset, .unset, .unset, .unset, .unset, .unset] [(.int (x1 &&& (2147483647 : Int32)))])) _
    refine XS.iconst X0.here hx rfl (hb hby at_4) ?_
    show Steps p.tables e below (s₁.setTop (mkF m 5 #[.val (.int x1), .unset, .unset, .unset, .unset, .unset, .unset, .unset, .unset, .unset] [(.int (3 : Int32)), (.int (x1 &&& (2147483647 : Int32)))])) _
    refine iremM X0 hx rfl (hb hby at_5) rfl (by decide) ?_
    show Steps p.tables e below (s₁.setTop (mkF m 6 #[.val (.int x1), .unset, .unset, .unset, .unset, .unset, .unset, .unset, .unset, .unset] [(.int ((x1 &&& (2147483647 : Int32)) % (3 : Int32)))])) _
    refine XS.istoreN X0.here hx rfl (hb hby at_6) rfl (l' := #[.val (.int x1), .val (.int ((x1 &&& (2147483647 : Int32)) % (3 : Int32))), .unset, .unset, .unset, .unset, .unset, .unset, .unset, .unset]) rfl ?_
    show Steps p.tables e below (s₁.setTop (mkF m 7 #[.val (.int x1), .val (.int ((x1 &&& (2147483647 : Int32)) % (3 : Int32))), .unset, .unset, .unset, .unset, .unset, .unset, .unset, .unset] [])) _
    refine XS.iloadN X0.here hx rfl (hb hby at_7) rfl ?_
    exact kt
  by_cases hc8 : ((x1 &&& (2147483647 : Int32)) % (3 : Int32)) = (0 : Int32)
  · skip
    obtain ⟨T15, X15, e15, st15⟩ := getS2 X0 hx hZ hown (host := "") (Or.inl (hw _ (List.mem_of_getElem? (i := 1) rfl))) Via.refl e0 (S_CLASSIC.ext O0.2) (g := (mkF m 11 #[.val (.int x1), .val (.int ((x1 &&& (2147483647 : Int32)) % (3 : Int32))), .unset, .unset, .unset, .unset, .unset, .unset, .unset, .unset] [])) rfl (hb hby at_11)
    obtain ⟨cq16, kq16, q16a, q16b, q16c⟩ := isOf hZ e15 C5
    obtain ⟨_, _, ⟨T16, L16, k16, n16⟩, -, X16, ⟨Lc16, hQ16, l16, y16, z16⟩, st16⟩ := X15.virtualBack hx (y := (⟨"com/example/tidecell/tidecell/netcdf/NetcdfFormat", "largestOffset", "()J"⟩ : MethodName)) (z := (⟨"com/example/tidecell/tidecell/netcdf/NetcdfFormat", "largestOffset", "()J"⟩ : MethodName)) hown (mvT hZ (hw _ (List.mem_of_getElem? (i := 5) rfl))) (mvT hZ (hw _ (List.mem_of_getElem? (i := 6) rfl))) (notFace_of_selects (args := #[]) (mvT hZ (hw _ (List.mem_of_getElem? (i := 8) rfl)))) (mvT hZ (hw _ (List.mem_of_getElem? (i := 8) rfl))) (mvT hZ (hw _ (List.mem_of_getElem? (i := 7) rfl))) (by decide) (backOf (W := 0) (rm1 l Z a0 hw [] st_CLASSIC (4 : Int32) h0 n0 Z0 O0 F6) hZ (hw _ (List.mem_of_getElem? (i := 9) rfl)) (hw _ (List.mem_of_getElem? (i := 2) rfl)) (by decide) (by decide)) q16a q16c (g := (mkF m 47 #[.val (.int x1), .val (.int ((x1 &&& (2147483647 : Int32)) % (3 : Int32))), .val (.ref st_CLASSIC), .val (.long (2147483647 : Int64)), .second, .unset, .unset, .unset, .unset, .unset] [(.ref st_CLASSIC)])) rfl (by rw [hml]; rfl) (Steps.refl _) (argsL := []) (rest := []) (lenOf pd_0 rfl) rfl (by show 2 * 0 + _ ≤ _; exact Nat.le_of_eq rfl) (hb hby at_47) (fun _ _ => ⟨rfl, e15, (by decide : 0 + 0 ≤ _), (by decide : 0 + 0 ≤ _)⟩)
    dsimp only [Pt.U, Pt.locs, Pt.cells, Pt.slots] at X16 l16 y16 z16 st16 hQ16
    subst l16 y16 z16
    obtain ⟨rfl, N16q, eh16⟩ := hQ16
    have N16 := Fr.app N0 N16q
    obtain ⟨cq17, kq17, q17a, q17b, q17c⟩ := isOf hZ eh16 C5
    obtain ⟨_, _, ⟨T17, L17, k17, n17⟩, -, X17, ⟨Lc17, hQ17, l17, y17, z17⟩, st17⟩ := X16.virtualBack hx (y := (⟨"com/example/tidecell/tidecell/netcdf/NetcdfFormat", "offsetLength", "()I"⟩ : MethodName)) (z := (⟨"com/example/tidecell/tidecell/netcdf/NetcdfFormat", "offsetLength", "()I"⟩ : MethodName)) hown (mvT hZ (hw _ (List.mem_of_getElem? (i := 13) rfl))) (mvT hZ (hw _ (List.mem_of_getElem? (i := 14) rfl))) (notFace_of_selects (args := #[]) (mvT hZ (hw _ (List.mem_of_getElem? (i := 16) rfl)))) (mvT hZ (hw _ (List.mem_of_getElem? (i := 16) rfl))) (mvT hZ (hw _ (List.mem_of_getElem? (i := 15) rfl))) (by decide) (backOf (W := 0) (rm2 l Z a0 hw [] st_CLASSIC (4 : Int32) h0 n0 Z0 O0 F6) hZ (hw _ (List.mem_of_getElem? (i := 17) rfl)) (hw _ (List.mem_of_getElem? (i := 2) rfl)) (by decide) (by decide)) q17a q17c (g := (mkF m 53 #[.val (.int x1), .val (.int ((x1 &&& (2147483647 : Int32)) % (3 : Int32))), .val (.ref st_CLASSIC), .val (.long (2147483647 : Int64)), .second, .val (.long (own_lo (4 : Int32))), .second, .unset, .unset, .unset] [(.ref st_CLASSIC)])) rfl (by rw [hml]; rfl) (Steps.refl _) (argsL := []) (rest := []) (lenOf pd_1 rfl) rfl (by show 2 * 0 + _ ≤ _; exact Nat.le_of_eq rfl) (hb hby at_53) (fun _ _ => ⟨rfl, eh16, (by decide : 0 + 0 ≤ _), (by decide : 0 + 0 ≤ _)⟩)
    dsimp only [Pt.U, Pt.locs, Pt.cells, Pt.slots] at X17 l17 y17 z17 st17 hQ17
    subst l17 y17 z17
    obtain ⟨rfl, N17q, eh17⟩ := hQ17
    have N17 := Fr.app N16 N17q
    obtain ⟨cq18, kq18, q18a, q18b, q18c⟩ := isOf hZ eh17 C5
    obtain ⟨_, _, ⟨T18, L18, k18, n18⟩, -, X18, ⟨Lc18, hQ18, l18, y18, z18⟩, st18⟩ := X17.virtualBack hx (y := (⟨"com/example/tidecell/tidecell/netcdf/NetcdfFormat", "largestVariable", "()J"⟩ : MethodName)) (z := (⟨"com/example/tidecell/tidecell/netcdf/NetcdfFormat", "largestVariable", "()J"⟩ : MethodName)) hown (mvT hZ (hw _ (List.mem_of_getElem? (i := 18) rfl))) (mvT hZ (hw _ (List.mem_of_getElem? (i := 19) rfl))) (notFace_of_selects (args := #[]) (mvT hZ (hw _ (List.mem_of_getElem? (i := 21) rfl)))) (mvT hZ (hw _ (List.mem_of_getElem? (i := 21) rfl))) (mvT hZ (hw _ (List.mem_of_getElem? (i := 20) rfl))) (by decide) (backOf (W := 2) (rm3 l Z a0 hw [] st_CLASSIC (2147483644 : Int64) h0 n0 Z0 O0 F7) hZ (hw _ (List.mem_of_getElem? (i := 22) rfl)) (hw _ (List.mem_of_getElem? (i := 2) rfl)) (by decide) (by decide)) q18a q18c (g := (mkF m 89 #[.val (.int x1), .val (.int ((x1 &&& (2147483647 : Int32)) % (3 : Int32))), .val (.ref st_CLASSIC), .val (.long (2147483647 : Int64)), .second, .val (.long (own_lo (4 : Int32))), .second, .val (.int (4 : Int32)), .val (.long (((1 : Int64) <<< ((((8 : Int32) * (4 : Int32)) - (1 : Int32)) &&& 0x3f).toInt64) - (1 : Int64))), .second] [(.ref st_CLASSIC), (.long (own_lo (4 : Int32)))])) rfl (by rw [hml]; rfl) (Steps.refl _) (argsL := []) (rest := [(.long (own_lo (4 : Int32)))]) (lenOf pd_0 rfl) rfl (by show 2 * 0 + _ ≤ _; exact Nat.le_of_eq rfl) (hb hby at_89) (fun _ _ => ⟨rfl, eh17, (by decide : 0 + 0 ≤ _), (by decide : 0 + 0 ≤ _)⟩)
    dsimp only [Pt.U, Pt.locs, Pt.cells, Pt.slots] at X18 l18 y18 z18 st18 hQ18
    subst l18 y18 z18
    obtain ⟨rfl, N18q, eh18⟩ := hQ18
    have N18 := Fr.app N17 N18q
    obtain ⟨fs, hr, hrun, hended, hW, hsame⟩ := X18.leave (v := some (.int (1 : Int32))) (fun h => by rw [Bd.returns] at h; cases h)
    refine ⟨_, _, pre14 _ ?_, hrun, hended, _, _, rfl, ?_, ⟨_, rfl⟩, hW, hsame.mono (by decide) (by decide)⟩
    · show Steps p.tables e below (s₁.setTop (mkF m 8 #[.val (.int x1), .val (.int ((x1 &&& (2147483647 : Int32)) % (3 : Int32))), .unset, .unset, .unset, .unset, .unset, .unset, .unset, .unset] [(.int ((x1 &&& (2147483647 : Int32)) % (3 : Int32)))])) _
      refine XS.ifNo X0.here hx rfl (hb hby at_8) rfl ((if0 _ _).trans (teq hc8).2) ?_
      show Steps p.tables e below (s₁.setTop (mkF m 11 #[.val (.int x1), .val (.int ((x1 &&& (2147483647 : Int32)) % (3 : Int32))), .unset, .unset, .unset, .unset, .unset, .unset, .unset, .unset] [])) _
      refine st15 _ ?_
      show Steps p.tables e below (T15.setTop (mkF m 14 #[.val (.int x1), .val (.int ((x1 &&& (2147483647 : Int32)) % (3 : Int32))), .unset, .unset, .unset, .unset, .unset, .unset, .unset, .unset] [(.ref st_CLASSIC)])) _
      refine XS.goto X15.here hx rfl (pc0 := 14) (pc' := 31) rfl (hb hby at_14) (by decide) (by decide) ?_
      show Steps p.tables e below (T15.setTop (mkF m 31 #[.val (.int x1), .val (.int ((x1 &&& (2147483647 : Int32)) % (3 : Int32))), .unset, .unset, .unset, .unset, .unset, .unset, .unset, .unset] [(.ref st_CLASSIC)])) _
      refine XS.astoreN X15.here hx rfl (hb hby at_31) rfl rfl (l' := #[.val (.int x1), .val (.int ((x1 &&& (2147483647 : Int32)) % (3 : Int32))), .val (.ref st_CLASSIC), .unset, .unset, .unset, .unset, .unset, .unset, .unset]) rfl ?_
      show Steps p.tables e below (T15.setTop (mkF m 32 #[.val (.int x1), .val (.int ((x1 &&& (2147483647 : Int32)) % (3 : Int32))), .val (.ref st_CLASSIC), .unset, .unset, .unset, .unset, .unset, .unset, .unset] [])) _
      refine XS.iloadN X15.here hx rfl (hb hby at_32) rfl ?_
      show Steps p.tables e below (T15.setTop (mkF m 33 #[.val (.int x1), .val (.int ((x1 &&& (2147483647 : Int32)) % (3 : Int32))), .val (.ref st_CLASSIC), .unset, .unset, .unset, .unset, .unset, .unset, .unset] [(.int ((x1 &&& (2147483647 : Int32)) % (3 : Int32)))])) _
      refine XS.ifNo X15.here hx rfl (hb hby at_33) rfl ((if0 _ _).trans (teq hc8).2) ?_
      show Steps p.tables e below (T15.setTop (mkF m 36 #[.val (.int x1), .val (.int ((x1 &&& (2147483647 : Int32)) % (3 : Int32))), .val (.ref st_CLASSIC), .unset, .unset, .unset, .unset, .unset, .unset, .unset] [])) _
      refine X15.ldc2Long hx hown (mvT hZ (hw _ (List.mem_of_getElem? (i := 4) rfl))) (g := (mkF m 36 #[.val (.int x1), .val (.int ((x1 &&& (2147483647 : Int32)) % (3 : Int32))), .val (.ref st_CLASSIC), .unset, .unset, .unset, .unset, .unset, .unset, .unset] [])) rfl (hb hby at_36) _ ?_
      show Steps p.tables e below (T15.setTop (mkF m 39 #[.val (.int x1), .val (.int ((x1 &&& (2147483647 : Int32)) % (3 : Int32))), .val (.ref st_CLASSIC), .unset, .unset, .unset, .unset, .unset, .unset, .unset] [(.long (2147483647 : Int64))])) _
      refine XS.goto X15.here hx rfl (pc0 := 39) (pc' := 45) rfl (hb hby at_39) (by decide) (by decide) ?_
      show Steps p.tables e below (T15.setTop (mkF m 45 #[.val (.int x1), .val (.int ((x1 &&& (2147483647 : Int32)) % (3 : Int32))), .val (.ref st_CLASSIC), .unset, .unset, .unset, .unset, .unset, .unset, .unset] [(.long (2147483647 : Int64))])) _
      refine XS.lstoreN X15.here hx rfl (hb hby at_45) rfl (l' := #[.val (.int x1), .val (.int ((x1 &&& (2147483647 : Int32)) % (3 : Int32))), .val (.ref st_CLASSIC), .val (.long (2147483647 : Int64)), .second, .unset, .unset, .unset, .unset, .unset]) rfl ?_
      show Steps p.tables e below (T15.setTop (mkF m 46 #[.val (.int x1), .val (.int ((x1 &&& (2147483647 : Int32)) % (3 : Int32))), .val (.ref st_CLASSIC), .val (.long (2147483647 : Int64)), .second, .unset, .unset, .unset, .unset, .unset] [])) _
      refine XS.aloadN X15.here hx rfl (hb hby at_46) rfl rfl ?_
      show Steps p.tables e below (T15.setTop (mkF m 47 #[.val (.int x1), .val (.int ((x1 &&& (2147483647 : Int32)) % (3 : Int32))), .val (.ref st_CLASSIC), .val (.long (2147483647 : Int64)), .second, .unset, .unset, .unset, .unset, .unset] [(.ref st_CLASSIC)])) _
      refine st16.trans ?_
      show Steps p.tables e below (T16.setTop (mkF m 50 #[.val (.int x1), .val (.int ((x1 &&& (2147483647 : Int32)) % (3 : Int32))), .val (.ref st_CLASSIC), .val (.long (2147483647 : Int64)), .second, .unset, .unset, .unset, .unset, .unset] [(.long (own_lo (4 : Int32)))])) _
      refine XS.lstore X16.here hx rfl (hb hby at_50) rfl (l' := #[.val (.int x1), .val (.int ((x1 &&& (2147483647 : Int32)) % (3 : Int32))), .val (.ref st_CLASSIC), .val (.long (2147483647 : Int64)), .second, .val (.long (own_lo (4 : Int32))), .second, .unset, .unset, .unset]) rfl ?_
      show Steps p.tables e below (T16.setTop (mkF m 52 #[.val (.int x1), .val (.int ((x1 &&& (2147483647 : Int32)) % (3 : Int32))), .val (.ref st_CLASSIC), .val (.long (2147483647 : Int64)), .second, .val (.long (own_lo (4 : Int32))), .second, .unset, .unset, .unset] [])) _
      refine XS.aloadN X16.here hx rfl (hb hby at_52) rfl rfl ?_
      show Steps p.tables e below (T16.setTop (mkF m 53 #[.val (.int x1), .val (.int ((x1 &&& (2147483647 : Int32)) % (3 : Int32))), .val (.ref st_CLASSIC), .val (.long (2147483647 : Int64)), .second, .val (.long (own_lo (4 : Int32))), .second, .unset, .unset, .unset] [(.ref st_CLASSIC)])) _
      refine st17.trans ?_
      show Steps p.tables e below (T17.setTop (mkF m 56 #[.val (.int x1), .val (.int ((x1 &&& (2147483647 : Int32)) % (3 : Int32))), .val (.ref st_CLASSIC), .val (.long (2147483647 : Int64)), .second, .val (.long (own_lo (4 : Int32))), .second, .unset, .unset, .unset] [(.int (4 : Int32))])) _
      refine XS.istore X17.here hx rfl (hb hby at_56) rfl (l' := #[.val (.int x1), .val (.int ((x1 &&& (2147483647 : Int32)) % (3 : Int32))), .val (.ref st_CLASSIC), .val (.long (2147483647 : Int64)), .second, .val (.long (own_lo (4 : Int32))), .second, .val (.int (4 : Int32)), .unset, .unset]) rfl ?_
      show Steps p.tables e below (T17.setTop (mkF m 58 #[.val (.int x1), .val (.int ((x1 &&& (2147483647 : Int32)) % (3 : Int32))), .val (.ref st_CLASSIC), .val (.long (2147483647 : Int64)), .second, .val (.long (own_lo (4 : Int32))), .second, .val (.int (4 : Int32)), .unset, .unset] [])) _
      refine XS.lconst X17.here hx rfl (hb hby at_58) ?_
      show Steps p.tables e below (T17.setTop (mkF m 59 #[.val (.int x1), .val (.int ((x1 &&& (2147483647 : Int32)) % (3 : Int32))), .val (.ref st_CLASSIC), .val (.long (2147483647 : Int64)), .second, .val (.long (own_lo (4 : Int32))), .second, .val (.int (4 : Int32)), .unset, .unset] [(.long (1 : Int64))])) _
      refine XS.bipush X17.here hx rfl (hb hby at_59) ?_
      show Steps p.tables e below (T17.setTop (mkF m 61 #[.val (.int x1), .val (.int ((x1 &&& (2147483647 : Int32)) % (3 : Int32))), .val (.ref st_CLASSIC), .val (.long (2147483647 : Int64)), .second, .val (.long (own_lo (4 : Int32))), .second, .val (.int (4 : Int32)), .unset, .unset] [(.int (8 : Int32)), (.long (1 : Int64))])) _
      refine XS.iload X17.here hx rfl (hb hby at_61) rfl ?_
      show Steps p.tables e below (T17.setTop (mkF m 63 #[.val (.int x1), .val (.int ((x1 &&& (2147483647 : Int32)) % (3 : Int32))), .val (.ref st_CLASSIC), .val (.long (2147483647 : Int64)), .second, .val (.long (own_lo (4 : Int32))), .second, .val (.int (4 : Int32)), .unset, .unset] [(.int (4 : Int32)), (.int (8 : Int32)), (.long (1 : Int64))])) _
      refine XS.imul X17.here hx rfl (hb hby at_63) rfl ?_
      show Steps p.tables e below (T17.setTop (mkF m 64 #[.val (.int x1), .val (.int ((x1 &&& (2147483647 : Int32)) % (3 : Int32))), .val (.ref st_CLASSIC), .val (.long (2147483647 : Int64)), .second, .val (.long (own_lo (4 : Int32))), .second, .val (.int (4 : Int32)), .unset, .unset] [(.int ((8 : Int32) * (4 : Int32))), (.long (1 : Int64))])) _
      refine XS.iconst X17.here hx rfl (hb hby at_64) ?_
      show Steps p.tables e below (T17.setTop (mkF m 65 #[.val (.int x1), .val (.int ((x1 &&& (2147483647 : Int32)) % (3 : Int32))), .val (.ref st_CLASSIC), .val (.long (2147483647 : Int64)), .second, .val (.long (own_lo (4 : Int32))), .second, .val (.int (4 : Int32)), .unset, .unset] [(.int (1 : Int32)), (.int ((8 : Int32) * (4 : Int32))), (.long (1 : Int64))])) _
      refine XS.isub X17.here hx rfl (hb hby at_65) rfl ?_
      show Steps p.tables e below (T17.setTop (mkF m 66 #[.val (.int x1), .val (.int ((x1 &&& (2147483647 : Int32)) % (3 : Int32))), .val (.ref st_CLASSIC), .val (.long (2147483647 : Int64)), .second, .val (.long (own_lo (4 : Int32))), .second, .val (.int (4 : Int32)), .unset, .unset] [(.int (((8 : Int32) * (4 : Int32)) - (1 : Int32))), (.long (1 : Int64))])) _
      refine XS.lshl X17.here hx rfl (hb hby at_66) rfl ?_
      show Steps p.tables e below (T17.setTop (mkF m 67 #[.val (.int x1), .val (.int ((x1 &&& (2147483647 : Int32)) % (3 : Int32))), .val (.ref st_CLASSIC), .val (.long (2147483647 : Int64)), .second, .val (.long (own_lo (4 : Int32))), .second, .val (.int (4 : Int32)), .unset, .unset] [(.long ((1 : Int64) <<< ((((8 : Int32) * (4 : Int32)) - (1 : Int32)) &&& 0x3f).toInt64))])) _
      refine XS.lconst X17.here hx rfl (hb hby at_67) ?_
      show Steps p.tables e below (T17.setTop (mkF m 68 #[.val (.int x1), .val (.int ((x1 &&& (2147483647 : Int32)) % (3 : Int32))), .val (.ref st_CLASSIC), .val (.long (2147483647 : Int64)), .second, .val (.long (own_lo (4 : Int32))), .second, .val (.int (4 : Int32)), .unset, .unset] [(.long (1 : Int64)), (.long ((1 : Int64) <<< ((((8 : Int32) * (4 : Int32)) - (1 : Int32)) &&& 0x3f).toInt64))])) _
      refine XS.lsub X17.here hx rfl (hb hby at_68) rfl ?_
      show Steps p.tables e below (T17.setTop (mkF m 69 #[.val (.int x1), .val (.int ((x1 &&& (2147483647 : Int32)) % (3 : Int32))), .val (.ref st_CLASSIC), .val (.long (2147483647 : Int64)), .second, .val (.long (own_lo (4 : Int32))), .second, .val (.int (4 : Int32)), .unset, .unset] [(.long (((1 : Int64) <<< ((((8 : Int32) * (4 : Int32)) - (1 : Int32)) &&& 0x3f).toInt64) - (1 : Int64)))])) _
      refine XS.lstore X17.here hx rfl (hb hby at_69) rfl (l' := #[.val (.int x1), .val (.int ((x1 &&& (2147483647 : Int32)) % (3 : Int32))), .val (.ref st_CLASSIC), .val (.long (2147483647 : Int64)), .second, .val (.long (own_lo (4 : Int32))), .second, .val (.int (4 : Int32)), .val (.long (((1 : Int64) <<< ((((8 : Int32) * (4 : Int32)) - (1 : Int32)) &&& 0x3f).toInt64) - (1 : Int64))), .second]) rfl ?_
      show Steps p.tables e below (T17.setTop (mkF m 71 #[.val (.int x1), .val (.int ((x1 &&& (2147483647 : Int32)) % (3 : Int32))), .val (.ref st_CLASSIC), .val (.long (2147483647 : Int64)), .second, .val (.long (own_lo (4 : Int32))), .second, .val (.int (4 : Int32)), .val (.long (((1 : Int64) <<< ((((8 : Int32) * (4 : Int32)) - (1 : Int32)) &&& 0x3f).toInt64) - (1 : Int64))), .second] [])) _
      refine XS.lload X17.here hx rfl (hb hby at_71) rfl ?_
      show Steps p.tables e below (T17.setTop (mkF m 73 #[.val (.int x1), .val (.int ((x1 &&& (2147483647 : Int32)) % (3 : Int32))), .val (.ref st_CLASSIC), .val (.long (2147483647 : Int64)), .second, .val (.long (own_lo (4 : Int32))), .second, .val (.int (4 : Int32)), .val (.long (((1 : Int64) <<< ((((8 : Int32) * (4 : Int32)) - (1 : Int32)) &&& 0x3f).toInt64) - (1 : Int64))), .second] [(.long (own_lo (4 : Int32)))])) _
      refine XS.lloadN X17.here hx rfl (hb hby at_73) rfl ?_
      show Steps p.tables e below (T17.setTop (mkF m 74 #[.val (.int x1), .val (.int ((x1 &&& (2147483647 : Int32)) % (3 : Int32))), .val (.ref st_CLASSIC), .val (.long (2147483647 : Int64)), .second, .val (.long (own_lo (4 : Int32))), .second, .val (.int (4 : Int32)), .val (.long (((1 : Int64) <<< ((((8 : Int32) * (4 : Int32)) - (1 : Int32)) &&& 0x3f).toInt64) - (1 : Int64))), .second] [(.long (2147483647 : Int64)), (.long (own_lo (4 : Int32)))])) _
      refine XS.lcmp X17.here hx rfl (hb hby at_74) rfl ?_
      show Steps p.tables e below (T17.setTop (mkF m 75 #[.val (.int x1), .val (.int ((x1 &&& (2147483647 : Int32)) % (3 : Int32))), .val (.ref st_CLASSIC), .val (.long (2147483647 : Int64)), .second, .val (.long (own_lo (4 : Int32))), .second, .val (.int (4 : Int32)), .val (.long (((1 : Int64) <<< ((((8 : Int32) * (4 : Int32)) - (1 : Int32)) &&& 0x3f).toInt64) - (1 : Int64))), .second] [(.int (lcmpW (own_lo (4 : Int32)) (2147483647 : Int64)))])) _
      refine XS.ifNo X17.here hx rfl (hb hby at_75) rfl ((if0 _ _).trans (teq (by decide +kernel : (lcmpW (own_lo (4 : Int32)) (2147483647 : Int64)) = (0 : Int32))).2) ?_
      show Steps p.tables e below (T17.setTop (mkF m 78 #[.val (.int x1), .val (.int ((x1 &&& (2147483647 : Int32)) % (3 : Int32))), .val (.ref st_CLASSIC), .val (.long (2147483647 : Int64)), .second, .val (.long (own_lo (4 : Int32))), .second, .val (.int (4 : Int32)), .val (.long (((1 : Int64) <<< ((((8 : Int32) * (4 : Int32)) - (1 : Int32)) &&& 0x3f).toInt64) - (1 : Int64))), .second] [])) _
      refine XS.lload X17.here hx rfl (hb hby at_78) rfl ?_
      show Steps p.tables e below (T17.setTop (mkF m 80 #[.val (.int x1), .val (.int ((x1 &&& (2147483647 : Int32)) % (3 : Int32))), .val (.ref st_CLASSIC), .val (.long (2147483647 : Int64)), .second, .val (.long (own_lo (4 : Int32))), .second, .val (.int (4 : Int32)), .val (.long (((1 : Int64) <<< ((((8 : Int32) * (4 : Int32)) - (1 : Int32)) &&& 0x3f).toInt64) - (1 : Int64))), .second] [(.long (own_lo (4 : Int32)))])) _
      refine XS.lload X17.here hx rfl (hb hby at_80) rfl ?_
      show Steps p.tables e below (T17.setTop (mkF m 82 #[.val (.int x1), .val (.int ((x1 &&& (2147483647 : Int32)) % (3 : Int32))), .val (.ref st_CLASSIC), .val (.long (2147483647 : Int64)), .second, .val (.long (own_lo (4 : Int32))), .second, .val (.int (4 : Int32)), .val (.long (((1 : Int64) <<< ((((8 : Int32) * (4 : Int32)) - (1 : Int32)) &&& 0x3f).toInt64) - (1 : Int64))), .second] [(.long (((1 : Int64) <<< ((((8 : Int32) * (4 : Int32)) - (1 : Int32)) &&& 0x3f).toInt64) - (1 : Int64))), (.long (own_lo (4 : Int32)))])) _
      refine XS.lcmp X17.here hx rfl (hb hby at_82) rfl ?_
      show Steps p.tables e below (T17.setTop (mkF m 83 #[.val (.int x1), .val (.int ((x1 &&& (2147483647 : Int32)) % (3 : Int32))), .val (.ref st_CLASSIC), .val (.long (2147483647 : Int64)), .second, .val (.long (own_lo (4 : Int32))), .second, .val (.int (4 : Int32)), .val (.long (((1 : Int64) <<< ((((8 : Int32) * (4 : Int32)) - (1 : Int32)) &&& 0x3f).toInt64) - (1 : Int64))), .second] [(.int (lcmpW (own_lo (4 : Int32)) (((1 : Int64) <<< ((((8 : Int32) * (4 : Int32)) - (1 : Int32)) &&& 0x3f).toInt64) - (1 : Int64))))])) _
      refine XS.ifNo X17.here hx rfl (hb hby at_83) rfl ((if0 _ _).trans (teq (by decide +kernel : (lcmpW (own_lo (4 : Int32)) (((1 : Int64) <<< ((((8 : Int32) * (4 : Int32)) - (1 : Int32)) &&& 0x3f).toInt64) - (1 : Int64))) = (0 : Int32))).2) ?_
      show Steps p.tables e below (T17.setTop (mkF m 86 #[.val (.int x1), .val (.int ((x1 &&& (2147483647 : Int32)) % (3 : Int32))), .val (.ref st_CLASSIC), .val (.long (2147483647 : Int64)), .second, .val (.long (own_lo (4 : Int32))), .second, .val (.int (4 : Int32)), .val (.long (((1 : Int64) <<< ((((8 : Int32) * (4 : Int32)) - (1 : Int32)) &&& 0x3f).toInt64) - (1 : Int64))), .second] [])) _
      refine XS.lload X17.here hx rfl (hb hby at_86) rfl ?_
      show Steps p.tables e below (T17.setTop (mkF m 88 #[.val (.int x1), .val (.int ((x1 &&& (2147483647 : Int32)) % (3 : Int32))), .val (.ref st_CLASSIC), .val (.long (2147483647 : Int64)), .second, .val (.long (own_lo (4 : Int32))), .second, .val (.int (4 : Int32)), .val (.long (((1 : Int64) <<< ((((8 : Int32) * (4 : Int32)) - (1 : Int32)) &&& 0x3f).toInt64) - (1 : Int64))), .second] [(.long (own_lo (4 : Int32)))])) _
      refine XS.aloadN X17.here hx rfl (hb hby at_88) rfl rfl ?_
      show Steps p.tables e below (T17.setTop (mkF m 89 #[.val (.int x1), .val (.int ((x1 &&& (2147483647 : Int32)) % (3 : Int32))), .val (.ref st_CLASSIC), .val (.long (2147483647 : Int64)), .second, .val (.long (own_lo (4 : Int32))), .second, .val (.int (4 : Int32)), .val (.long (((1 : Int64) <<< ((((8 : Int32) * (4 : Int32)) - (1 : Int32)) &&& 0x3f).toInt64) - (1 : Int64))), .second] [(.ref st_CLASSIC), (.long (own_lo (4 : Int32)))])) _
      refine st18.trans ?_
      show Steps p.tables e below (T18.setTop (mkF m 92 #[.val (.int x1), .val (.int ((x1 &&& (2147483647 : Int32)) % (3 : Int32))), .val (.ref st_CLASSIC), .val (.long (2147483647 : Int64)), .second, .val (.long (own_lo (4 : Int32))), .second, .val (.int (4 : Int32)), .val (.long (((1 : Int64) <<< ((((8 : Int32) * (4 : Int32)) - (1 : Int32)) &&& 0x3f).toInt64) - (1 : Int64))), .second] [(.long (2147483644 : Int64)), (.long (own_lo (4 : Int32)))])) _
      refine XS.lcmp X18.here hx rfl (hb hby at_92) rfl ?_
      show Steps p.tables e below (T18.setTop (mkF m 93 #[.val (.int x1), .val (.int ((x1 &&& (2147483647 : Int32)) % (3 : Int32))), .val (.ref st_CLASSIC), .val (.long (2147483647 : Int64)), .second, .val (.long (own_lo (4 : Int32))), .second, .val (.int (4 : Int32)), .val (.long (((1 : Int64) <<< ((((8 : Int32) * (4 : Int32)) - (1 : Int32)) &&& 0x3f).toInt64) - (1 : Int64))), .second] [(.int (lcmpW (own_lo (4 : Int32)) (2147483644 : Int64)))])) _
      refine XS.ifNo X18.here hx rfl (hb hby at_93) rfl ((if0 _ _).trans (flt (by decide +kernel : ¬ ((lcmpW (own_lo (4 : Int32)) (2147483644 : Int64)) < (0 : Int32)))).1) ?_
      show Steps p.tables e below (T18.setTop (mkF m 96 #[.val (.int x1), .val (.int ((x1 &&& (2147483647 : Int32)) % (3 : Int32))), .val (.ref st_CLASSIC), .val (.long (2147483647 : Int64)), .second, .val (.long (own_lo (4 : Int32))), .second, .val (.int (4 : Int32)), .val (.long (((1 : Int64) <<< ((((8 : Int32) * (4 : Int32)) - (1 : Int32)) &&& 0x3f).toInt64) - (1 : Int64))), .second] [])) _
      refine XS.iconst X18.here hx rfl (hb hby at_96) ?_
      show Steps p.tables e below (T18.setTop (mkF m 97 #[.val (.int x1), .val (.int ((x1 &&& (2147483647 : Int32)) % (3 : Int32))), .val (.ref st_CLASSIC), .val (.long (2147483647 : Int64)), .second, .val (.long (own_lo (4 : Int32))), .second, .val (.int (4 : Int32)), .val (.long (((1 : Int64) <<< ((((8 : Int32) * (4 : Int32)) - (1 : Int32)) &&& 0x3f).toInt64) - (1 : Int64))), .second] [(.int (1 : Int32))])) _
      refine XS.goto X18.here hx rfl (pc0 := 97) (pc' := 101) rfl (hb hby at_97) (by decide) (by decide) ?_
      show Steps p.tables e below (T18.setTop (mkF m 101 #[.val (.int x1), .val (.int ((x1 &&& (2147483647 : Int32)) % (3 : Int32))), .val (.ref st_CLASSIC), .val (.long (2147483647 : Int64)), .second, .val (.long (own_lo (4 : Int32))), .second, .val (.int (4 : Int32)), .val (.long (((1 : Int64) <<< ((((8 : Int32) * (4 : Int32)) - (1 : Int32)) &&& 0x3f).toInt64) - (1 : Int64))), .second] [(.int (1 : Int32))])) _
      exact retN X18 hx (t := .boolean) Bd.returns (by simp) (hb hby at_101) hr
    · show Q0 Z x1 st_CLASSIC st_OFFSET_64BIT st_DATA_64BIT h0 n0 _ T18.heap _
      rw [eh18]
      exact ⟨rfl, N18, rfl⟩
  · skip
    have pre19 : ∀ t, Steps p.tables e below (s₁.setTop (mkF m 19 #[.val (.int x1), .val (.int ((x1 &&& (2147483647 : Int32)) % (3 : Int32))), .unset, .unset, .unset, .unset, .unset, .unset, .unset, .unset] [(.int (1 : Int32)), (.int ((x1 &&& (2147483647 : Int32)) % (3 : Int32)))])) t → Steps p.tables e below (s₁.setTop (entryFrame m #[(.int x1)] maxLocals)) t := by
      intro t kt
      refine pre14 t ?_
      show Steps p.tables e below (s₁.setTop (mkF m 8 #[.val (.int x1), .val (.int ((x1 &&& (2147483647 : Int32)) % (3 : Int32))), .unset, .unset, .unset, .unset, .unset, .unset, .unset, .unset] [(.int ((x1 &&& (2147483647 : Int32)) % (3 : Int32)))])) _
      refine XS.ifYes X0.here hx rfl (pc0 := 8) (pc' := 17) rfl (hb hby at_8) rfl ((if0 _ _).trans (feq hc8).2) (by decide) (by decide) ?_
      show Steps p.tables e below (s₁.setTop (mkF m 17 #[.val (.int x1), .val (.int ((x1 &&& (2147483647 : Int32)) % (3 : Int32))), .unset, .unset, .unset, .unset, .unset, .unset, .unset, .unset] [])) _
      refine XS.iloadN X0.here hx rfl (hb hby at_17) rfl ?_
      show Steps p.tables e below (s₁.setTop (mkF m 18 #[.val (.int x1), .val (.int ((x1 &&& (2147483647 : Int32)) % (3 : Int32))), .unset, .unset, .unset, .unset, .unset, .unset, .unset, .unset] [(.int ((x1 &&& (2147483647 : Int32)) % (3 : Int32)))])) _
      refine XS.iconst X0.here hx rfl (hb hby at_18) ?_
      exact kt
    by_cases hc19 : ((x1 &&& (2147483647 : Int32)) % (3 : Int32)) = (1 : Int32)
    · skip
      obtain ⟨T20, X20, e20, st20⟩ := getS2 X0 hx hZ hown (host := "") (Or.inl (hw _ (List.mem_of_getElem? (i := 29) rfl))) Via.refl e0 (S_OFFSET_64BIT.ext O0.2) (g := (mkF m 22 #[.val (.int x1), .val (.int ((x1 &&& (2147483647 : Int32)) % (3 : Int32))), .unset, .unset, .unset, .unset, .unset, .unset, .unset, .unset] [])) rfl (hb hby at_22)
      obtain ⟨cq21, kq21, q21a, q21b, q21c⟩ := isOf hZ e20 C8
      obtain ⟨_, _, ⟨T21, L21, k21, n21⟩, -, X21, ⟨Lc21, hQ21, l21, y21, z21⟩, st21⟩ := X20.virtualBack hx (y := (⟨"com/example/tidecell/tidecell/netcdf/NetcdfFormat", "largestOffset", "()J"⟩ : MethodName)) (z := (⟨"com/example/tidecell/tidecell/netcdf/NetcdfFormat", "largestOffset", "()J"⟩ : MethodName)) hown (mvT hZ (hw _ (List.mem_of_getElem? (i := 5) rfl))) (mvT hZ (hw _ (List.mem_of_getElem? (i := 6) rfl))) (notFace_of_selects (args := #[]) (mvT hZ (hw _ (List.mem_of_getElem? (i := 8) rfl)))) (mvT hZ (hw _ (List.mem_of_getElem? (i := 8) rfl))) (mvT hZ (hw _ (List.mem_of_getElem? (i := 7) rfl))) (by decide) (backOf (W := 0) (rm1 l Z a0 hw [] st_OFFSET_64BIT (8 : Int32) h0 n0 Z0 O0 F9) hZ (hw _ (List.mem_of_getElem? (i := 9) rfl)) (hw _ (List.mem_of_getElem? (i := 2) rfl)) (by decide) (by decide)) q21a q21c (g := (mkF m 47 #[.val (.int x1), .val (.int ((x1 &&& (2147483647 : Int32)) % (3 : Int32))), .val (.ref st_OFFSET_64BIT), .val (.long (9223372036854775807 : Int64)), .second, .unset, .unset, .unset, .unset, .unset] [(.ref st_OFFSET_64BIT)])) rfl (by rw [hml]; rfl) (Steps.refl _) (argsL := []) (rest := []) (lenOf pd_0 rfl) rfl (by show 2 * 0 + _ ≤ _; exact Nat.le_of_eq rfl) (hb hby at_47) (fun _ _ => ⟨rfl, e20, (by decide : 0 + 0 ≤ _), (by decide : 0 + 0 ≤ _)⟩)
      dsimp only [Pt.U, Pt.locs, Pt.cells, Pt.slots] at X21 l21 y21 z21 st21 hQ21
      subst l21 y21 z21
      obtain ⟨rfl, N21q, eh21⟩ := hQ21
      have N21 := Fr.app N0 N21q
      obtain ⟨cq22, kq22, q22a, q22b, q22c⟩ := isOf hZ eh21 C8
      obtain ⟨_, _, ⟨T22, L22, k22, n22⟩, -, X22, ⟨Lc22, hQ22, l22, y22, z22⟩, st22⟩ := X21.virtualBack hx (y := (⟨"com/example/tidecell/tidecell/netcdf/NetcdfFormat", "offsetLength", "()I"⟩ : MethodName)) (z := (⟨"com/example/tidecell/tidecell/netcdf/NetcdfFormat", "offsetLength", "()I"⟩ : MethodName)) hown (mvT hZ (hw _ (List.mem_of_getElem? (i := 13) rfl))) (mvT hZ (hw _ (List.mem_of_getElem? (i := 14) rfl))) (notFace_of_selects (args := #[]) (mvT hZ (hw _ (List.mem_of_getElem? (i := 16) rfl)))) (mvT hZ (hw _ (List.mem_of_getElem? (i := 16) rfl))) (mvT hZ (hw _ (List.mem_of_getElem? (i := 15) rfl))) (by decide) (backOf (W := 0) (rm2 l Z a0 hw [] st_OFFSET_64BIT (8 : Int32) h0 n0 Z0 O0 F9) hZ (hw _ (List.mem_of_getElem? (i := 17) rfl)) (hw _ (List.mem_of_getElem? (i := 2) rfl)) (by decide) (by decide)) q22a q22c (g := (mkF m 53 #[.val (.int x1), .val (.int ((x1 &&& (2147483647 : Int32)) % (3 : Int32))), .val (.ref st_OFFSET_64BIT), .val (.long (9223372036854775807 : Int64)), .second, .val (.long (own_lo (8 : Int32))), .second, .unset, .unset, .unset] [(.ref st_OFFSET_64BIT)])) rfl (by rw [hml]; rfl) (Steps.refl _) (argsL := []) (rest := []) (lenOf pd_1 rfl) rfl (by show 2 * 0 + _ ≤ _; exact Nat.le_of_eq rfl) (hb hby at_53) (fun _ _ => ⟨rfl, eh21, (by decide : 0 + 0 ≤ _), (by decide : 0 + 0 ≤ _)⟩)
      dsimp only [Pt.U, Pt.locs, Pt.cells, Pt.slots] at X22 l22 y22 z22 st22 hQ22
      subst l22 y22 z22
      obtain ⟨rfl, N22q, eh22⟩ := hQ22
      have N22 := Fr.app N21 N22q
      obtain ⟨cq23, kq23, q23a, q23b, q23c⟩ := isOf hZ eh22 C8
      obtain ⟨_, _, ⟨T23, L23, k23, n23⟩, -, X23, ⟨Lc23, hQ23, l23, y23, z23⟩, st23⟩ := X22.virtualBack hx (y := (⟨"com/example/tidecell/tidecell/netcdf/NetcdfFormat", "largestVariable", "()J"⟩ : MethodName)) (z := (⟨"com/example/tidecell/tidecell/netcdf/NetcdfFormat", "largestVariable", "()J"⟩ : MethodName)) hown (mvT hZ (hw _ (List.mem_of_getElem? (i := 18) rfl))) (mvT hZ (hw _ (List.mem_of_getElem? (i := 19) rfl))) (notFace_of_selects (args := #[]) (mvT hZ (hw _ (List.mem_of_getElem? (i := 21) rfl)))) (mvT hZ (hw _ (List.mem_of_getElem? (i := 21) rfl))) (mvT hZ (hw _ (List.mem_of_getElem? (i := 20) rfl))) (by decide) (backOf (W := 2) (rm3 l Z a0 hw [] st_OFFSET_64BIT (4294967292 : Int64) h0 n0 Z0 O0 F10) hZ (hw _ (List.mem_of_getElem? (i := 22) rfl)) (hw _ (List.mem_of_getElem? (i := 2) rfl)) (by decide) (by decide)) q23a q23c (g := (mkF m 89 #[.val (.int x1), .val (.int ((x1 &&& (2147483647 : Int32)) % (3 : Int32))), .val (.ref st_OFFSET_64BIT), .val (.long (9223372036854775807 : Int64)), .second, .val (.long (own_lo (8 : Int32))), .second, .val (.int (8 : Int32)), .val (.long (((1 : Int64) <<< ((((8 : Int32) * (8 : Int32)) - (1 : Int32)) &&& 0x3f).toInt64) - (1 : Int64))), .second] [(.ref st_OFFSET_64BIT), (.long (own_lo (8 : Int32)))])) rfl (by rw [hml]; rfl) (Steps.refl _) (argsL := []) (rest := [(.long (own_lo (8 : Int32)))]) (lenOf pd_0 rfl) rfl (by show 2 * 0 + _ ≤ _; exact Nat.le_of_eq rfl) (hb hby at_89) (fun _ _ => ⟨rfl, eh22, (by decide : 0 + 0 ≤ _), (by decide : 0 + 0 ≤ _)⟩)
      dsimp only [Pt.U, Pt.locs, Pt.cells, Pt.slots] at X23 l23 y23 z23 st23 hQ23
      subst l23 y23 z23
      obtain ⟨rfl, N23q, eh23⟩ := hQ23
      have N23 := Fr.app N22 N23q
      obtain ⟨fs, hr, hrun, hended, hW, hsame⟩ := X23.leave (v := some (.int (1 : Int32))) (fun h => by rw [Bd.returns] at h; cases h)
      refine ⟨_, _, pre19 _ ?_, hrun, hended, _, _, rfl, ?_, ⟨_, rfl⟩, hW, hsame.mono (by decide) (by decide)⟩
      · show Steps p.tables e below (s₁.setTop (mkF m 19 #[.val (.int x1), .val (.int ((x1 &&& (2147483647 : Int32)) % (3 : Int32))), .unset, .unset, .unset, .unset, .unset, .unset, .unset, .unset] [(.int (1 : Int32)), (.int ((x1 &&& (2147483647 : Int32)) % (3 : Int32)))])) _
        refine XS.icmpNo X0.here hx rfl (hb hby at_19) rfl (teq hc19).2 ?_
        show Steps p.tables e below (s₁.setTop (mkF m 22 #[.val (.int x1), .val (.int ((x1 &&& (2147483647 : Int32)) % (3 : Int32))), .unset, .unset, .unset, .unset, .unset, .unset, .unset, .unset] [])) _
        refine st20 _ ?_
        show Steps p.tables e below (T20.setTop (mkF m 25 #[.val (.int x1), .val (.int ((x1 &&& (2147483647 : Int32)) % (3 : Int32))), .unset, .unset, .unset, .unset, .unset, .unset, .unset, .unset] [(.ref st_OFFSET_64BIT)])) _
        refine XS.goto X20.here hx rfl (pc0 := 25) (pc' := 31) rfl (hb hby at_25) (by decide) (by decide) ?_
        show Steps p.tables e below (T20.setTop (mkF m 31 #[.val (.int x1), .val (.int ((x1 &&& (2147483647 : Int32)) % (3 : Int32))), .unset, .unset, .unset, .unset, .unset, .unset, .unset, .unset] [(.ref st_OFFSET_64BIT)])) _
        refine XS.astoreN X20.here hx rfl (hb hby at_31) rfl rfl (l' := #[.val (.int x1), .val (.int ((x1 &&& (2147483647 : Int32)) % (3 : Int32))), .val (.ref st_OFFSET_64BIT), .unset, .unset, .unset, .unset, .unset, .unset, .unset]) rfl ?_
        show Steps p.tables e below (T20.setTop (mkF m 32 #[.val (.int x1), .val (.int ((x1 &&& (2147483647 : Int32)) % (3 : Int32))), .val (.ref st_OFFSET_64BIT), .unset, .unset, .unset, .unset, .unset, .unset, .unset] [])) _
        refine XS.iloadN X20.here hx rfl (hb hby at_32) rfl ?_
        show Steps p.tables e below (T20.setTop (mkF m 33 #[.val (.int x1), .val (.int ((x1 &&& (2147483647 : Int32)) % (3 : Int32))), .val (.ref st_OFFSET_64BIT), .unset, .unset, .unset, .unset, .unset, .unset, .unset] [(.int ((x1 &&& (2147483647 : Int32)) % (3 : Int32)))])) _
        refine XS.ifYes X20.here hx rfl (pc0 := 33) (pc' := 42) rfl (hb hby at_33) rfl ((if0 _ _).trans (feq hc8).2) (by decide) (by decide) ?_
        show Steps p.tables e below (T20.setTop (mkF m 42 #[.val (.int x1), .val (.int ((x1 &&& (2147483647 : Int32)) % (3 : Int32))), .val (.ref st_OFFSET_64BIT), .unset, .unset, .unset, .unset, .unset, .unset, .unset] [])) _
        refine X20.ldc2Long hx hown (mvT hZ (hw _ (List.mem_of_getElem? (i := 27) rfl))) (g := (mkF m 42 #[.val (.int x1), .val (.int ((x1 &&& (2147483647 : Int32)) % (3 : Int32))), .val (.ref st_OFFSET_64BIT), .unset, .unset, .unset, .unset, .unset, .unset, .unset] [])) rfl (hb hby at_42) _ ?_
        show Steps p.tables e below (T20.setTop (mkF m 45 #[.val (.int x1), .val (.int ((x1 &&& (2147483647 : Int32)) % (3 : Int32))), .val (.ref st_OFFSET_64BIT), .unset, .unset, .unset, .unset, .unset, .unset, .unset] [(.long (9223372036854775807 : Int64))])) _
        refine XS.lstoreN X20.here hx rfl (hb hby at_45) rfl (l' := #[.val (.int x1), .val (.int ((x1 &&& (2147483647 : Int32)) % (3 : Int32))), .val (.ref st_OFFSET_64BIT), .val (.long (9223372036854775807 : Int64)), .second, .unset, .unset, .unset, .unset, .unset]) rfl ?_
        show Steps p.tables e below (T20.setTop (mkF m 46 #[.val (.int x1), .val (.int ((x1 &&& (2147483647 : Int32)) % (3 : Int32))), .val (.ref st_OFFSET_64BIT), .val (.long (9223372036854775807 : Int64)), .second, .unset, .unset, .unset, .unset, .unset] [])) _
        refine XS.aloadN X20.here hx rfl (hb hby at_46) rfl rfl ?_
        show Steps p.tables e below (T20.setTop (mkF m 47 #[.val (.int x1), .val (.int ((x1 &&& (2147483647 : Int32)) % (3 : Int32))), .val (.ref st_OFFSET_64BIT), .val (.long (9223372036854775807 : Int64)), .second, .unset, .unset, .unset, .unset, .unset] [(.ref st_OFFSET_64BIT)])) _
        refine st21.trans ?_
        show Steps p.tables e below (T21.setTop (mkF m 50 #[.val (.int x1), .val (.int ((x1 &&& (2147483647 : Int32)) % (3 : Int32))), .val (.ref st_OFFSET_64BIT), .val (.long (9223372036854775807 : Int64)), .second, .unset, .unset, .unset, .unset, .unset] [(.long (own_lo (8 : Int32)))])) _
        refine XS.lstore X21.here hx rfl (hb hby at_50) rfl (l' := #[.val (.int x1), .val (.int ((x1 &&& (2147483647 : Int32)) % (3 : Int32))), .val (.ref st_OFFSET_64BIT), .val (.long (9223372036854775807 : Int64)), .second, .val (.long (own_lo (8 : Int32))), .second, .unset, .unset, .unset]) rfl ?_
        show Steps p.tables e below (T21.setTop (mkF m 52 #[.val (.int x1), .val (.int ((x1 &&& (2147483647 : Int32)) % (3 : Int32))), .val (.ref st_OFFSET_64BIT), .val (.long (9223372036854775807 : Int64)), .second, .val (.long (own_lo (8 : Int32))), .second, .unset, .unset, .unset] [])) _
        refine XS.aloadN X21.here hx rfl (hb hby at_52) rfl rfl ?_
        show Steps p.tables e below (T21.setTop (mkF m 53 #[.val (.int x1), .val (.int ((x1 &&& (2147483647 : Int32)) % (3 : Int32))), .val (.ref st_OFFSET_64BIT), .val (.long (9223372036854775807 : Int64)), .second, .val (.long (own_lo (8 : Int32))), .second, .unset, .unset, .unset] [(.ref st_OFFSET_64BIT)])) _
        refine st22.trans ?_
        show Steps p.tables e below (T22.setTop (mkF m 56 #[.val (.int x1), .val (.int ((x1 &&& (2147483647 : Int32)) % (3 : Int32))), .val (.ref st_OFFSET_64BIT), .val (.long (9223372036854775807 : Int64)), .second, .val (.long (own_lo (8 : Int32))), .second, .unset, .unset, .unset] [(.int (8 : Int32))])) _
        refine XS.istore X22.here hx rfl (hb hby at_56) rfl (l' := #[.val (.int x1), .val (.int ((x1 &&& (2147483647 : Int32)) % (3 : Int32))), .val (.ref st_OFFSET_64BIT), .val (.long (9223372036854775807 : Int64)), .second, .val (.long (own_lo (8 : Int32))), .second, .val (.int (8 : Int32)), .unset, .unset]) rfl ?_
        show Steps p.tables e below (T22.setTop (mkF m 58 #[.val (.int x1), .val (.int ((x1 &&& (2147483647 : Int32)) % (3 : Int32))), .val (.ref st_OFFSET_64BIT), .val (.long (9223372036854775807 : Int64)), .second, .val (.long (own_lo (8 : Int32))), .second, .val (.int (8 : Int32)), .unset, .unset] [])) _
        refine XS.lconst X22.here hx rfl (hb hby at_58) ?_
        show Steps p.tables e below (T22.setTop (mkF m 59 #[.val (.int x1), .val (.int ((x1 &&& (2147483647 : Int32)) % (3 : Int32))), .val (.ref st_OFFSET_64BIT), .val (.long (9223372036854775807 : Int64)), .second, .val (.long (own_lo (8 : Int32))), .second, .val (.int (8 : Int32)), .unset, .unset] [(.long (1 : Int64))])) _
        refine XS.bipush X22.here hx rfl (hb hby at_59) ?_
        show Steps p.tables e below (T22.setTop (mkF m 61 #[.val (.int x1), .val (.int ((x1 &&& (2147483647 : Int32)) % (3 : Int32))), .val (.ref st_OFFSET_64BIT), .val (.long (9223372036854775807 : Int64)), .second, .val (.long (own_lo (8 : Int32))), .second, .val (.int (8 : Int32)), .unset, .unset] [(.int (8 : Int32)), (.long (1 : Int64))])) _
        refine XS.iload X22.here hx rfl (hb hby at_61) rfl ?_
        show Steps p.tables e below (T22.setTop (mkF m 63 #[.val (.int x1), .val (.int ((x1 &&& (2147483647 : Int32)) % (3 : Int32))), .val (.ref st_OFFSET_64BIT), .val (.long (9223372036854775807 : Int64)), .second, .val (.long (own_lo (8 : Int32))), .second, .val (.int (8 : Int32)), .unset, .unset] [(.int (8 : Int32)), (.int (8 : Int32)), (.long (1 : Int64))])) _
        refine XS.imul X22.here hx rfl (hb hby at_63) rfl ?_
        show Steps p.tables e below (T22.setTop (mkF m 64 #[.val (.int x1), .val (.int ((x1 &&& (2147483647 : Int32)) % (3 : Int32))), .val (.ref st_OFFSET_64BIT), .val (.long (9223372036854775807 : Int64)), .second, .val (.long (own_lo (8 : Int32))), .second, .val (.int (8 : Int32)), .unset, .unset] [(.int ((8 : Int32) * (8 : Int32))), (.long (1 : Int64))])) _
        refine XS.iconst X22.here hx rfl (hb hby at_64) ?_
        show Steps p.tables e below (T22.setTop (mkF m 65 #[.val (.int x1), .val (.int ((x1 &&& (2147483647 : Int32)) % (3 : Int32))), .val (.ref st_OFFSET_64BIT), .val (.long (9223372036854775807 : Int64)), .second, .val (.long (own_lo (8 : Int32))), .second, .val (.int (8 : Int32)), .unset, .unset] [(.int (1 : Int32)), (.int ((8 : Int32) * (8 : Int32))), (.long (1 : Int64))])) _
        refine XS.isub X22.here hx rfl (hb hby at_65) rfl ?_
        show Steps p.tables e below (T22.setTop (mkF m 66 #[.val (.int x1), .val (.int ((x1 &&& (2147483647 : Int32)) % (3 : Int32))), .val (.ref st_OFFSET_64BIT), .val (.long (9223372036854775807 : Int64)), .second, .val (.long (own_lo (8 : Int32))), .second, .val (.int (8 : Int32)), .unset, .unset] [(.int (((8 : Int32) * (8 : Int32)) - (1 : Int32))), (.long (1 : Int64))])) _
        refine XS.lshl X22.here hx rfl (hb hby at_66) rfl ?_
        show Steps p.tables e below (T22.setTop (mkF m 67 #[.val (.int x1), .val (.int ((x1 &&& (2147483647 : Int32)) % (3 : Int32))), .val (.ref st_OFFSET_64BIT), .val (.long (9223372036854775807 : Int64)), .second, .val (.long (own_lo (8 : Int32))), .second, .val (.int (8 : Int32)), .unset, .unset] [(.long ((1 : Int64) <<< ((((8 : Int32) * (8 : Int32)) - (1 : Int32)) &&& 0x3f).toInt64))])) _
        refine XS.lconst X22.here hx rfl (hb hby at_67) ?_
        show Steps p.tables e below (T22.setTop (mkF m 68 #[.val (.int x1), .val (.int ((x1 &&& (2147483647 : Int32)) % (3 : Int32))), .val (.ref st_OFFSET_64BIT), .val (.long (9223372036854775807 : Int64)), .second, .val (.long (own_lo (8 : Int32))), .second, .val (.int (8 : Int32)), .unset, .unset] [(.long (1 : Int64)), (.long ((1 : Int64) <<< ((((8 : Int32) * (8 : Int32)) - (1 : Int32)) &&& 0x3f).toInt64))])) _
        refine XS.lsub X22.here hx rfl (hb hby at_68) rfl ?_
        show Steps p.tables e below (T22.setTop (mkF m 69 #[.val (.int x1), .val (.int ((x1 &&& (2147483647 : Int32)) % (3 : Int32))), .val (.ref st_OFFSET_64BIT), .val (.long (9223372036854775807 : Int64)), .second, .val (.long (own_lo (8 : Int32))), .second, .val (.int (8 : Int32)), .unset, .unset] [(.long (((1 : Int64) <<< ((((8 : Int32) * (8 : Int32)) - (1 : Int32)) &&& 0x3f).toInt64) - (1 : Int64)))])) _
        refine XS.lstore X22.here hx rfl (hb hby at_69) rfl (l' := #[.val (.int x1), .val (.int ((x1 &&& (2147483647 : Int32)) % (3 : Int32))), .val (.ref st_OFFSET_64BIT), .val (.long (9223372036854775807 : Int64)), .second, .val (.long (own_lo (8 : Int32))), .second, .val (.int (8 : Int32)), .val (.long (((1 : Int64) <<< ((((8 : Int32) * (8 : Int32)) - (1 : Int32)) &&& 0x3f).toInt64) - (1 : Int64))), .second]) rfl ?_
        show Steps p.tables e below (T22.setTop (mkF m 71 #[.val (.int x1), .val (.int ((x1 &&& (2147483647 : Int32)) % (3 : Int32))), .val (.ref st_OFFSET_64BIT), .val (.long (9223372036854775807 : Int64)), .second, .val (.long (own_lo (8 : Int32))), .second, .val (.int (8 : Int32)), .val (.long (((1 : Int64) <<< ((((8 : Int32) * (8 : Int32)) - (1 : Int32)) &&& 0x3f).toInt64) - (1 : Int64))), .second] [])) _
        refine XS.lload X22.here hx rfl (hb hby at_71) rfl ?_
        show Steps p.tables e below (T22.setTop (mkF m 73 #[.val (.int x1), .val (.int ((x1 &&& (2147483647 : Int32)) % (3 : Int32))), .val (.ref st_OFFSET_64BIT), .val (.long (9223372036854775807 : Int64)), .second, .val (.long (own_lo (8 : Int32))), .second, .val (.int (8 : Int32)), .val (.long (((1 : Int64) <<< ((((8 : Int32) * (8 : Int32)) - (1 : Int32)) &&& 0x3f).toInt64) - (1 : Int64))), .second] [(.long (own_lo (8 : Int32)))])) _
        refine XS.lloadN X22.here hx rfl (hb hby at_73) rfl ?_
        show Steps p.tables e below (T22.setTop (mkF m 74 #[.val (.int x1), .val (.int ((x1 &&& (2147483647 : Int32)) % (3 : Int32))), .val (.ref st_OFFSET_64BIT), .val (.long (9223372036854775807 : Int64)), .second, .val (.long (own_lo (8 : Int32))), .second, .val (.int (8 : Int32)), .val (.long (((1 : Int64) <<< ((((8 : Int32) * (8 : Int32)) - (1 : Int32)) &&& 0x3f).toInt64) - (1 : Int64))), .second] [(.long (9223372036854775807 : Int64)), (.long (own_lo (8 : Int32)))])) _
        refine XS.lcmp X22.here hx rfl (hb hby at_74) rfl ?_
        show Steps p.tables e below (T22.setTop (mkF m 75 #[.val (.int x1), .val (.int ((x1 &&& (2147483647 : Int32)) % (3 : Int32))), .val (.ref st_OFFSET_64BIT), .val (.long (9223372036854775807 : Int64)), .second, .val (.long (own_lo (8 : Int32))), .second, .val (.int (8 : Int32)), .val (.long (((1 : Int64) <<< ((((8 : Int32) * (8 : Int32)) - (1 : Int32)) &&& 0x3f).toInt64) - (1 : Int64))), .second] [(.int (lcmpW (own_lo (8 : Int32)) (9223372036854775807 : Int64)))])) _
        refine XS.ifNo X22.here hx rfl (hb hby at_75) rfl ((if0 _ _).trans (teq (by decide +kernel : (lcmpW (own_lo (8 : Int32)) (9223372036854775807 : Int64)) = (0 : Int32))).2) ?_
        show Steps p.tables e below (T22.setTop (mkF m 78 #[.val (.int x1), .val (.int ((x1 &&& (2147483647 : Int32)) % (3 : Int32))), .val (.ref st_OFFSET_64BIT), .val (.long (9223372036854775807 : Int64)), .second, .val (.long (own_lo (8 : Int32))), .second, .val (.int (8 : Int32)), .val (.long (((1 : Int64) <<< ((((8 : Int32) * (8 : Int32)) - (1 : Int32)) &&& 0x3f).toInt64) - (1 : Int64))), .second] [])) _
        refine XS.lload X22.here hx rfl (hb hby at_78) rfl ?_
        show Steps p.tables e below (T22.setTop (mkF m 80 #[.val (.int x1), .val (.int ((x1 &&& (2147483647 : Int32)) % (3 : Int32))), .val (.ref st_OFFSET_64BIT), .val (.long (9223372036854775807 : Int64)), .second, .val (.long (own_lo (8 : Int32))), .second, .val (.int (8 : Int32)), .val (.long (((1 : Int64) <<< ((((8 : Int32) * (8 : Int32)) - (1 : Int32)) &&& 0x3f).toInt64) - (1 : Int64))), .second] [(.long (own_lo (8 : Int32)))])) _
        refine XS.lload X22.here hx rfl (hb hby at_80) rfl ?_
        show Steps p.tables e below (T22.setTop (mkF m 82 #[.val (.int x1), .val (.int ((x1 &&& (2147483647 : Int32)) % (3 : Int32))), .val (.ref st_OFFSET_64BIT), .val (.long (9223372036854775807 : Int64)), .second, .val (.long (own_lo (8 : Int32))), .second, .val (.int (8 : Int32)), .val (.long (((1 : Int64) <<< ((((8 : Int32) * (8 : Int32)) - (1 : Int32)) &&& 0x3f).toInt64) - (1 : Int64))), .second] [(.long (((1 : Int64) <<< ((((8 : Int32) * (8 : Int32)) - (1 : Int32)) &&& 0x3f).toInt64) - (1 : Int64))), (.long (own_lo (8 : Int32)))])) _
        refine XS.lcmp X22.here hx rfl (hb hby at_82) rfl ?_
        show Steps p.tables e below (T22.setTop (mkF m 83 #[.val (.int x1), .val (.int ((x1 &&& (2147483647 : Int32)) % (3 : Int32))), .val (.ref st_OFFSET_64BIT), .val (.long (9223372036854775807 : Int64)), .second, .val (.long (own_lo (8 : Int32))), .second, .val (.int (8 : Int32)), .val (.long (((1 : Int64) <<< ((((8 : Int32) * (8 : Int32)) - (1 : Int32)) &&& 0x3f).toInt64) - (1 : Int64))), .second] [(.int (lcmpW (own_lo (8 : Int32)) (((1 : Int64) <<< ((((8 : Int32) * (8 : Int32)) - (1 : Int32)) &&& 0x3f).toInt64) - (1 : Int64))))])) _
        refine XS.ifNo X22.here hx rfl (hb hby at_83) rfl ((if0 _ _).trans (teq (by decide +kernel : (lcmpW (own_lo (8 : Int32)) (((1 : Int64) <<< ((((8 : Int32) * (8 : Int32)) - (1 : Int32)) &&& 0x3f).toInt64) - (1 : Int64))) = (0 : Int32))).2) ?_
        show Steps p.tables e below (T22.setTop (mkF m 86 #[.val (.int x1), .val (.int ((x1 &&& (2147483647 : Int32)) % (3 : Int32))), .val (.ref st_OFFSET_64BIT), .val (.long (9223372036854775807 : Int64)), .second, .val (.long (own_lo (8 : Int32))), .second, .val (.int (8 : Int32)), .val (.long (((1 : Int64) <<< ((((8 : Int32) * (8 : Int32)) - (1 : Int32)) &&& 0x3f).toInt64) - (1 : Int64))), .second] [])) _
        refine XS.lload X22.here hx rfl (hb hby at_86) rfl ?_
        show Steps p.tables e below (T22.setTop (mkF m 88 #[.val (.int x1), .val (.int ((x1 &&& (2147483647 : Int32)) % (3 : Int32))), .val (.ref st_OFFSET_64BIT), .val (.long (9223372036854775807 : Int64)), .second, .val (.long (own_lo (8 : Int32))), .second, .val (.int (8 : Int32)), .val (.long (((1 : Int64) <<< ((((8 : Int32) * (8 : Int32)) - (1 : Int32)) &&& 0x3f).toInt64) - (1 : Int64))), .second] [(.long (own_lo (8 : Int32)))])) _
        refine XS.aloadN X22.here hx rfl (hb hby at_88) rfl rfl ?_
        show Steps p.tables e below (T22.setTop (mkF m 89 #[.val (.int x1), .val (.int ((x1 &&& (2147483647 : Int32)) % (3 : Int32))), .val (.ref st_OFFSET_64BIT), .val (.long (9223372036854775807 : Int64)), .second, .val (.long (own_lo (8 : Int32))), .second, .val (.int (8 : Int32)), .val (.long (((1 : Int64) <<< ((((8 : Int32) * (8 : Int32)) - (1 : Int32)) &&& 0x3f).toInt64) - (1 : Int64))), .second] [(.ref st_OFFSET_64BIT), (.long (own_lo (8 : Int32)))])) _
        refine st23.trans ?_
        show Steps p.tables e below (T23.setTop (mkF m 92 #[.val (.int x1), .val (.int ((x1 &&& (2147483647 : Int32)) % (3 : Int32))), .val (.ref st_OFFSET_64BIT), .val (.long (9223372036854775807 : Int64)), .second, .val (.long (own_lo (8 : Int32))), .second, .val (.int (8 : Int32)), .val (.long (((1 : Int64) <<< ((((8 : Int32) * (8 : Int32)) - (1 : Int32)) &&& 0x3f).toInt64) - (1 : Int64))), .second] [(.long (4294967292 : Int64)), (.long (own_lo (8 : Int32)))])) _
        refine XS.lcmp X23.here hx rfl (hb hby at_92) rfl ?_
        show Steps p.tables e below (T23.setTop (mkF m 93 #[.val (.int x1), .val (.int ((x1 &&& (2147483647 : Int32)) % (3 : Int32))), .val (.ref st_OFFSET_64BIT), .val (.long (9223372036854775807 : Int64)), .second, .val (.long (own_lo (8 : Int32))), .second, .val (.int (8 : Int32)), .val (.long (((1 : Int64) <<< ((((8 : Int32) * (8 : Int32)) - (1 : Int32)) &&& 0x3f).toInt64) - (1 : Int64))), .second] [(.int (lcmpW (own_lo (8 : Int32)) (4294967292 : Int64)))])) _
        refine XS.ifNo X23.here hx rfl (hb hby at_93) rfl ((if0 _ _).trans (flt (by decide +kernel : ¬ ((lcmpW (own_lo (8 : Int32)) (4294967292 : Int64)) < (0 : Int32)))).1) ?_
        show Steps p.tables e below (T23.setTop (mkF m 96 #[.val (.int x1), .val (.int ((x1 &&& (2147483647 : Int32)) % (3 : Int32))), .val (.ref st_OFFSET_64BIT), .val (.long (9223372036854775807 : Int64)), .second, .val (.long (own_lo (8 : Int32))), .second, .val (.int (8 : Int32)), .val (.long (((1 : Int64) <<< ((((8 : Int32) * (8 : Int32)) - (1 : Int32)) &&& 0x3f).toInt64) - (1 : Int64))), .second] [])) _
        refine XS.iconst X23.here hx rfl (hb hby at_96) ?_
        show Steps p.tables e below (T23.setTop (mkF m 97 #[.val (.int x1), .val (.int ((x1 &&& (2147483647 : Int32)) % (3 : Int32))), .val (.ref st_OFFSET_64BIT), .val (.long (9223372036854775807 : Int64)), .second, .val (.long (own_lo (8 : Int32))), .second, .val (.int (8 : Int32)), .val (.long (((1 : Int64) <<< ((((8 : Int32) * (8 : Int32)) - (1 : Int32)) &&& 0x3f).toInt64) - (1 : Int64))), .second] [(.int (1 : Int32))])) _
        refine XS.goto X23.here hx rfl (pc0 := 97) (pc' := 101) rfl (hb hby at_97) (by decide) (by decide) ?_
        show Steps p.tables e below (T23.setTop (mkF m 101 #[.val (.int x1), .val (.int ((x1 &&& (2147483647 : Int32)) % (3 : Int32))), .val (.ref st_OFFSET_64BIT), .val (.long (9223372036854775807 : Int64)), .second, .val (.long (own_lo (8 : Int32))), .second, .val (.int (8 : Int32)), .val (.long (((1 : Int64) <<< ((((8 : Int32) * (8 : Int32)) - (1 : Int32)) &&& 0x3f).toInt64) - (1 : Int64))), .second] [(.int (1 : Int32))])) _
        exact retN X23 hx (t := .boolean) Bd.returns (by simp) (hb hby at_101) hr
      · show Q0 Z x1 st_CLASSIC st_OFFSET_64BIT st_DATA_64BIT h0 n0 _ T23.heap _
        rw [eh23]
        exact ⟨rfl, N23, rfl⟩
    · skip
      obtain ⟨T24, X24, e24, st24⟩ := getS2 X0 hx hZ hown (host := "") (Or.inl (hw _ (List.mem_of_getElem? (i := 25) rfl))) Via.refl e0 (S_DATA_64BIT.ext O0.2) (g := (mkF m 28 #[.val (.int x1), .val (.int ((x1 &&& (2147483647 : Int32)) % (3 : Int32))), .unset, .unset, .unset, .unset, .unset, .unset, .unset, .unset] [])) rfl (hb hby at_28)
      obtain ⟨cq25, kq25, q25a, q25b, q25c⟩ := isOf hZ e24 C11
      obtain ⟨_, _, ⟨T25, L25, k25, n25⟩, -, X25, ⟨Lc25, hQ25, l25, y25, z25⟩, st25⟩ := X24.virtualBack hx (y := (⟨"com/example/tidecell/tidecell/netcdf/NetcdfFormat", "largestOffset", "()J"⟩ : MethodName)) (z := (⟨"com/example/tidecell/tidecell/netcdf/NetcdfFormat", "largestOffset", "()J"⟩ : MethodName)) hown (mvT hZ (hw _ (List.mem_of_getElem? (i := 5) rfl))) (mvT hZ (hw _ (List.mem_of_getElem? (i := 6) rfl))) (notFace_of_selects (args := #[]) (mvT hZ (hw _ (List.mem_of_getElem? (i := 8) rfl)))) (mvT hZ (hw _ (List.mem_of_getElem? (i := 8) rfl))) (mvT hZ (hw _ (List.mem_of_getElem? (i := 7) rfl))) (by decide) (backOf (W := 0) (rm1 l Z a0 hw [] st_DATA_64BIT (8 : Int32) h0 n0 Z0 O0 F12) hZ (hw _ (List.mem_of_getElem? (i := 9) rfl)) (hw _ (List.mem_of_getElem? (i := 2) rfl)) (by decide) (by decide)) q25a q25c (g := (mkF m 47 #[.val (.int x1), .val (.int ((x1 &&& (2147483647 : Int32)) % (3 : Int32))), .val (.ref st_DATA_64BIT), .val (.long (9223372036854775807 : Int64)), .second, .unset, .unset, .unset, .unset, .unset] [(.ref st_DATA_64BIT)])) rfl (by rw [hml]; rfl) (Steps.refl _) (argsL := []) (rest := []) (lenOf pd_0 rfl) rfl (by show 2 * 0 + _ ≤ _; exact Nat.le_of_eq rfl) (hb hby at_47) (fun _ _ => ⟨rfl, e24, (by decide : 0 + 0 ≤ _), (by decide : 0 + 0 ≤ _)⟩)
      dsimp only [Pt.U, Pt.locs, Pt.cells, Pt.slots] at X25 l25 y25 z25 st25 hQ25
      subst l25 y25 z25
      obtain ⟨rfl, N25q, eh25⟩ := hQ25
      have N25 := Fr.app N0 N25q
      obtain ⟨cq26, kq26, q26a, q26b, q26c⟩ := isOf hZ eh25 C11
      obtain ⟨_, _, ⟨T26, L26, k26, n26⟩, -, X26, ⟨Lc26, hQ26, l26, y26, z26⟩, st26⟩ := X25.virtualBack hx (y := (⟨"com/example/tidecell/tidecell/netcdf/NetcdfFormat", "offsetLength", "()I"⟩ : MethodName)) (z := (⟨"com/example/tidecell/tidecell/netcdf/NetcdfFormat", "offsetLength", "()I"⟩ : MethodName)) hown (mvT hZ (hw _ (List.mem_of_getElem? (i := 13) rfl))) (mvT hZ (hw _ (List.mem_of_getElem? (i := 14) rfl))) (notFace_of_selects (args := #[]) (mvT hZ (hw _ (List.mem_of_getElem? (i := 16) rfl)))) (mvT hZ (hw _ (List.mem_of_getElem? (i := 16) rfl))) (mvT hZ (hw _ (List.mem_of_getElem? (i := 15) rfl))) (by decide) (backOf (W := 0) (rm2 l Z a0 hw [] st_DATA_64BIT (8 : Int32) h0 n0 Z0 O0 F12) hZ (hw _ (List.mem_of_getElem? (i := 17) rfl)) (hw _ (List.mem_of_getElem? (i := 2) rfl)) (by decide) (by decide)) q26a q26c (g := (mkF m 53 #[.val (.int x1), .val (.int ((x1 &&& (2147483647 : Int32)) % (3 : Int32))), .val (.ref st_DATA_64BIT), .val (.long (9223372036854775807 : Int64)), .second, .val (.long (own_lo (8 : Int32))), .second, .unset, .unset, .unset] [(.ref st_DATA_64BIT)])) rfl (by rw [hml]; rfl) (Steps.refl _) (argsL := []) (rest := []) (lenOf pd_1 rfl) rfl (by show 2 * 0 + _ ≤ _; exact Nat.le_of_eq rfl) (hb hby at_53) (fun _ _ => ⟨rfl, eh25, (by decide : 0 + 0 ≤ _), (by decide : 0 + 0 ≤ _)⟩)
      dsimp only [Pt.U, Pt.locs, Pt.cells, Pt.slots] at X26 l26 y26 z26 st26 hQ26
      subst l26 y26 z26
      obtain ⟨rfl, N26q, eh26⟩ := hQ26
      have N26 := Fr.app N25 N26q
      obtain ⟨cq27, kq27, q27a, q27b, q27c⟩ := isOf hZ eh26 C11
      obtain ⟨_, _, ⟨T27, L27, k27, n27⟩, -, X27, ⟨Lc27, hQ27, l27, y27, z27⟩, st27⟩ := X26.virtualBack hx (y := (⟨"com/example/tidecell/tidecell/netcdf/NetcdfFormat", "largestVariable", "()J"⟩ : MethodName)) (z := (⟨"com/example/tidecell/tidecell/netcdf/NetcdfFormat", "largestVariable", "()J"⟩ : MethodName)) hown (mvT hZ (hw _ (List.mem_of_getElem? (i := 18) rfl))) (mvT hZ (hw _ (List.mem_of_getElem? (i := 19) rfl))) (notFace_of_selects (args := #[]) (mvT hZ (hw _ (List.mem_of_getElem? (i := 21) rfl)))) (mvT hZ (hw _ (List.mem_of_getElem? (i := 21) rfl))) (mvT hZ (hw _ (List.mem_of_getElem? (i := 20) rfl))) (by decide) (backOf (W := 2) (rm3 l Z a0 hw [] st_DATA_64BIT (9223372036854775804 : Int64) h0 n0 Z0 O0 F13) hZ (hw _ (List.mem_of_getElem? (i := 22) rfl)) (hw _ (List.mem_of_getElem? (i := 2) rfl)) (by decide) (by decide)) q27a q27c (g := (mkF m 89 #[.val (.int x1), .val (.int ((x1 &&& (2147483647 : Int32)) % (3 : Int32))), .val (.ref st_DATA_64BIT), .val (.long (9223372036854775807 : Int64)), .second, .val (.long (own_lo (8 : Int32))), .second, .val (.int (8 : Int32)), .val (.long (((1 : Int64) <<< ((((8 : Int32) * (8 : Int32)) - (1 : Int32)) &&& 0x3f).toInt64) - (1 : Int64))), .second] [(.ref st_DATA_64BIT), (.long (own_lo (8 : Int32)))])) rfl (by rw [hml]; rfl) (Steps.refl _) (argsL := []) (rest := [(.long (own_lo (8 : Int32)))]) (lenOf pd_0 rfl) rfl (by show 2 * 0 + _ ≤ _; exact Nat.le_of_eq rfl) (hb hby at_89) (fun _ _ => ⟨rfl, eh26, (by decide : 0 + 0 ≤ _), (by decide : 0 + 0 ≤ _)⟩)
      dsimp only [Pt.U, Pt.locs, Pt.cells, Pt.slots] at X27 l27 y27 z27 st27 hQ27
      subst l27 y27 z27
      obtain ⟨rfl, N27q, eh27⟩ := hQ27
      have N27 := Fr.app N26 N27q
      obtain ⟨fs, hr, hrun, hended, hW, hsame⟩ := X27.leave (v := some (.int (1 : Int32))) (fun h => by rw [Bd.returns] at h; cases h)
      refine ⟨_, _, pre19 _ ?_, hrun, hended, _, _, rfl, ?_, ⟨_, rfl⟩, hW, hsame.mono (by decide) (by decide)⟩
      · show Steps p.tables e below (s₁.setTop (mkF m 19 #[.val (.int x1), .val (.int ((x1 &&& (2147483647 : Int32)) % (3 : Int32))), .unset, .unset, .unset, .unset, .unset, .unset, .unset, .unset] [(.int (1 : Int32)), (.int ((x1 &&& (2147483647 : Int32)) % (3 : Int32)))])) _
        refine XS.icmpYes X0.here hx rfl (pc0 := 19) (pc' := 28) rfl (hb hby at_19) rfl (feq hc19).2 (by decide) (by decide) ?_
        show Steps p.tables e below (s₁.setTop (mkF m 28 #[.val (.int x1), .val (.int ((x1 &&& (2147483647 : Int32)) % (3 : Int32))), .unset, .unset, .unset, .unset, .unset, .unset, .unset, .unset] [])) _
        refine st24 _ ?_
        show Steps p.tables e below (T24.setTop (mkF m 31 #[.val (.int x1), .val (.int ((x1 &&& (2147483647 : Int32)) % (3 : Int32))), .unset, .unset, .unset, .unset, .unset, .unset, .unset, .unset] [(.ref st_DATA_64BIT)])) _
        refine XS.astoreN X24.here hx rfl (hb hby at_31) rfl rfl (l' := #[.val (.int x1), .val (.int ((x1 &&& (2147483647 : Int32)) % (3 : Int32))), .val (.ref st_DATA_64BIT), .unset, .unset, .unset, .unset, .unset, .unset, .unset]) rfl ?_
        show Steps p.tables e below (T24.setTop (mkF m 32 #[.val (.int x1), .val (.int ((x1 &&& (2147483647 : Int32)) % (3 : Int32))), .val (.ref st_DATA_64BIT), .unset, .unset, .unset, .unset, .unset, .unset, .unset] [])) _
        refine XS.iloadN X24.here hx rfl (hb hby at_32) rfl ?_
        show Steps p.tables e below (T24.setTop (mkF m 33 #[.val (.int x1), .val (.int ((x1 &&& (2147483647 : Int32)) % (3 : Int32))), .val (.ref st_DATA_64BIT), .unset, .unset, .unset, .unset, .unset, .unset, .unset] [(.int ((x1 &&& (2147483647 : Int32)) % (3 : Int32)))])) _
        refine XS.ifYes X24.here hx rfl (pc0 := 33) (pc' := 42) rfl (hb hby at_33) rfl ((if0 _ _).trans (feq hc8).2) (by decide) (by decide) ?_
        show Steps p.tables e below (T24.setTop (mkF m 42 #[.val (.int x1), .val (.int ((x1 &&& (2147483647 : Int32)) % (3 : Int32))), .val (.ref st_DATA_64BIT), .unset, .unset, .unset, .unset, .unset, .unset, .unset] [])) _
        refine X24.ldc2Long hx hown (mvT hZ (hw _ (List.mem_of_getElem? (i := 27) rfl))) (g := (mkF m 42 #[.val (.int x1), .val (.int ((x1 &&& (2147483647 : Int32)) % (3 : Int32))), .val (.ref st_DATA_64BIT), .unset, .unset, .unset, .unset, .unset, .unset, .unset] [])) rfl (hb hby at_42) _ ?_
        show Steps p.tables e below (T24.setTop (mkF m 45 #[.val (.int x1), .val (.int ((x1 &&& (2147483647 : Int32)) % (3 : Int32))), .val (.ref st_DATA_64BIT), .unset, .unset, .unset, .unset, .unset, .unset, .unset] [(.long (9223372036854775807 : Int64))])) _
        refine XS.lstoreN X24.here hx rfl (hb hby at_45) rfl (l' := #[.val (.int x1), .val (.int ((x1 &&& (2147483647 : Int32)) % (3 : Int32))), .val (.ref st_DATA_64BIT), .val (.long (9223372036854775807 : Int64)), .second, .unset, .unset, .unset, .unset, .unset]) rfl ?_
        show Steps p.tables e below (T24.setTop (mkF m 46 #[.val (.int x1), .val (.int ((x1 &&& (2147483647 : Int32)) % (3 : Int32))), .val (.ref st_DATA_64BIT), .val (.long (9223372036854775807 : Int64)), .second, .unset, .unset, .unset, .unset, .unset] [])) _
        refine XS.aloadN X24.here hx rfl (hb hby at_46) rfl rfl ?_
        show Steps p.tables e below (T24.setTop (mkF m 47 #[.val (.int x1), .val (.int ((x1 &&& (2147483647 : Int32)) % (3 : Int32))), .val (.ref st_DATA_64BIT), .val (.long (9223372036854775807 : Int64)), .second, .unset, .unset, .unset, .unset, .unset] [(.ref st_DATA_64BIT)])) _
        refine st25.trans ?_
        show Steps p.tables e below (T25.setTop (mkF m 50 #[.val (.int x1), .val (.int ((x1 &&& (2147483647 : Int32)) % (3 : Int32))), .val (.ref st_DATA_64BIT), .val (.long (9223372036854775807 : Int64)), .second, .unset, .unset, .unset, .unset, .unset] [(.long (own_lo (8 : Int32)))])) _
        refine XS.lstore X25.here hx rfl (hb hby at_50) rfl (l' := #[.val (.int x1), .val (.int ((x1 &&& (2147483647 : Int32)) % (3 : Int32))), .val (.ref st_DATA_64BIT), .val (.long (9223372036854775807 : Int64)), .second, .val (.long (own_lo (8 : Int32))), .second, .unset, .unset, .unset]) rfl ?_
        show Steps p.tables e below (T25.setTop (mkF m 52 #[.val (.int x1), .val (.int ((x1 &&& (2147483647 : Int32)) % (3 : Int32))), .val (.ref st_DATA_64BIT), .val (.long (9223372036854775807 : Int64)), .second, .val (.long (own_lo (8 : Int32))), .second, .unset, .unset, .unset] [])) _
        refine XS.aloadN X25.here hx rfl (hb hby at_52) rfl rfl ?_
        show Steps p.tables e below (T25.setTop (mkF m 53 #[.val (.int x1), .val (.int ((x1 &&& (2147483647 : Int32)) % (3 : Int32))), .val (.ref st_DATA_64BIT), .val (.long (9223372036854775807 : Int64)), .second, .val (.long (own_lo (8 : Int32))), .second, .unset, .unset, .unset] [(.ref st_DATA_64BIT)])) _
        refine st26.trans ?_
        show Steps p.tables e below (T26.setTop (mkF m 56 #[.val (.int x1), .val (.int ((x1 &&& (2147483647 : Int32)) % (3 : Int32))), .val (.ref st_DATA_64BIT), .val (.long (9223372036854775807 : Int64)), .second, .val (.long (own_lo (8 : Int32))), .second, .unset, .unset, .unset] [(.int (8 : Int32))])) _
        refine XS.istore X26.here hx rfl (hb hby at_56) rfl (l' := #[.val (.int x1), .val (.int ((x1 &&& (2147483647 : Int32)) % (3 : Int32))), .val (.ref st_DATA_64BIT), .val (.long (9223372036854775807 : Int64)), .second, .val (.long (own_lo (8 : Int32))), .second, .val (.int (8 : Int32)), .unset, .unset]) rfl ?_
        show Steps p.tables e below (T26.setTop (mkF m 58 #[.val (.int x1), .val (.int ((x1 &&& (2147483647 : Int32)) % (3 : Int32))), .val (.ref st_DATA_64BIT), .val (.long (9223372036854775807 : Int64)), .second, .val (.long (own_lo (8 : Int32))), .second, .val (.int (8 : Int32)), .unset, .unset] [])) _
        refine XS.lconst X26.here hx rfl (hb hby at_58) ?_
        show Steps p.tables e below (T26.setTop (mkF m 59 #[.val (.int x1), .val (.int ((x1 &&& (2147483647 : Int32)) % (3 : Int32))), .val (.ref st_DATA_64BIT), .val (.long (9223372036854775807 : Int64)), .second, .val (.long (own_lo (8 : Int32))), .second, .val (.int (8 : Int32)), .unset, .unset] [(.long (1 : Int64))])) _
        refine XS.bipush X26.here hx rfl (hb hby at_59) ?_
        show Steps p.tables e below (T26.setTop (mkF m 61 #[.val (.int x1), .val (.int ((x1 &&& (2147483647 : Int32)) % (3 : Int32))), .val (.ref st_DATA_64BIT), .val (.long (9223372036854775807 : Int64)), .second, .val (.long (own_lo (8 : Int32))), .second, .val (.int (8 : Int32)), .unset, .unset] [(.int (8 : Int32)), (.long (1 : Int64))])) _
        refine XS.iload X26.here hx rfl (hb hby at_61) rfl ?_
        show Steps p.tables e below (T26.setTop (mkF m 63 #[.val (.int x1), .val (.int ((x1 &&& (2147483647 : Int32)) % (3 : Int32))), .val (.ref st_DATA_64BIT), .val (.long (9223372036854775807 : Int64)), .second, .val (.long (own_lo (8 : Int32))), .second, .val (.int (8 : Int32)), .unset, .unset] [(.int (8 : Int32)), (.int (8 : Int32)), (.long (1 : Int64))])) _
        refine XS.imul X26.here hx rfl (hb hby at_63) rfl ?_
        show Steps p.tables e below (T26.setTop (mkF m 64 #[.val (.int x1), .val (.int ((x1 &&& (2147483647 : Int32)) % (3 : Int32))), .val (.ref st_DATA_64BIT), .val (.long (9223372036854775807 : Int64)), .second, .val (.long (own_lo (8 : Int32))), .second, .val (.int (8 : Int32)), .unset, .unset] [(.int ((8 : Int32) * (8 : Int32))), (.long (1 : Int64))])) _
        refine XS.iconst X26.here hx rfl (hb hby at_64) ?_
        show Steps p.tables e below (T26.setTop (mkF m 65 #[.val (.int x1), .val (.int ((x1 &&& (2147483647 : Int32)) % (3 : Int32))), .val (.ref st_DATA_64BIT), .val (.long (9223372036854775807 : Int64)), .second, .val (.long (own_lo (8 : Int32))), .second, .val (.int (8 : Int32)), .unset, .unset] [(.int (1 : Int32)), (.int ((8 : Int32) * (8 : Int32))), (.long (1 : Int64))])) _
        refine XS.isub X26.here hx rfl (hb hby at_65) rfl ?_
        show Steps p.tables e below (T26.setTop (mkF m 66 #[.val (.int x1), .val (.int ((x1 &&& (2147483647 : Int32)) % (3 : Int32))), .val (.ref st_DATA_64BIT), .val (.long (9223372036854775807 : Int64)), .second, .val (.long (own_lo (8 : Int32))), .second, .val (.int (8 : Int32)), .unset, .unset] [(.int (((8 : Int32) * (8 : Int32)) - (1 : Int32))), (.long (1 : Int64))])) _
        refine XS.lshl X26.here hx rfl (hb hby at_66) rfl ?_
        show Steps p.tables e below (T26.setTop (mkF m 67 #[.val (.int x1), .val (.int ((x1 &&& (2147483647 : Int32)) % (3 : Int32))), .val (.ref st_DATA_64BIT), .val (.long (9223372036854775807 : Int64)), .second, .val (.long (own_lo (8 : Int32))), .second, .val (.int (8 : Int32)), .unset, .unset] [(.long ((1 : Int64) <<< ((((8 : Int32) * (8 : Int32)) - (1 : Int32)) &&& 0x3f).toInt64))])) _
        refine XS.lconst X26.here hx rfl (hb hby at_67) ?_
        show Steps p.tables e below (T26.setTop (mkF m 68 #[.val (.int x1), .val (.int ((x1 &&& (2147483647 : Int32)) % (3 : Int32))), .val (.ref st_DATA_64BIT), .val (.long (9223372036854775807 : Int64)), .second, .val (.long (own_lo (8 : Int32))), .second, .val (.int (8 : Int32)), .unset, .unset] [(.long (1 : Int64)), (.long ((1 : Int64) <<< ((((8 : Int32) * (8 : Int32)) - (1 : Int32)) &&& 0x3f).toInt64))])) _
        refine XS.lsub X26.here hx rfl (hb hby at_68) rfl ?_
        show Steps p.tables e below (T26.setTop (mkF m 69 #[.val (.int x1), .val (.int ((x1 &&& (2147483647 : Int32)) % (3 : Int32))), .val (.ref st_DATA_64BIT), .val (.long (9223372036854775807 : Int64)), .second, .val (.long (own_lo (8 : Int32))), .second, .val (.int (8 : Int32)), .unset, .unset] [(.long (((1 : Int64) <<< ((((8 : Int32) * (8 : Int32)) - (1 : Int32)) &&& 0x3f).toInt64) - (1 : Int64)))])) _
        refine XS.lstore X26.here hx rfl (hb hby at_69) rfl (l' := #[.val (.int x1), .val (.int ((x1 &&& (2147483647 : Int32)) % (3 : Int32))), .val (.ref st_DATA_64BIT), .val (.long (9223372036854775807 : Int64)), .second, .val (.long (own_lo (8 : Int32))), .second, .val (.int (8 : Int32)), .val (.long (((1 : Int64) <<< ((((8 : Int32) * (8 : Int32)) - (1 : Int32)) &&& 0x3f).toInt64) - (1 : Int64))), .second]) rfl ?_
        show Steps p.tables e below (T26.setTop (mkF m 71 #[.val (.int x1), .val (.int ((x1 &&& (2147483647 : Int32)) % (3 : Int32))), .val (.ref st_DATA_64BIT), .val (.long (9223372036854775807 : Int64)), .second, .val (.long (own_lo (8 : Int32))), .second, .val (.int (8 : Int32)), .val (.long (((1 : Int64) <<< ((((8 : Int32) * (8 : Int32)) - (1 : Int32)) &&& 0x3f).toInt64) - (1 : Int64))), .second] [])) _
        refine XS.lload X26.here hx rfl (hb hby at_71) rfl ?_
        show Steps p.tables e below (T26.setTop (mkF m 73 #[.val (.int x1), .val (.int ((x1 &&& (2147483647 : Int32)) % (3 : Int32))), .val (.ref st_DATA_64BIT), .val (.long (9223372036854775807 : Int64)), .second, .val (.long (own_lo (8 : Int32))), .second, .val (.int (8 : Int32)), .val (.long (((1 : Int64) <<< ((((8 : Int32) * (8 : Int32)) - (1 : Int32)) &&& 0x3f).toInt64) - (1 : Int64))), .second] [(.long (own_lo (8 : Int32)))])) _
        refine XS.lloadN X26.here hx rfl (hb hby at_73) rfl ?_
        show Steps p.tables e below (T26.setTop (mkF m 74 #[.val (.int x1), .val (.int ((x1 &&& (2147483647 : Int32)) % (3 : Int32))), .val (.ref st_DATA_64BIT), .val (.long (9223372036854775807 : Int64)), .second, .val (.long (own_lo (8 : Int32))), .second, .val (.int (8 : Int32)), .val (.long (((1 : Int64) <<< ((((8 : Int32) * (8 : Int32)) - (1 : Int32)) &&& 0x3f).toInt64) - (1 : Int64))), .second] [(.long (9223372036854775807 : Int64)), (.long (own_lo (8 : Int32)))])) _
        refine XS.lcmp X26.here hx rfl (hb hby at_74) rfl ?_
        show Steps p.tables e below (T26.setTop (mkF m 75 #[.val (.int x1), .val (.int ((x1 &&& (2147483647 : Int32)) % (3 : Int32))), .val (.ref st_DATA_64BIT), .val (.long (9223372036854775807 : Int64)), .second, .val (.long (own_lo (8 : Int32))), .second, .val (.int (8 : Int32)), .val (.long (((1 : Int64) <<< ((((8 : Int32) * (8 : Int32)) - (1 : Int32)) &&& 0x3f).toInt64) - (1 : Int64))), .second] [(.int (lcmpW (own_lo (8 : Int32)) (9223372036854775807 : Int64)))])) _
        refine XS.ifNo X26.here hx rfl (hb hby at_75) rfl ((if0 _ _).trans (teq (by decide +kernel : (lcmpW (own_lo (8 : Int32)) (9223372036854775807 : Int64)) = (0 : Int32))).2) ?_
        show Steps p.tables e below (T26.setTop (mkF m 78 #[.val (.int x1), .val (.int ((x1 &&& (2147483647 : Int32)) % (3 : Int32))), .val (.ref st_DATA_64BIT), .val (.long (9223372036854775807 : Int64)), .second, .val (.long (own_lo (8 : Int32))), .second, .val (.int (8 : Int32)), .val (.long (((1 : Int64) <<< ((((8 : Int32) * (8 : Int32)) - (1 : Int32)) &&& 0x3f).toInt64) - (1 : Int64))), .second] [])) _
        refine XS.lload X26.here hx rfl (hb hby at_78) rfl ?_
        show Steps p.tables e below (T26.setTop (mkF m 80 #[.val (.int x1), .val (.int ((x1 &&& (2147483647 : Int32)) % (3 : Int32))), .val (.ref st_DATA_64BIT), .val (.long (9223372036854775807 : Int64)), .second, .val (.long (own_lo (8 : Int32))), .second, .val (.int (8 : Int32)), .val (.long (((1 : Int64) <<< ((((8 : Int32) * (8 : Int32)) - (1 : Int32)) &&& 0x3f).toInt64) - (1 : Int64))), .second] [(.long (own_lo (8 : Int32)))])) _
        refine XS.lload X26.here hx rfl (hb hby at_80) rfl ?_
        show Steps p.tables e below (T26.setTop (mkF m 82 #[.val (.int x1), .val (.int ((x1 &&& (2147483647 : Int32)) % (3 : Int32))), .val (.ref st_DATA_64BIT), .val (.long (9223372036854775807 : Int64)), .second, .val (.long (own_lo (8 : Int32))), .second, .val (.int (8 : Int32)), .val (.long (((1 : Int64) <<< ((((8 : Int32) * (8 : Int32)) - (1 : Int32)) &&& 0x3f).toInt64) - (1 : Int64))), .second] [(.long (((1 : Int64) <<< ((((8 : Int32) * (8 : Int32)) - (1 : Int32)) &&& 0x3f).toInt64) - (1 : Int64))), (.long (own_lo (8 : Int32)))])) _
        refine XS.lcmp X26.here hx rfl (hb hby at_82) rfl ?_
        show Steps p.tables e below (T26.setTop (mkF m 83 #[.val (.int x1), .val (.int ((x1 &&& (2147483647 : Int32)) % (3 : Int32))), .val (.ref st_DATA_64BIT), .val (.long (9223372036854775807 : Int64)), .second, .val (.long (own_lo (8 : Int32))), .second, .val (.int (8 : Int32)), .val (.long (((1 : Int64) <<< ((((8 : Int32) * (8 : Int32)) - (1 : Int32)) &&& 0x3f).toInt64) - (1 : Int64))), .second] [(.int (lcmpW (own_lo (8 : Int32)) (((1 : Int64) <<< ((((8 : Int32) * (8 : Int32)) - (1 : Int32)) &&& 0x3f).toInt64) - (1 : Int64))))])) _
        refine XS.ifNo X26.here hx rfl (hb hby at_83) rfl ((if0 _ _).trans (teq (by decide +kernel : (lcmpW (own_lo (8 : Int32)) (((1 : Int64) <<< ((((8 : Int32) * (8 : Int32)) - (1 : Int32)) &&& 0x3f).toInt64) - (1 : Int64))) = (0 : Int32))).2) ?_
        show Steps p.tables e below (T26.setTop (mkF m 86 #[.val (.int x1), .val (.int ((x1 &&& (2147483647 : Int32)) % (3 : Int32))), .val (.ref st_DATA_64BIT), .val (.long (9223372036854775807 : Int64)), .second, .val (.long (own_lo (8 : Int32))), .second, .val (.int (8 : Int32)), .val (.long (((1 : Int64) <<< ((((8 : Int32) * (8 : Int32)) - (1 : Int32)) &&& 0x3f).toInt64) - (1 : Int64))), .second] [])) _
        refine XS.lload X26.here hx rfl (hb hby at_86) rfl ?_
        show Steps p.tables e below (T26.setTop (mkF m 88 #[.val (.int x1), .val (.int ((x1 &&& (2147483647 : Int32)) % (3 : Int32))), .val (.ref st_DATA_64BIT), .val (.long (9223372036854775807 : Int64)), .second, .val (.long (own_lo (8 : Int32))), .second, .val (.int (8 : Int32)), .val (.long (((1 : Int64) <<< ((((8 : Int32) * (8 : Int32)) - (1 : Int32)) &&& 0x3f).toInt64) - (1 : Int64))), .second] [(.long (own_lo (8 : Int32)))])) _
        refine XS.aloadN X26.here hx rfl (hb hby at_88) rfl rfl ?_
        show Steps p.tables e below (T26.setTop (mkF m 89 #[.val (.int x1), .val (.int ((x1 &&& (2147483647 : Int32)) % (3 : Int32))), .val (.ref st_DATA_64BIT), .val (.long (9223372036854775807 : Int64)), .second, .val (.long (own_lo (8 : Int32))), .second, .val (.int (8 : Int32)), .val (.long (((1 : Int64) <<< ((((8 : Int32) * (8 : Int32)) - (1 : Int32)) &&& 0x3f).toInt64) - (1 : Int64))), .second] [(.ref st_DATA_64BIT), (.long (own_lo (8 : Int32)))])) _
        refine st27.trans ?_
        show Steps p.tables e below (T27.setTop (mkF m 92 #[.val (.int x1), .val (.int ((x1 &&& (2147483647 : Int32)) % (3 : Int32))), .val (.ref st_DATA_64BIT), .val (.long (9223372036854775807 : Int64)), .second, .val (.long (own_lo (8 : Int32))), .second, .val (.int (8 : Int32)), .val (.long (((1 : Int64) <<< ((((8 : Int32) * (8 : Int32)) - (1 : Int32)) &&& 0x3f).toInt64) - (1 : Int64))), .second] [(.long (9223372036854775804 : Int64)), (.long (own_lo (8 : Int32)))])) _
        refine XS.lcmp X27.here hx rfl (hb hby at_92) rfl ?_
        show Steps p.tables e below (T27.setTop (mkF m 93 #[.val (.int x1), .val (.int ((x1 &&& (2147483647 : Int32)) % (3 : Int32))), .val (.ref st_DATA_64BIT), .val (.long (9223372036854775807 : Int64)), .second, .val (.long (own_lo (8 : Int32))), .second, .val (.int (8 : Int32)), .val (.long (((1 : Int64) <<< ((((8 : Int32) * (8 : Int32)) - (1 : Int32)) &&& 0x3f).toInt64) - (1 : Int64))), .second] [(.int (lcmpW (own_lo (8 : Int32)) (9223372036854775804 : Int64)))])) _
        refine XS.ifNo X27.here hx rfl (hb hby at_93) rfl ((if0 _ _).trans (flt (by decide +kernel : ¬ ((lcmpW (own_lo (8 : Int32)) (9223372036854775804 : Int64)) < (0 : Int32)))).1) ?_
        show Steps p.tables e below (T27.setTop (mkF m 96 #[.val (.int x1), .val (.int ((x1 &&& (2147483647 : Int32)) % (3 : Int32))), .val (.ref st_DATA_64BIT), .val (.long (9223372036854775807 : Int64)), .second, .val (.long (own_lo (8 : Int32))), .second, .val (.int (8 : Int32)), .val (.long (((1 : Int64) <<< ((((8 : Int32) * (8 : Int32)) - (1 : Int32)) &&& 0x3f).toInt64) - (1 : Int64))), .second] [])) _
        refine XS.iconst X27.here hx rfl (hb hby at_96) ?_
        show Steps p.tables e below (T27.setTop (mkF m 97 #[.val (.int x1), .val (.int ((x1 &&& (2147483647 : Int32)) % (3 : Int32))), .val (.ref st_DATA_64BIT), .val (.long (9223372036854775807 : Int64)), .second, .val (.long (own_lo (8 : Int32))), .second, .val (.int (8 : Int32)), .val (.long (((1 : Int64) <<< ((((8 : Int32) * (8 : Int32)) - (1 : Int32)) &&& 0x3f).toInt64) - (1 : Int64))), .second] [(.int (1 : Int32))])) _
        refine XS.goto X27.here hx rfl (pc0 := 97) (pc' := 101) rfl (hb hby at_97) (by decide) (by decide) ?_
        show Steps p.tables e below (T27.setTop (mkF m 101 #[.val (.int x1), .val (.int ((x1 &&& (2147483647 : Int32)) % (3 : Int32))), .val (.ref st_DATA_64BIT), .val (.long (9223372036854775807 : Int64)), .second, .val (.long (own_lo (8 : Int32))), .second, .val (.int (8 : Int32)), .val (.long (((1 : Int64) <<< ((((8 : Int32) * (8 : Int32)) - (1 : Int32)) &&& 0x3f).toInt64) - (1 : Int64))), .second] [(.int (1 : Int32))])) _
        exact retN X27 hx (t := .boolean) Bd.returns (by simp) (hb hby at_101) hr
      · show Q0 Z x1 st_CLASSIC st_OFFSET_64BIT st_DATA_64BIT h0 n0 _ T27.heap _
        rw [eh27]
        exact ⟨rfl, N27, rfl⟩
set_option maxRecDepth 65536 in
set_option maxHeartbeats 40000000 in
theorem comes_1 {Post : Tables → Env → Array Value → State → Outcome → State → Prop} (hpost : ∀ tb e args s v u, (limb_1_1.after args s (.returned v) u = true ∧ limb_1_2.after args s (.returned v) u = true ∧ True) → FrameEnd s (.returned v) u (Jvm.fieldLocs frame_1_writes args s ++ Jvm.arrayLocs frame_1_arrays args s ++ Jvm.staticLocs frame_1_statics s) 0 0 → Post tb e args s (.returned v) u) :
    ArmFor flags0 classFile x code maxLocals ret World_1 tables_1 room_1 Calls_1 rest_1 Pre_1 Post := by
  intro l hfl _ _ p e ha hc hk s m args below hf hA hF happ hP
  obtain ⟨hcalls, hrest, hpre⟩ := hP
  obtain ⟨-, -, -, hnamed, -, -, -, hat⟩ := (Spec.applies_iff hf).mp happ
  obtain ⟨hg, hn⟩ := and_e (Cond.before_iff.mp (show (Jvm.Cond.and given_1 narrow_1).before args s = true from hpre))
  obtain ⟨gg1, gg2⟩ := and_e hg
  obtain ⟨gg3, gg4⟩ := and_e hn
  obtain ⟨gg5, gg6⟩ := and_e gg4
  obtain ⟨gg7, gg8⟩ := and_e gg6
  obtain ⟨gg9, gg10⟩ := and_e gg8
  obtain ⟨gg11, gg12⟩ := and_e gg10
  obtain ⟨gg13, gg14⟩ := and_e gg12
  obtain ⟨gg15, gg16⟩ := and_e gg14
  obtain ⟨gg17, gg18⟩ := and_e gg16
  obtain ⟨w0, rfl⟩ : ∃ w0 : Value, args = #[w0] := by
    have hs : args.size = 1 := by simpa [Cond.value, given_1] using gg1
    obtain ⟨L⟩ := args
    match L, hs with
    | [w0], _ => exact ⟨w0, rfl⟩
  have hw := fun d (hd : d ∈ tables_1) => atoms_spec (ws := Jvm.Cond.code x code maxLocals ret :: tables_1) hat d (List.mem_cons_of_mem _ hd)
  have hfit : Fit s := fun {y c} hc i hi => by
    obtain ⟨ha, rfl⟩ := Array.getElem?_eq_some_iff.mp hc
    have q := List.all_eq_true.mp ((Array.all_eq_true_iff_forall_mem.mp hF) _ (Array.getElem_mem ha)) i (List.mem_range.mpr hi)
    simpa [Array.getElem?_eq_getElem hi] using q
  obtain ⟨i0, ei0⟩ := is_v gg2
  obtain rfl : w0 = (.int i0) := Option.some.inj ei0
  obtain ⟨st_CLASSIC, ev_st_CLASSIC⟩ := exa_v gg3
  have S_CLASSIC : Sta s s.heap "com/example/tidecell/tidecell/netcdf/NetcdfFormat" "CLASSIC" "Lcom/example/tidecell/tidecell/netcdf/NetcdfFormat;" (.ref st_CLASSIC) := Sta.start ev_st_CLASSIC (Or.inr ⟨hw _ (List.mem_of_getElem? (i := 2) rfl), hw _ (List.mem_of_getElem? (i := 3) rfl)⟩)
  have EZ_st_CLASSIC : Exa s s.heap st_CLASSIC "com/example/tidecell/tidecell/netcdf/NetcdfFormat" := Exa.start ev_st_CLASSIC gg3
  have FZ_st_CLASSIC_offsetLength : Fld s s.heap st_CLASSIC "com/example/tidecell/tidecell/netcdf/NetcdfFormat" "offsetLength" "I" (.int (4 : Int32)) := Fld.start ((fld_at ev_st_CLASSIC).symm.trans (own_eqI gg5))
  have FZ_st_CLASSIC_largestVariable : Fld s s.heap st_CLASSIC "com/example/tidecell/tidecell/netcdf/NetcdfFormat" "largestVariable" "J" (.long (2147483644 : Int64)) := Fld.start ((fld_at ev_st_CLASSIC).symm.trans (own_eqL gg7))
  obtain ⟨st_DATA_64BIT, ev_st_DATA_64BIT⟩ := exa_v gg9
  have S_DATA_64BIT : Sta s s.heap "com/example/tidecell/tidecell/netcdf/NetcdfFormat" "DATA_64BIT" "Lcom/example/tidecell/tidecell/netcdf/NetcdfFormat;" (.ref st_DATA_64BIT) := Sta.start ev_st_DATA_64BIT (Or.inr ⟨hw _ (List.mem_of_getElem? (i := 2) rfl), hw _ (List.mem_of_getElem? (i := 26) rfl)⟩)
  have EZ_st_DATA_64BIT : Exa s s.heap st_DATA_64BIT "com/example/tidecell/tidecell/netcdf/NetcdfFormat" := Exa.start ev_st_DATA_64BIT gg9
  have FZ_st_DATA_64BIT_offsetLength : Fld s s.heap st_DATA_64BIT "com/example/tidecell/tidecell/netcdf/NetcdfFormat" "offsetLength" "I" (.int (8 : Int32)) := Fld.start ((fld_at ev_st_DATA_64BIT).symm.trans (own_eqI gg11))
  have FZ_st_DATA_64BIT_largestVariable : Fld s s.heap st_DATA_64BIT "com/example/tidecell/tidecell/netcdf/NetcdfFormat" "largestVariable" "J" (.long (9223372036854775804 : Int64)) := Fld.start ((fld_at ev_st_DATA_64BIT).symm.trans (own_eqL gg13))
  obtain ⟨st_OFFSET_64BIT, ev_st_OFFSET_64BIT⟩ := exa_v gg15
  have S_OFFSET_64BIT : Sta s s.heap "com/example/tidecell/tidecell/netcdf/NetcdfFormat" "OFFSET_64BIT" "Lcom/example/tidecell/tidecell/netcdf/NetcdfFormat;" (.ref st_OFFSET_64BIT) := Sta.start ev_st_OFFSET_64BIT (Or.inr ⟨hw _ (List.mem_of_getElem? (i := 2) rfl), hw _ (List.mem_of_getElem? (i := 30) rfl)⟩)
  have EZ_st_OFFSET_64BIT : Exa s s.heap st_OFFSET_64BIT "com/example/tidecell/tidecell/netcdf/NetcdfFormat" := Exa.start ev_st_OFFSET_64BIT gg15
  have FZ_st_OFFSET_64BIT_offsetLength : Fld s s.heap st_OFFSET_64BIT "com/example/tidecell/tidecell/netcdf/NetcdfFormat" "offsetLength" "I" (.int (8 : Int32)) := Fld.start ((fld_at ev_st_OFFSET_64BIT).symm.trans (own_eqI gg17))
  have FZ_st_OFFSET_64BIT_largestVariable : Fld s s.heap st_OFFSET_64BIT "com/example/tidecell/tidecell/netcdf/NetcdfFormat" "largestVariable" "J" (.long (4294967292 : Int64)) := Fld.start ((fld_at ev_st_OFFSET_64BIT).symm.trans (own_eqL gg18))
  obtain ⟨n, o, h1, h2, h3, _, L, rfl, ⟨rfl, N, -⟩, hq⟩ := rm0 l s _ hw tables_1 i0 st_CLASSIC st_OFFSET_64BIT st_DATA_64BIT s.heap s.heap.size (Nat.le_refl _) (Old.start s) S_CLASSIC EZ_st_CLASSIC FZ_st_CLASSIC_offsetLength FZ_st_CLASSIC_largestVariable S_OFFSET_64BIT EZ_st_OFFSET_64BIT FZ_st_OFFSET_64BIT_offsetLength FZ_st_OFFSET_64BIT_largestVariable S_DATA_64BIT EZ_st_DATA_64BIT FZ_st_DATA_64BIT_offsetLength FZ_st_DATA_64BIT_largestVariable p e ha hc hk s m _ below hf ((Spec.applies_iff_loose hf).mp happ).1 ⟨rfl, State.Warmed39.refl s, rfl⟩ trivial
  refine ⟨n, _, h1, h2, h3, hpost _ _ _ _ _ _ ⟨Cond.after_iff.mpr rfl, Cond.after_iff.mpr (eq_i res_at (Term.int_eval (1)) rfl), trivial⟩ ⟨hq.1, hq.2.1, (hq.2.2.sift fun y hy => Or.inr (N y hy)).mono (by decide) (by decide)⟩⟩
theorem main_1_1 : Claimed_1_1 := comes_1 fun _ _ _ _ _ _ h hF => ⟨h.1, hF⟩
theorem main_1_2 : Claimed_1_2 := comes_1 fun _ _ _ _ _ _ h hF => ⟨h.2.1, hF⟩
end Jvm.Pilot.@@N@@
namespace Jvm.Pilot.@@N@@
open Jvm Jvm.ClassFile Sem Op Lib Jvm.Free Jvm.Stand Jvm.Pilot.@@N@@.Jvm.D
/-! MADE BY PROGRAM (witnessworld.py) out of the Statement's table words and the real class files: 12 classes; the members and pool entries that the words name. The judged class is class 1, her method 1. -/
namespace start1
open Jvm.ClassFile
def u (s : String) : CpInfo := .utf8 (stringToUtf16 s)
/-- a pool by its gaps: so many unusable entries, then the entry; so many at the end -/
def gap : Nat → List CpInfo → List CpInfo
  | 0, r => r
  | n + 1, r => .unusable :: gap n r
def poolList (es : List (Nat × CpInfo)) (last : Nat) : List CpInfo := es.foldr (fun e r => gap e.1 (e.2 :: r)) (gap last [])
def pool (es : List (Nat × CpInfo)) (last : Nat) : Array CpInfo := ⟨poolList es last⟩
def fileOf (pool : Array CpInfo) (this : Nat) (attrs : Array Attribute := #[]) (ms : Array MethodInfo := #[]) (fl : Nat := 33) (sup : Nat := 0) (ifs : Array Nat := #[]) (fds : Array FieldInfo := #[]) : ClassFile where
  minorVersion := 0
  majorVersion := 65
  constantPool := pool
  accessFlags := fl
  thisClass := this
  superClass := sup
  interfaces := ifs
  fields := fds
  methods := ms
  attributes := attrs
def plain (name : String) (sup : Option ClassId) : Class where
  name := name
  kind := .ordinary
  loader := none
  accessFlags := 33
  super := sup
  interfaces := #[]
  cf := none
  fields := #[]
  methods := #[]
  instanceTypes := #[]
  staticTypes := #[]
  resolved := #[]
  callSites := []
  init := .initialized
  statics := none
  mirror := none

def pool0 : Array CpInfo := pool [(5, u "<init>"), (0, u "()V"), (1, .class_ 10), (1, u "java/lang/Object")] 113

def k0m0 : Method := { name := "<init>", desc := "()V", sig := { parameters := [], returnType := none }, accessFlags := 1, code := none }
/-- java/lang/Object -/
def k0 : Class := { plain "java/lang/Object" none with
  accessFlags := 33
  interfaces := #[]
  cf := some (fileOf pool0 8 #[] #[{ accessFlags := 1, nameIndex := 5, descriptorIndex := 6, attributes := #[] }] 33 0 #[] #[])
  fields := #[]
  methods := #[k0m0]
  instanceTypes := #[]
  staticTypes := #[]
  resolved := Array.replicate 124 none
  statics := none }

def pool1 : Array CpInfo := pool [(2, .class_ 4), (1, u "java/lang/Object"), (0, u "<init>"), (0, u "()V"), (0, .integer 2147483647), (0, .fieldref 9 10), (0, .class_ 11), (0, .nameAndType 12 13), (0, u "com/example/tidecell/tidecell/netcdf/NetcdfFormat"), (0, u "CLASSIC"), (0, u "Lcom/example/tidecell/tidecell/netcdf/NetcdfFormat;"), (0, .fieldref 9 15), (0, .nameAndType 16 13), (0, u "OFFSET_64BIT"), (0, .fieldref 9 18), (0, .nameAndType 19 13), (0, u "DATA_64BIT"), (0, .long 2147483647), (1, .long 9223372036854775807), (1, .methodref 9 25), (0, .nameAndType 26 27), (0, u "largestOffset"), (0, u "()J"), (0, .methodref 9 29), (0, .nameAndType 30 31), (0, u "offsetLength"), (0, u "()I"), (0, .methodref 9 33), (0, .nameAndType 34 27), (0, u "largestVariable"), (0, .class_ 36), (0, u "com/example/tidecell/tidecell/netcdf/NetcdfFormatLargestOffsetPinLaw"), (2, u "law"), (0, u "(I)Z")] 3

def k1m0 : Method := { name := "<init>", desc := "()V", sig := { parameters := [], returnType := none }, accessFlags := 1, code := none }
def k1c1 : Code := { maxStack := 4, maxLocals := 10, code := code, exceptionTable := #[], attributes := #[] }
def k1m1 : Method := { name := "law", desc := "(I)Z", sig := { parameters := [.int], returnType := some .boolean }, accessFlags := 9, code := some k1c1 }
/-- com/example/tidecell/tidecell/netcdf/NetcdfFormatLargestOffsetPinLaw -/
def k1 : Class := { plain "com/example/tidecell/tidecell/netcdf/NetcdfFormatLargestOffsetPinLaw" (some 0) with
  accessFlags := 49
  interfaces := #[]
  cf := some (fileOf pool1 35 #[] #[{ accessFlags := 1, nameIndex := 5, descriptorIndex := 6, attributes := #[] }, { accessFlags := 9, nameIndex := 39, descriptorIndex := 40, attributes := #[] }] 49 2 #[] #[])
  fields := #[]
  methods := #[k1m0, k1m1]
  instanceTypes := #[]
  staticTypes := #[]
  resolved := Array.replicate 44 none
  statics := none }

def pool2 : Array CpInfo := pool [(1, .class_ 2), (0, u "java/lang/constant/Constable"), (0, .class_ 4), (0, u "java/lang/Object")] 6

/-- java/lang/constant/Constable -/
def k2 : Class := { plain "java/lang/constant/Constable" (some 0) with
  accessFlags := 1537
  interfaces := #[]
  cf := some (fileOf pool2 1 #[] #[] 1537 3 #[] #[])
  fields := #[]
  methods := #[]
  instanceTypes := #[]
  staticTypes := #[]
  resolved := Array.replicate 11 none
  statics := none }

def pool3 : Array CpInfo := pool [(1, .class_ 2), (0, u "java/lang/Comparable"), (0, .class_ 4), (0, u "java/lang/Object")] 7

/-- java/lang/Comparable -/
def k3 : Class := { plain "java/lang/Comparable" (some 0) with
  accessFlags := 1537
  interfaces := #[]
  cf := some (fileOf pool3 1 #[] #[] 1537 3 #[] #[])
  fields := #[]
  methods := #[]
  instanceTypes := #[]
  staticTypes := #[]
  resolved := Array.replicate 12 none
  statics := none }

def pool4 : Array CpInfo := pool [(1, .class_ 2), (0, u "java/io/Serializable"), (0, .class_ 4), (0, u "java/lang/Object")] 2

/-- java/io/Serializable -/
def k4 : Class := { plain "java/io/Serializable" (some 0) with
  accessFlags := 1537
  interfaces := #[]
  cf := some (fileOf pool4 1 #[] #[] 1537 3 #[] #[])
  fields := #[]
  methods := #[]
  instanceTypes := #[]
  staticTypes := #[]
  resolved := Array.replicate 7 none
  statics := none }

def pool5 : Array CpInfo := pool [(2, .class_ 4), (1, u "java/lang/Enum"), (0, u "name"), (0, u "Ljava/lang/String;"), (2, u "ordinal"), (0, u "I"), (1, .class_ 14), (1, u "java/lang/Object"), (4, u "hash"), (86, .class_ 108), (1, u "java/lang/Enum$EnumDesc"), (2, .class_ 112), (0, u "java/lang/constant/Constable"), (0, .class_ 114), (0, u "java/lang/Comparable"), (0, .class_ 116), (0, u "java/io/Serializable")] 87

/-- java/lang/Enum -/
def k5 : Class := { plain "java/lang/Enum" (some 0) with
  accessFlags := 1057
  interfaces := #[2, 3, 4]
  cf := some (fileOf pool5 2 #[.nestMembers #[106]] #[] 1057 12 #[111, 113, 115] #[{ accessFlags := 18, nameIndex := 5, descriptorIndex := 6, attributes := #[] }, { accessFlags := 18, nameIndex := 9, descriptorIndex := 10, attributes := #[] }, { accessFlags := 2, nameIndex := 19, descriptorIndex := 10, attributes := #[] }])
  fields := #[{ name := "name", type := (.object "java/lang/String"), accessFlags := 18, slot := 0, constantValue := 0 }, { name := "ordinal", type := .int, accessFlags := 18, slot := 1, constantValue := 0 }, { name := "hash", type := .int, accessFlags := 2, slot := 2, constantValue := 0 }]
  methods := #[]
  instanceTypes := #[(.object "java/lang/String"), .int, .int]
  staticTypes := #[]
  resolved := Array.replicate 204 none
  statics := none }

def pool6 : Array CpInfo := pool [(1, .class_ 2), (0, u "com/example/tidecell/tidecell/netcdf/NetcdfFormat"), (2, u "CLASSIC"), (0, u "Lcom/example/tidecell/tidecell/netcdf/NetcdfFormat;"), (2, u "OFFSET_64BIT"), (2, u "DATA_64BIT"), (2, u "$VALUES"), (0, u "[Lcom/example/tidecell/tidecell/netcdf/NetcdfFormat;"), (6, .class_ 25), (1, u "java/lang/Enum"), (8, u "versionByte"), (0, u "B"), (2, u "sizeLength"), (0, u "I"), (0, .fieldref 1 41), (0, .nameAndType 42 39), (0, u "offsetLength"), (0, .fieldref 1 44), (0, .nameAndType 45 46), (0, u "largestVariable"), (0, u "J"), (2, u "title"), (0, u "Ljava/lang/String;"), (2, u "SIGNATURE"), (0, u "[B"), (14, .long 2147483647), (3, .long 9223372036854775807), (84, u "DIMENSION_TAG"), (2, u "VARIABLE_TAG"), (1, u "ATTRIBUTE_TAG"), (7, u "()I"), (0, u "()J"), (3, u "largestOffset")] 42

def k6c0 : Code := { maxStack := 1, maxLocals := 1, code := prog_41_method_6_code, exceptionTable := #[], attributes := #[] }
def k6m0 : Method := { name := "offsetLength", desc := "()I", sig := { parameters := [], returnType := some .int }, accessFlags := 0, code := some k6c0 }
def k6c1 : Code := { maxStack := 2, maxLocals := 1, code := prog_41_method_7_code, exceptionTable := #[], attributes := #[] }
def k6m1 : Method := { name := "largestVariable", desc := "()J", sig := { parameters := [], returnType := some .long }, accessFlags := 0, code := some k6c1 }
def k6c2 : Code := { maxStack := 2, maxLocals := 1, code := prog_41_method_9_code, exceptionTable := #[], attributes := #[] }
def k6m2 : Method := { name := "largestOffset", desc := "()J", sig := { parameters := [], returnType := some .long }, accessFlags := 0, code := some k6c2 }
/-- com/example/tidecell/tidecell/netcdf/NetcdfFormat -/
def k6 : Class := { plain "com/example/tidecell/tidecell/netcdf/NetcdfFormat" (some 5) with
  accessFlags := 16433
  interfaces := #[]
  cf := some (fileOf pool6 1 #[] #[{ accessFlags := 0, nameIndex := 42, descriptorIndex := 171, attributes := #[] }, { accessFlags := 0, nameIndex := 45, descriptorIndex := 172, attributes := #[] }, { accessFlags := 0, nameIndex := 176, descriptorIndex := 172, attributes := #[] }] 16433 23 #[] #[{ accessFlags := 16409, nameIndex := 5, descriptorIndex := 6, attributes := #[] }, { accessFlags := 16409, nameIndex := 9, descriptorIndex := 6, attributes := #[] }, { accessFlags := 16409, nameIndex := 12, descriptorIndex := 6, attributes := #[] }, { accessFlags := 24, nameIndex := 158, descriptorIndex := 39, attributes := #[] }, { accessFlags := 24, nameIndex := 161, descriptorIndex := 39, attributes := #[] }, { accessFlags := 24, nameIndex := 163, descriptorIndex := 39, attributes := #[] }, { accessFlags := 26, nameIndex := 53, descriptorIndex := 54, attributes := #[] }, { accessFlags := 18, nameIndex := 34, descriptorIndex := 35, attributes := #[] }, { accessFlags := 18, nameIndex := 38, descriptorIndex := 39, attributes := #[] }, { accessFlags := 18, nameIndex := 42, descriptorIndex := 39, attributes := #[] }, { accessFlags := 18, nameIndex := 45, descriptorIndex := 46, attributes := #[] }, { accessFlags := 18, nameIndex := 49, descriptorIndex := 50, attributes := #[] }, { accessFlags := 4122, nameIndex := 15, descriptorIndex := 16, attributes := #[] }])
  fields := #[{ name := "CLASSIC", type := (.object "com/example/tidecell/tidecell/netcdf/NetcdfFormat"), accessFlags := 16409, slot := 0, constantValue := 0 }, { name := "OFFSET_64BIT", type := (.object "com/example/tidecell/tidecell/netcdf/NetcdfFormat"), accessFlags := 16409, slot := 1, constantValue := 0 }, { name := "DATA_64BIT", type := (.object "com/example/tidecell/tidecell/netcdf/NetcdfFormat"), accessFlags := 16409, slot := 2, constantValue := 0 }, { name := "DIMENSION_TAG", type := .int, accessFlags := 24, slot := 3, constantValue := 0 }, { name := "VARIABLE_TAG", type := .int, accessFlags := 24, slot := 4, constantValue := 0 }, { name := "ATTRIBUTE_TAG", type := .int, accessFlags := 24, slot := 5, constantValue := 0 }, { name := "SIGNATURE", type := (.array .byte), accessFlags := 26, slot := 6, constantValue := 0 }, { name := "versionByte", type := .byte, accessFlags := 18, slot := 3, constantValue := 0 }, { name := "sizeLength", type := .int, accessFlags := 18, slot := 4, constantValue := 0 }, { name := "offsetLength", type := .int, accessFlags := 18, slot := 5, constantValue := 0 }, { name := "largestVariable", type := .long, accessFlags := 18, slot := 6, constantValue := 0 }, { name := "title", type := (.object "java/lang/String"), accessFlags := 18, slot := 7, constantValue := 0 }, { name := "$VALUES", type := (.array (.object "com/example/tidecell/tidecell/netcdf/NetcdfFormat")), accessFlags := 4122, slot := 7, constantValue := 0 }]
  methods := #[k6m0, k6m1, k6m2]
  instanceTypes := #[(.object "java/lang/String"), .int, .int, .byte, .int, .int, .long, (.object "java/lang/String")]
  staticTypes := #[(.object "com/example/tidecell/tidecell/netcdf/NetcdfFormat"), (.object "com/example/tidecell/tidecell/netcdf/NetcdfFormat"), (.object "com/example/tidecell/tidecell/netcdf/NetcdfFormat"), .int, .int, .int, (.array .byte), (.array (.object "com/example/tidecell/tidecell/netcdf/NetcdfFormat"))]
  resolved := Array.replicate 219 none
  statics := some 0 }

def pool7 : Array CpInfo := pool [(1, u "java/lang/Cloneable"), (0, .class_ 1), (0, u "java/lang/Object"), (0, .class_ 3)] 3

/-- java/lang/Cloneable -/
def k7 : Class := { plain "java/lang/Cloneable" (some 0) with
  accessFlags := 1537
  interfaces := #[]
  cf := some (fileOf pool7 2 #[] #[] 1537 4 #[] #[])
  fields := #[]
  methods := #[]
  instanceTypes := #[]
  staticTypes := #[]
  resolved := Array.replicate 8 none
  statics := none }

/-- the primitive byte -/
def k8 : Class := { plain "byte" none with kind := .primitive 'B', accessFlags := 0x411 }
/-- [B -/
def k9 : Class := { plain "[B" (some 0) with kind := .array 8 .byte, interfaces := #[7, 4], accessFlags := 1041 }

/-- the primitive int -/
def k10 : Class := { plain "int" none with kind := .primitive 'I', accessFlags := 0x411 }
/-- [I -/
def k11 : Class := { plain "[I" (some 0) with kind := .array 10 .int, interfaces := #[7, 4], accessFlags := 1041 }

def heap : Heap := #[{ cls := 6, slots := #[.ref 1, .ref 2, .ref 3, .int 0, .int 0, .int 0, .null, .null], vm := .statics 6 },
  { cls := 6, slots := #[.null, .int 0, .int 0, .int 0, .int 0, .int 4, .long 2147483644, .null], vm := .none },
  { cls := 6, slots := #[.null, .int 0, .int 0, .int 0, .int 0, .int 8, .long 4294967292, .null], vm := .none },
  { cls := 6, slots := #[.null, .int 0, .int 0, .int 0, .int 0, .int 8, .long 9223372036854775804, .null], vm := .none }]
def classes : Array Class := #[k0, k1, k2, k3, k4, k5, k6, k7, k8, k9, k10, k11]
def interned : List (Array UInt16 × Addr) := []
def slotsUsed : Nat := 32
def theMethod : MethodId := ⟨1, 1⟩
def args0 : Array Value := #[.int 5]
def aboutOver (below : List Frame) : State where
  vm := { classes := classes, interned := interned.toArray }
  heap := heap
  slotsUsed := slotsUsed
  threads := #[{ frames := .invoking theMethod args0 :: below }]
def below0 : List Frame := [.native { method := ⟨0, 0⟩, args := #[] }]
def about1 : State := aboutOver below0
def p0 : Program := .bare "" "" ""
def e0 : Env := launch0.env 0 0 0
theorem w_frames : about1.frames = Frame.invoking theMethod args0 :: below0 := rfl
set_option maxRecDepth 65536 in
theorem w_args : argsFit about1.vm theMethod args0 = true := by decide +kernel
set_option maxRecDepth 65536 in
theorem w_heap : heapFits about1 = true := by decide +kernel
set_option maxRecDepth 65536 in
theorem w_runnable : about1.curStatus? = some .runnable := by decide +kernel
set_option maxRecDepth 65536 in
theorem w_alone : about1.alone = true := by decide +kernel
set_option maxRecDepth 65536 in
theorem w_named : about1.methodNamed? x = some theMethod := by decide +kernel
set_option maxRecDepth 65536 in
theorem w_hears : about1.hears theMethod below0 = true := by decide +kernel
set_option maxRecDepth 65536 in
theorem w_ripe : about1.ripe theMethod args0 below0 = true := by decide +kernel
theorem w_running : about1.status = .running := rfl
set_option maxRecDepth 65536 in
theorem w_room : about1.hasRoom e0.platform room_1 = true :=
  launch0.hasRoom_least _ room_1 (by decide +kernel) (by decide +kernel) (by decide +kernel) (by decide +kernel) (by decide +kernel) (by decide +kernel)
theorem allAtoms_all (ts : List Jvm.Cond) (a : Array Jvm.Value) (st : Jvm.State) : (allAtoms ts).before a st = ts.all (fun c => c.before a st) := by
  induction ts with
  | nil => rfl
  | cons c t ih =>
    show (Jvm.Cond.and c (allAtoms t)).before a st = _
    rw [Jvm.Cond.before_and, ih, List.all_cons]
def words1 : List Jvm.Cond := Jvm.Cond.code x code maxLocals ret :: tables_1
/-- a 'code' word, met by the world's own term for the bytes: nothing is compared byte by byte -/
theorem code_word {y : MethodName} {bytes : ByteArray} {mx : Nat} {rt : Option FieldType} {a : Array Value} {s : State} {m : MethodId} {meth : Method} {c : Code} (h1 : s.methodNamed? y = some m) (h2 : s.vm.method? m = some meth) (h3 : meth.code = some c) (h4 : c.code = bytes)
    (h5 : (c.maxLocals == mx && c.exceptionTable.isEmpty && decide (c.maxStack ≤ mostOperands) && decide (meth.sig.returnType = rt) && !meth.locks && decide (parseMethodDescriptor y.desc = some meth.sig)) = true) : (Jvm.Cond.code y bytes mx rt).before a s = true := by
  simp only [Bool.and_eq_true, beq_iff_eq, Bool.not_eq_true', decide_eq_true_eq] at h5
  obtain ⟨⟨⟨⟨⟨g1, g2⟩, g3⟩, g4⟩, g5⟩, g6⟩ := h5
  simp [Cond.before, Cond.holds, Cond.value, h1, h2, h3, h4, g1, g2, g3, g4, g5, g6]
def isCode : Jvm.Cond → Bool
  | .code _ _ _ _ => true
  | _ => false
theorem all_split {L : List Jvm.Cond} {P : Jvm.Cond → Bool} (h1 : L.all (fun c => isCode c || P c) = true) (h2 : ∀ c ∈ L.filter isCode, P c = true) : L.all P = true := by
  refine List.all_eq_true.mpr fun c hc => ?_
  have h := List.all_eq_true.mp h1 c hc
  rcases Bool.eq_false_or_eq_true (isCode c) with hi | hi
  · exact h2 c (List.mem_filter.mpr ⟨hc, hi⟩)
  · simpa [hi] using h
set_option maxRecDepth 65536 in
theorem w_c0 : (Jvm.Cond.code x code maxLocals ret).before args0 about1 = true := code_word (m := ⟨1, 1⟩) (meth := k1m1) (c := k1c1) (by decide +kernel) rfl rfl rfl (by decide +kernel)
set_option maxRecDepth 65536 in
theorem w_c1 : (Jvm.Cond.code ({ cls := "com/example/tidecell/tidecell/netcdf/NetcdfFormat", name := "largestOffset", desc := "()J" } : Jvm.MethodName) prog_41_method_9_code (1 : Nat) (Option.some Jvm.ClassFile.FieldType.long)).before args0 about1 = true := code_word (m := ⟨6, 2⟩) (meth := k6m2) (c := k6c2) (by decide +kernel) rfl rfl rfl (by decide +kernel)
set_option maxRecDepth 65536 in
theorem w_c2 : (Jvm.Cond.code ({ cls := "com/example/tidecell/tidecell/netcdf/NetcdfFormat", name := "offsetLength", desc := "()I" } : Jvm.MethodName) prog_41_method_6_code (1 : Nat) (Option.some Jvm.ClassFile.FieldType.int)).before args0 about1 = true := code_word (m := ⟨6, 0⟩) (meth := k6m0) (c := k6c0) (by decide +kernel) rfl rfl rfl (by decide +kernel)
set_option maxRecDepth 65536 in
theorem w_c3 : (Jvm.Cond.code ({ cls := "com/example/tidecell/tidecell/netcdf/NetcdfFormat", name := "largestVariable", desc := "()J" } : Jvm.MethodName) prog_41_method_7_code (1 : Nat) (Option.some Jvm.ClassFile.FieldType.long)).before args0 about1 = true := code_word (m := ⟨6, 1⟩) (meth := k6m1) (c := k6c1) (by decide +kernel) rfl rfl rfl (by decide +kernel)
def codes1 : List Jvm.Cond := [Jvm.Cond.code x code maxLocals ret, Jvm.Cond.code ({ cls := "com/example/tidecell/tidecell/netcdf/NetcdfFormat", name := "largestOffset", desc := "()J" } : Jvm.MethodName) prog_41_method_9_code (1 : Nat) (Option.some Jvm.ClassFile.FieldType.long), Jvm.Cond.code ({ cls := "com/example/tidecell/tidecell/netcdf/NetcdfFormat", name := "offsetLength", desc := "()I" } : Jvm.MethodName) prog_41_method_6_code (1 : Nat) (Option.some Jvm.ClassFile.FieldType.int), Jvm.Cond.code ({ cls := "com/example/tidecell/tidecell/netcdf/NetcdfFormat", name := "largestVariable", desc := "()J" } : Jvm.MethodName) prog_41_method_7_code (1 : Nat) (Option.some Jvm.ClassFile.FieldType.long)]
set_option maxRecDepth 65536 in
theorem codes_eq : words1.filter isCode = codes1 := rfl
theorem w_codes : ∀ c ∈ words1.filter isCode, c.before args0 about1 = true := by
  rw [codes_eq]
  intro c hc
  simp only [codes1, List.mem_cons, List.not_mem_nil, or_false] at hc
  rcases hc with rfl | rfl | rfl | rfl
  · exact w_c0
  · exact w_c1
  · exact w_c2
  · exact w_c3
set_option maxRecDepth 65536 in
theorem w_t1 : (words1.take 24).all (fun c => isCode c || c.before args0 about1) = true := by decide +kernel
set_option maxRecDepth 65536 in
theorem w_t2 : (words1.drop 24).all (fun c => isCode c || c.before args0 about1) = true := by decide +kernel
theorem w_tables : (allAtoms (Jvm.Cond.code x code maxLocals ret :: tables_1)).before args0 about1 = true := by
  rw [allAtoms_all]
  show words1.all (fun c => c.before args0 about1) = true
  refine all_split ?_ w_codes
  rw [← List.take_append_drop 24 words1, List.all_append, w_t1, w_t2]
  rfl
set_option maxRecDepth 65536 in
theorem w_case : (Jvm.Cond.and given_1 narrow_1).before args0 about1 = true := by decide +kernel
theorem w_applies : (headSpec (Jvm.Cond.code x code maxLocals ret :: tables_1) room_1).applies x e0.platform about1 = true :=
  (Spec.applies_iff w_frames).mpr ⟨w_running, w_runnable, w_alone, w_named, w_hears, w_ripe, w_room, w_tables⟩
theorem atStart : AtStart classFile x code maxLocals ret World_1 tables_1 room_1 Calls_1 rest_1 Pre_1 launch0 p0 e0 about1 theMethod args0 below0 :=
  ⟨lists_1, trivial, launch0.admits_env _ _ _, launch0.least_env, fairChoices_fair.cas, fairChoices_fair.clock, w_frames, w_args, w_heap, w_applies, trivial, trivial, w_case⟩
end start1
theorem witness_1 : WitnessClaimed_1 := ⟨start1.p0, start1.e0, start1.about1, start1.theMethod, start1.args0, start1.below0, start1.atStart⟩
end Jvm.Pilot.@@N@@
