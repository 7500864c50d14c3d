import JvmDerived
import JvmDerived.Pilot.@@N@@Statement
import JvmDerived.Pilot.@@N@@Code
set_option linter.unusedVariables false
set_option linter.unusedSimpArgs false
namespace Jvm.RoadKit
open Sem ClassFile Op Lib Jvm.Stand Jvm.Free Jvm.LawKit
section New
variable {p : Program} {l : Launch} {e : Env} {R : Room} {s : State} {m : MethodId} {args : Array Value} {below : List Frame} {meth : Method} {c : Code} {T : State} {locs : List Loc} {cells slots : Nat}
theorem retI (X : Stand p l e R s m args below meth c T locs cells slots) (hx : p.tables.exec = Jvm.exec) {pc : Nat} {Ls : Array Slot} {z : Int32} {rest : List Value} (hret : meth.sig.returnType = some .int) (hd : decode c.code pc = .ok (.ireturn, 1)) {fs : List Frame}
    (hl : ∀ (f : JFrame) (acts : List Action), f.method = m → f.locked = none → f.entered = [] → (doReturn e (T.setTop f) acts (some (.int z))).1 = T.setFrames fs) : Steps p.tables e below (T.setTop (mkF m pc Ls (.int z :: rest))) (T.setFrames fs) := by
  have hm' : T.vm.method? m = some meth := X.method'
  have hn : narrow .int (.int z) = .int z := rfl
  show Steps p.tables e below (T.setTop { method := m, pc := pc, locals := Ls, stack := _ :: rest, locked := none }) _
  jvm_step X.here [X.here.top, hx, hd, hm', hret, hn]
  first | (intro acts; rw [hl _ acts rfl rfl rfl]) | rw [hl _ _ rfl rfl rfl]
  exact Steps.refl _
end New
end Jvm.RoadKit
namespace Jvm.Pilot.@@N@@
open Jvm Jvm.ClassFile Sem Op Lib Jvm.Free Jvm.Stand Jvm.LawKit Jvm.RoadKit Bundle Jvm.Pilot.@@N@@.Jvm.D
theorem own_ne {args : Array Value} {s : State} {t1 t2 : Term} {C n d : String} {x1 x2 : Addr} {i j : Int32} (e1 : t1.eval args s none [] s = some (.ref x1)) (e2 : t2.eval args s none [] s = some (.ref x2))
    (h1 : (Cond.eq (Term.field t1 C n d) (Term.int i)).value args s none s [] = some true) (h2 : (Cond.eq (Term.field t2 C n d) (Term.int j)).value args s none s [] = some true) (hij : i ≠ j) : ¬ (x1 = x2) := by
  intro q
  subst q
  have a := eqv_i (Term.int_eval i) h1
  have b := eqv_i (Term.int_eval j) h2
  rw [fld_at e1] at a
  rw [fld_at e2] at b
  exact hij (Value.int.inj (Option.some.inj (a.symm.trans b)))
theorem own_fint {args : Array Value} {s : State} {t : Term} {C n d : String} {x : Addr} {i : Int32} (e : t.eval args s none [] s = some (.ref x)) (h : (Cond.eq (Term.field t C n d) (Term.int i)).value args s none s [] = some true) : Fld s s.heap x C n d (.int i) := by
  have a := eqv_i (Term.int_eval i) h
  rw [fld_at e] at a
  exact Fld.start a
theorem own_fnull {args : Array Value} {s : State} {t : Term} {C n d : String} {x : Addr} (e : t.eval args s none [] s = some (.ref x)) (h : (Cond.eq (Term.field t C n d) Term.null).value args s none s [] = some true) : Fld s s.heap x C n d .null := by
  have a := null_v h
  rw [fld_at e] at a
  exact Fld.start a
theorem own_fref {args : Array Value} {s : State} {t F : Term} {C n d : String} {x y : Addr} (e : t.eval args s none [] s = some (.ref x)) (hF : F.eval args s none [] s = some (.ref y)) (h : (Cond.eq (Term.field t C n d) F).value args s none s [] = some true) : Fld s s.heap x C n d (.ref y) := by
  have a : (Term.field t C n d).eval args s none [] s = some (.ref y) := by
    simp only [Cond.value, hF] at h
    cases hX : (Term.field t C n d).eval args s none [] s with
    | none => simp [hX] at h
    | some w => cases w <;> simp [hX] at h ⊢ <;> exact h
  rw [fld_at e] at a
  exact Fld.start a
theorem d1_0 : decode method_3_code 0 = .ok (.iload_n 0, 1) := by decide +kernel
theorem d1_1 : decode method_3_code 1 = .ok (.ifCond .ne 7, 3) := by decide +kernel
theorem d1_4 : decode method_3_code 4 = .ok (.getstatic 23, 3) := by decide +kernel
theorem wd_4 {Z : State} {a0 : Array Value} (hw : ∀ d ∈ tables_1, d.before a0 Z = true) : ((Jvm.Cond.fieldLink "com/example/lintel/lintel/calendar/FederalHolidayKeptInPinLaw" (23 : Nat) "com/example/lintel/lintel/calendar/FederalHoliday" "NEW_YEARS_DAY" "Lcom/example/lintel/lintel/calendar/FederalHoliday;")).before a0 Z = true := hw _ (List.mem_of_getElem? (i := 4) rfl)
theorem d1_7 : decode method_3_code 7 = .ok (.areturn, 1) := by decide +kernel
theorem pn_com_example_lintel_lintel_calendar_FederalHolidayKeptInPinLaw : plainName "com/example/lintel/lintel/calendar/FederalHolidayKeptInPinLaw" = true := by first | (simp [plainName, overriddenIn]; done) | decide +kernel
theorem ef_1_o0 (m : MethodId) (x0 : Int32) : entryFrame m #[(.int x0)] 1 = mkF m 0 #[.val (.int x0)] [] := by first | (simp [entryFrame, mkF, argsToLocals, Value.category]; done) | rfl
def Q1_o0 (Z : State) (vi0 : Int32) (w_JUNETEENTH : Addr) (w_NEW_YEARS_DAY : Addr) (h0 : Heap) (n0 : Nat) (v : Option Value) (h : Heap) (L : List Loc) : Prop := ∃ w : Addr, v = some (.ref w) ∧ Fr n0 L ∧ h = h0 ∧ Exa Z Z.heap w "com/example/lintel/lintel/calendar/FederalHoliday" ∧ Fld Z Z.heap w "com/example/lintel/lintel/calendar/FederalHoliday" "firstYear" "I" (.int (1986 : Int32)) ∧ ¬ (w = w_JUNETEENTH)
set_option maxRecDepth 65536 in
set_option maxHeartbeats 40000000 in
theorem rm1_o0 (l : Launch) (Z : State) (a0 : Array Value) (hw : ∀ d ∈ tables_1, d.before a0 Z = true) (ws : List Jvm.Cond) (vi0 : Int32) (w_JUNETEENTH : Addr) (w_NEW_YEARS_DAY : Addr) (h0 : Heap) (n0 : Nat) (Z0 : n0 ≤ h0.size) (E_w_NEW_YEARS_DAY : Exa Z Z.heap w_NEW_YEARS_DAY "com/example/lintel/lintel/calendar/FederalHoliday") (F_firstYear_w_NEW_YEARS_DAY : Fld Z Z.heap w_NEW_YEARS_DAY "com/example/lintel/lintel/calendar/FederalHoliday" "firstYear" "I" (.int (1986 : Int32))) (nJ_w_NEW_YEARS_DAY : ¬ (w_NEW_YEARS_DAY = w_JUNETEENTH)) (hc1 : vi0 = (0 : Int32)) (S_NEW_YEARS_DAY : Sta Z Z.heap "com/example/lintel/lintel/calendar/FederalHoliday" "NEW_YEARS_DAY" "Lcom/example/lintel/lintel/calendar/FederalHoliday;" (.ref w_NEW_YEARS_DAY)) (O0 : Old Z n0 h0) :
    MetFree l (⟨"com/example/lintel/lintel/calendar/FederalHolidayKeptInPinLaw", "pick", "(I)Lcom/example/lintel/lintel/calendar/FederalHoliday;"⟩ : MethodName) (head1 (Jvm.Cond.code (⟨"com/example/lintel/lintel/calendar/FederalHolidayKeptInPinLaw", "pick", "(I)Lcom/example/lintel/lintel/calendar/FederalHoliday;"⟩ : MethodName) method_3_code 1 (some (.object "com/example/lintel/lintel/calendar/FederalHoliday")) :: ws) ({ frames := 0, cells := 0, slots := 0, locals := 0 } : Room)) (fun a U => a = #[(.int vi0)] ∧ Z.Warmed39 U.vm ∧ U.heap = h0) (fun _ _ _ _ _ => True) (fun _ U o U' => ∃ v L, o = .returned v ∧ Q1_o0 Z vi0 w_JUNETEENTH w_NEW_YEARS_DAY h0 n0 v U'.heap L ∧ FrameEnd U o U' L ({ frames := 0, cells := 0, slots := 0, locals := 0 } : Room).cells ({ frames := 0, cells := 0, slots := 0, locals := 0 } : Room).slots) := by
  refine MetFree.of_bodySF (plainFor_of_name pn_com_example_lintel_lintel_calendar_FederalHolidayKeptInPinLaw) hisR ?_
  intro p e s m args below meth c s₁ Bd hml0 hP hK
  obtain ⟨rfl, hZ, hh⟩ := hP
  have hx := Bd.exec
  have hby := Bd.bytes
  have hml : c.maxLocals = 1 := hml0
  have hown : s.vm.findClass "com/example/lintel/lintel/calendar/FederalHolidayKeptInPinLaw" = some m.cls := findClass_of_methodNamed Bd.named
  have hnm := (name_of_methodNamed Bd.named Bd.method).1
  have X0 : Stand p l e ({ frames := 0, cells := 0, slots := 0, locals := 0 } : Room) s m #[(.int vi0)] below meth c s₁ [] 0 0 := Stand.of_body Bd
  have e0 : s₁.heap = h0 := by rw [← hh, Bd.state]; rfl
  have N0 := Fr.nil n0
  have pre0 : ∀ t, Steps p.tables e below (s₁.setTop (mkF m 0 #[.val (.int vi0)] [])) t → Steps p.tables e below (s₁.setTop (entryFrame m #[(.int vi0)] 1)) t := fun t k => castTop (ef_1_o0 m vi0) k
  obtain ⟨T1, X1, e1, st1⟩ := getS2 X0 hx hZ hown (host := "") (Or.inl (wd_4 hw)) Via.refl e0 (S_NEW_YEARS_DAY.ext O0.2) (g := (mkF m 4 #[.val (.int vi0)] [])) rfl (hb hby d1_4)
  obtain ⟨fs, hr, hrun, hended, hW, hsame⟩ := X1.leave (v := some (.ref w_NEW_YEARS_DAY)) (fun h => by rw [Bd.returns] at h; cases h)
  refine ⟨_, _, pre0 _ ?_, hrun, hended, _, _, rfl, ?_, ⟨_, rfl⟩, hW, hsame.mono (by decide) (by decide)⟩
  · show Steps p.tables e below (s₁.setTop (mkF m 0 #[.val (.int vi0)] [])) _
    refine XS.iloadN X0.here hx rfl (hb hby d1_0) rfl ?_
    show Steps p.tables e below (s₁.setTop (mkF m 1 #[.val (.int vi0)] [(.int vi0)])) _
    refine XS.ifNo X0.here hx rfl (hb hby d1_1) rfl ((if0 _ _).trans (teq hc1).2) ?_
    show Steps p.tables e below (s₁.setTop (mkF m 4 #[.val (.int vi0)] [])) _
    refine st1 _ ?_
    show Steps p.tables e below (T1.setTop (mkF m 7 #[.val (.int vi0)] [(.ref w_NEW_YEARS_DAY)])) _
    jvm_step X1.here [X1.here.top, hx, (hb hby d1_7), X1.method', Bd.returns, Value.isRef, FieldType.isReference]
    first | (intro acts; rw [hr _ acts rfl rfl rfl]) | rw [hr _ _ rfl rfl rfl]
    exact Steps.refl _
  · show Q1_o0 Z vi0 w_JUNETEENTH w_NEW_YEARS_DAY h0 n0 _ T1.heap _
    rw [e1]
    exact ⟨w_NEW_YEARS_DAY, rfl, N0, rfl, E_w_NEW_YEARS_DAY, F_firstYear_w_NEW_YEARS_DAY, nJ_w_NEW_YEARS_DAY⟩
theorem d1_8 : decode method_3_code 8 = .ok (.iload_n 0, 1) := by decide +kernel
theorem d1_9 : decode method_3_code 9 = .ok (.iconst 1, 1) := by decide +kernel
theorem d1_10 : decode method_3_code 10 = .ok (.if_icmp .ne 7, 3) := by decide +kernel
theorem d1_13 : decode method_3_code 13 = .ok (.getstatic 26, 3) := by decide +kernel
theorem wd_20 {Z : State} {a0 : Array Value} (hw : ∀ d ∈ tables_1, d.before a0 Z = true) : ((Jvm.Cond.fieldLink "com/example/lintel/lintel/calendar/FederalHolidayKeptInPinLaw" (26 : Nat) "com/example/lintel/lintel/calendar/FederalHoliday" "BIRTHDAY_OF_MARTIN_LUTHER_KING_JR" "Lcom/example/lintel/lintel/calendar/FederalHoliday;")).before a0 Z = true := hw _ (List.mem_of_getElem? (i := 20) rfl)
theorem d1_16 : decode method_3_code 16 = .ok (.areturn, 1) := by decide +kernel
theorem ef_1_o1 (m : MethodId) (x0 : Int32) : entryFrame m #[(.int x0)] 1 = mkF m 0 #[.val (.int x0)] [] := by first | (simp [entryFrame, mkF, argsToLocals, Value.category]; done) | rfl
def Q1_o1 (Z : State) (vi0 : Int32) (w_JUNETEENTH : Addr) (w_BIRTHDAY_OF_MARTIN_LUTHER_KING_JR : Addr) (h0 : Heap) (n0 : Nat) (v : Option Value) (h : Heap) (L : List Loc) : Prop := ∃ w : Addr, v = some (.ref w) ∧ Fr n0 L ∧ h = h0 ∧ Exa Z Z.heap w "com/example/lintel/lintel/calendar/FederalHoliday" ∧ Fld Z Z.heap w "com/example/lintel/lintel/calendar/FederalHoliday" "firstYear" "I" (.int (1986 : Int32)) ∧ ¬ (w = w_JUNETEENTH)
set_option maxRecDepth 65536 in
set_option maxHeartbeats 40000000 in
theorem rm1_o1 (l : Launch) (Z : State) (a0 : Array Value) (hw : ∀ d ∈ tables_1, d.before a0 Z = true) (ws : List Jvm.Cond) (vi0 : Int32) (w_JUNETEENTH : Addr) (w_BIRTHDAY_OF_MARTIN_LUTHER_KING_JR : Addr) (h0 : Heap) (n0 : Nat) (Z0 : n0 ≤ h0.size) (E_w_BIRTHDAY_OF_MARTIN_LUTHER_KING_JR : Exa Z Z.heap w_BIRTHDAY_OF_MARTIN_LUTHER_KING_JR "com/example/lintel/lintel/calendar/FederalHoliday") (F_firstYear_w_BIRTHDAY_OF_MARTIN_LUTHER_KING_JR : Fld Z Z.heap w_BIRTHDAY_OF_MARTIN_LUTHER_KING_JR "com/example/lintel/lintel/calendar/FederalHoliday" "firstYear" "I" (.int (1986 : Int32))) (nJ_w_BIRTHDAY_OF_MARTIN_LUTHER_KING_JR : ¬ (w_BIRTHDAY_OF_MARTIN_LUTHER_KING_JR = w_JUNETEENTH)) (hc1 : ¬ (vi0 = (0 : Int32))) (hc10 : vi0 = (1 : Int32)) (S_BIRTHDAY_OF_MARTIN_LUTHER_KING_JR : Sta Z Z.heap "com/example/lintel/lintel/calendar/FederalHoliday" "BIRTHDAY_OF_MARTIN_LUTHER_KING_JR" "Lcom/example/lintel/lintel/calendar/FederalHoliday;" (.ref w_BIRTHDAY_OF_MARTIN_LUTHER_KING_JR)) (O0 : Old Z n0 h0) :
    MetFree l (⟨"com/example/lintel/lintel/calendar/FederalHolidayKeptInPinLaw", "pick", "(I)Lcom/example/lintel/lintel/calendar/FederalHoliday;"⟩ : MethodName) (head1 (Jvm.Cond.code (⟨"com/example/lintel/lintel/calendar/FederalHolidayKeptInPinLaw", "pick", "(I)Lcom/example/lintel/lintel/calendar/FederalHoliday;"⟩ : MethodName) method_3_code 1 (some (.object "com/example/lintel/lintel/calendar/FederalHoliday")) :: ws) ({ frames := 0, cells := 0, slots := 0, locals := 0 } : Room)) (fun a U => a = #[(.int vi0)] ∧ Z.Warmed39 U.vm ∧ U.heap = h0) (fun _ _ _ _ _ => True) (fun _ U o U' => ∃ v L, o = .returned v ∧ Q1_o1 Z vi0 w_JUNETEENTH w_BIRTHDAY_OF_MARTIN_LUTHER_KING_JR h0 n0 v U'.heap L ∧ FrameEnd U o U' L ({ frames := 0, cells := 0, slots := 0, locals := 0 } : Room).cells ({ frames := 0, cells := 0, slots := 0, locals := 0 } : Room).slots) := by
  refine MetFree.of_bodySF (plainFor_of_name pn_com_example_lintel_lintel_calendar_FederalHolidayKeptInPinLaw) hisR ?_
  intro p e s m args below meth c s₁ Bd hml0 hP hK
  obtain ⟨rfl, hZ, hh⟩ := hP
  have hx := Bd.exec
  have hby := Bd.bytes
  have hml : c.maxLocals = 1 := hml0
  have hown : s.vm.findClass "com/example/lintel/lintel/calendar/FederalHolidayKeptInPinLaw" = some m.cls := findClass_of_methodNamed Bd.named
  have hnm := (name_of_methodNamed Bd.named Bd.method).1
  have X0 : Stand p l e ({ frames := 0, cells := 0, slots := 0, locals := 0 } : Room) s m #[(.int vi0)] below meth c s₁ [] 0 0 := Stand.of_body Bd
  have e0 : s₁.heap = h0 := by rw [← hh, Bd.state]; rfl
  have N0 := Fr.nil n0
  have pre0 : ∀ t, Steps p.tables e below (s₁.setTop (mkF m 0 #[.val (.int vi0)] [])) t → Steps p.tables e below (s₁.setTop (entryFrame m #[(.int vi0)] 1)) t := fun t k => castTop (ef_1_o1 m vi0) k
  obtain ⟨T1, X1, e1, st1⟩ := getS2 X0 hx hZ hown (host := "") (Or.inl (wd_20 hw)) Via.refl e0 (S_BIRTHDAY_OF_MARTIN_LUTHER_KING_JR.ext O0.2) (g := (mkF m 13 #[.val (.int vi0)] [])) rfl (hb hby d1_13)
  obtain ⟨fs, hr, hrun, hended, hW, hsame⟩ := X1.leave (v := some (.ref w_BIRTHDAY_OF_MARTIN_LUTHER_KING_JR)) (fun h => by rw [Bd.returns] at h; cases h)
  refine ⟨_, _, pre0 _ ?_, hrun, hended, _, _, rfl, ?_, ⟨_, rfl⟩, hW, hsame.mono (by decide) (by decide)⟩
  · show Steps p.tables e below (s₁.setTop (mkF m 0 #[.val (.int vi0)] [])) _
    refine XS.iloadN X0.here hx rfl (hb hby d1_0) rfl ?_
    show Steps p.tables e below (s₁.setTop (mkF m 1 #[.val (.int vi0)] [(.int vi0)])) _
    refine XS.ifYes X0.here hx rfl (pc0 := 1) (pc' := 8) rfl (hb hby d1_1) rfl ((if0 _ _).trans (feq hc1).2) (by decide) (by decide) ?_
    show Steps p.tables e below (s₁.setTop (mkF m 8 #[.val (.int vi0)] [])) _
    refine XS.iloadN X0.here hx rfl (hb hby d1_8) rfl ?_
    show Steps p.tables e below (s₁.setTop (mkF m 9 #[.val (.int vi0)] [(.int vi0)])) _
    refine XS.iconst X0.here hx rfl (hb hby d1_9) ?_
    show Steps p.tables e below (s₁.setTop (mkF m 10 #[.val (.int vi0)] [(.int (1 : Int32)), (.int vi0)])) _
    refine XS.icmpNo X0.here hx rfl (hb hby d1_10) rfl (teq hc10).2 ?_
    show Steps p.tables e below (s₁.setTop (mkF m 13 #[.val (.int vi0)] [])) _
    refine st1 _ ?_
    show Steps p.tables e below (T1.setTop (mkF m 16 #[.val (.int vi0)] [(.ref w_BIRTHDAY_OF_MARTIN_LUTHER_KING_JR)])) _
    jvm_step X1.here [X1.here.top, hx, (hb hby d1_16), X1.method', Bd.returns, Value.isRef, FieldType.isReference]
    first | (intro acts; rw [hr _ acts rfl rfl rfl]) | rw [hr _ _ rfl rfl rfl]
    exact Steps.refl _
  · show Q1_o1 Z vi0 w_JUNETEENTH w_BIRTHDAY_OF_MARTIN_LUTHER_KING_JR h0 n0 _ T1.heap _
    rw [e1]
    exact ⟨w_BIRTHDAY_OF_MARTIN_LUTHER_KING_JR, rfl, N0, rfl, E_w_BIRTHDAY_OF_MARTIN_LUTHER_KING_JR, F_firstYear_w_BIRTHDAY_OF_MARTIN_LUTHER_KING_JR, nJ_w_BIRTHDAY_OF_MARTIN_LUTHER_KING_JR⟩
theorem d1_17 : decode method_3_code 17 = .ok (.iload_n 0, 1) := by decide +kernel
theorem d1_18 : decode method_3_code 18 = .ok (.iconst 2, 1) := by decide +kernel
theorem d1_19 : decode method_3_code 19 = .ok (.if_icmp .ne 7, 3) := by decide +kernel
theorem d1_22 : decode method_3_code 22 = .ok (.getstatic 29, 3) := by decide +kernel
theorem wd_26 {Z : State} {a0 : Array Value} (hw : ∀ d ∈ tables_1, d.before a0 Z = true) : ((Jvm.Cond.fieldLink "com/example/lintel/lintel/calendar/FederalHolidayKeptInPinLaw" (29 : Nat) "com/example/lintel/lintel/calendar/FederalHoliday" "WASHINGTONS_BIRTHDAY" "Lcom/example/lintel/lintel/calendar/FederalHoliday;")).before a0 Z = true := hw _ (List.mem_of_getElem? (i := 26) rfl)
theorem d1_25 : decode method_3_code 25 = .ok (.areturn, 1) := by decide +kernel
theorem ef_1_o2 (m : MethodId) (x0 : Int32) : entryFrame m #[(.int x0)] 1 = mkF m 0 #[.val (.int x0)] [] := by first | (simp [entryFrame, mkF, argsToLocals, Value.category]; done) | rfl
def Q1_o2 (Z : State) (vi0 : Int32) (w_JUNETEENTH : Addr) (w_WASHINGTONS_BIRTHDAY : Addr) (h0 : Heap) (n0 : Nat) (v : Option Value) (h : Heap) (L : List Loc) : Prop := ∃ w : Addr, v = some (.ref w) ∧ Fr n0 L ∧ h = h0 ∧ Exa Z Z.heap w "com/example/lintel/lintel/calendar/FederalHoliday" ∧ Fld Z Z.heap w "com/example/lintel/lintel/calendar/FederalHoliday" "firstYear" "I" (.int (1986 : Int32)) ∧ ¬ (w = w_JUNETEENTH)
set_option maxRecDepth 65536 in
set_option maxHeartbeats 40000000 in
theorem rm1_o2 (l : Launch) (Z : State) (a0 : Array Value) (hw : ∀ d ∈ tables_1, d.before a0 Z = true) (ws : List Jvm.Cond) (vi0 : Int32) (w_JUNETEENTH : Addr) (w_WASHINGTONS_BIRTHDAY : Addr) (h0 : Heap) (n0 : Nat) (Z0 : n0 ≤ h0.size) (E_w_WASHINGTONS_BIRTHDAY : Exa Z Z.heap w_WASHINGTONS_BIRTHDAY "com/example/lintel/lintel/calendar/FederalHoliday") (F_firstYear_w_WASHINGTONS_BIRTHDAY : Fld Z Z.heap w_WASHINGTONS_BIRTHDAY "com/example/lintel/lintel/calendar/FederalHoliday" "firstYear" "I" (.int (1986 : Int32))) (nJ_w_WASHINGTONS_BIRTHDAY : ¬ (w_WASHINGTONS_BIRTHDAY = w_JUNETEENTH)) (hc1 : ¬ (vi0 = (0 : Int32))) (hc10 : ¬ (vi0 = (1 : Int32))) (hc19 : vi0 = (2 : Int32)) (S_WASHINGTONS_BIRTHDAY : Sta Z Z.heap "com/example/lintel/lintel/calendar/FederalHoliday" "WASHINGTONS_BIRTHDAY" "Lcom/example/lintel/lintel/calendar/FederalHoliday;" (.ref w_WASHINGTONS_BIRTHDAY)) (O0 : Old Z n0 h0) :
    MetFree l (⟨"com/example/lintel/lintel/calendar/FederalHolidayKeptInPinLaw", "pick", "(I)Lcom/example/lintel/lintel/calendar/FederalHoliday;"⟩ : MethodName) (head1 (Jvm.Cond.code (⟨"com/example/lintel/lintel/calendar/FederalHolidayKeptInPinLaw", "pick", "(I)Lcom/example/lintel/lintel/calendar/FederalHoliday;"⟩ : MethodName) method_3_code 1 (some (.object "com/example/lintel/lintel/calendar/FederalHoliday")) :: ws) ({ frames := 0, cells := 0, slots := 0, locals := 0 } : Room)) (fun a U => a = #[(.int vi0)] ∧ Z.Warmed39 U.vm ∧ U.heap = h0) (fun _ _ _ _ _ => True) (fun _ U o U' => ∃ v L, o = .returned v ∧ Q1_o2 Z vi0 w_JUNETEENTH w_WASHINGTONS_BIRTHDAY h0 n0 v U'.heap L ∧ FrameEnd U o U' L ({ frames := 0, cells := 0, slots := 0, locals := 0 } : Room).cells ({ frames := 0, cells := 0, slots := 0, locals := 0 } : Room).slots) := by
  refine MetFree.of_bodySF (plainFor_of_name pn_com_example_lintel_lintel_calendar_FederalHolidayKeptInPinLaw) hisR ?_
  intro p e s m args below meth c s₁ Bd hml0 hP hK
  obtain ⟨rfl, hZ, hh⟩ := hP
  have hx := Bd.exec
  have hby := Bd.bytes
  have hml : c.maxLocals = 1 := hml0
  have hown : s.vm.findClass "com/example/lintel/lintel/calendar/FederalHolidayKeptInPinLaw" = some m.cls := findClass_of_methodNamed Bd.named
  have hnm := (name_of_methodNamed Bd.named Bd.method).1
  have X0 : Stand p l e ({ frames := 0, cells := 0, slots := 0, locals := 0 } : Room) s m #[(.int vi0)] below meth c s₁ [] 0 0 := Stand.of_body Bd
  have e0 : s₁.heap = h0 := by rw [← hh, Bd.state]; rfl
  have N0 := Fr.nil n0
  have pre0 : ∀ t, Steps p.tables e below (s₁.setTop (mkF m 0 #[.val (.int vi0)] [])) t → Steps p.tables e below (s₁.setTop (entryFrame m #[(.int vi0)] 1)) t := fun t k => castTop (ef_1_o2 m vi0) k
  obtain ⟨T1, X1, e1, st1⟩ := getS2 X0 hx hZ hown (host := "") (Or.inl (wd_26 hw)) Via.refl e0 (S_WASHINGTONS_BIRTHDAY.ext O0.2) (g := (mkF m 22 #[.val (.int vi0)] [])) rfl (hb hby d1_22)
  obtain ⟨fs, hr, hrun, hended, hW, hsame⟩ := X1.leave (v := some (.ref w_WASHINGTONS_BIRTHDAY)) (fun h => by rw [Bd.returns] at h; cases h)
  refine ⟨_, _, pre0 _ ?_, hrun, hended, _, _, rfl, ?_, ⟨_, rfl⟩, hW, hsame.mono (by decide) (by decide)⟩
  · show Steps p.tables e below (s₁.setTop (mkF m 0 #[.val (.int vi0)] [])) _
    refine XS.iloadN X0.here hx rfl (hb hby d1_0) rfl ?_
    show Steps p.tables e below (s₁.setTop (mkF m 1 #[.val (.int vi0)] [(.int vi0)])) _
    refine XS.ifYes X0.here hx rfl (pc0 := 1) (pc' := 8) rfl (hb hby d1_1) rfl ((if0 _ _).trans (feq hc1).2) (by decide) (by decide) ?_
    show Steps p.tables e below (s₁.setTop (mkF m 8 #[.val (.int vi0)] [])) _
    refine XS.iloadN X0.here hx rfl (hb hby d1_8) rfl ?_
    show Steps p.tables e below (s₁.setTop (mkF m 9 #[.val (.int vi0)] [(.int vi0)])) _
    refine XS.iconst X0.here hx rfl (hb hby d1_9) ?_
    show Steps p.tables e below (s₁.setTop (mkF m 10 #[.val (.int vi0)] [(.int (1 : Int32)), (.int vi0)])) _
    refine XS.icmpYes X0.here hx rfl (pc0 := 10) (pc' := 17) rfl (hb hby d1_10) rfl (feq hc10).2 (by decide) (by decide) ?_
    show Steps p.tables e below (s₁.setTop (mkF m 17 #[.val (.int vi0)] [])) _
    refine XS.iloadN X0.here hx rfl (hb hby d1_17) rfl ?_
    show Steps p.tables e below (s₁.setTop (mkF m 18 #[.val (.int vi0)] [(.int vi0)])) _
    refine XS.iconst X0.here hx rfl (hb hby d1_18) ?_
    show Steps p.tables e below (s₁.setTop (mkF m 19 #[.val (.int vi0)] [(.int (2 : Int32)), (.int vi0)])) _
    refine XS.icmpNo X0.here hx rfl (hb hby d1_19) rfl (teq hc19).2 ?_
    show Steps p.tables e below (s₁.setTop (mkF m 22 #[.val (.int vi0)] [])) _
    refine st1 _ ?_
    show Steps p.tables e below (T1.setTop (mkF m 25 #[.val (.int vi0)] [(.ref w_WASHINGTONS_BIRTHDAY)])) _
    jvm_step X1.here [X1.here.top, hx, (hb hby d1_25), X1.method', Bd.returns, Value.isRef, FieldType.isReference]
    first | (intro acts; rw [hr _ acts rfl rfl rfl]) | rw [hr _ _ rfl rfl rfl]
    exact Steps.refl _
  · show Q1_o2 Z vi0 w_JUNETEENTH w_WASHINGTONS_BIRTHDAY h0 n0 _ T1.heap _
    rw [e1]
    exact ⟨w_WASHINGTONS_BIRTHDAY, rfl, N0, rfl, E_w_WASHINGTONS_BIRTHDAY, F_firstYear_w_WASHINGTONS_BIRTHDAY, nJ_w_WASHINGTONS_BIRTHDAY⟩
theorem d1_26 : decode method_3_code 26 = .ok (.iload_n 0, 1) := by decide +kernel
theorem d1_27 : decode method_3_code 27 = .ok (.iconst 3, 1) := by decide +kernel
theorem d1_28 : decode method_3_code 28 = .ok (.if_icmp .ne 7, 3) := by decide +kernel
theorem d1_31 : decode method_3_code 31 = .ok (.getstatic 32, 3) := by decide +kernel
theorem wd_22 {Z : State} {a0 : Array Value} (hw : ∀ d ∈ tables_1, d.before a0 Z = true) : ((Jvm.Cond.fieldLink "com/example/lintel/lintel/calendar/FederalHolidayKeptInPinLaw" (32 : Nat) "com/example/lintel/lintel/calendar/FederalHoliday" "MEMORIAL_DAY" "Lcom/example/lintel/lintel/calendar/FederalHoliday;")).before a0 Z = true := hw _ (List.mem_of_getElem? (i := 22) rfl)
theorem d1_34 : decode method_3_code 34 = .ok (.areturn, 1) := by decide +kernel
theorem ef_1_o3 (m : MethodId) (x0 : Int32) : entryFrame m #[(.int x0)] 1 = mkF m 0 #[.val (.int x0)] [] := by first | (simp [entryFrame, mkF, argsToLocals, Value.category]; done) | rfl
def Q1_o3 (Z : State) (vi0 : Int32) (w_JUNETEENTH : Addr) (w_MEMORIAL_DAY : Addr) (h0 : Heap) (n0 : Nat) (v : Option Value) (h : Heap) (L : List Loc) : Prop := ∃ w : Addr, v = some (.ref w) ∧ Fr n0 L ∧ h = h0 ∧ Exa Z Z.heap w "com/example/lintel/lintel/calendar/FederalHoliday" ∧ Fld Z Z.heap w "com/example/lintel/lintel/calendar/FederalHoliday" "firstYear" "I" (.int (1986 : Int32)) ∧ ¬ (w = w_JUNETEENTH)
set_option maxRecDepth 65536 in
set_option maxHeartbeats 40000000 in
theorem rm1_o3 (l : Launch) (Z : State) (a0 : Array Value) (hw : ∀ d ∈ tables_1, d.before a0 Z = true) (ws : List Jvm.Cond) (vi0 : Int32) (w_JUNETEENTH : Addr) (w_MEMORIAL_DAY : Addr) (h0 : Heap) (n0 : Nat) (Z0 : n0 ≤ h0.size) (E_w_MEMORIAL_DAY : Exa Z Z.heap w_MEMORIAL_DAY "com/example/lintel/lintel/calendar/FederalHoliday") (F_firstYear_w_MEMORIAL_DAY : Fld Z Z.heap w_MEMORIAL_DAY "com/example/lintel/lintel/calendar/FederalHoliday" "firstYear" "I" (.int (1986 : Int32))) (nJ_w_MEMORIAL_DAY : ¬ (w_MEMORIAL_DAY = w_JUNETEENTH)) (hc1 : ¬ (vi0 = (0 : Int32))) (hc10 : ¬ (vi0 = (1 : Int32))) (hc19 : ¬ (vi0 = (2 : Int32))) (hc28 : vi0 = (3 : Int32)) (S_MEMORIAL_DAY : Sta Z Z.heap "com/example/lintel/lintel/calendar/FederalHoliday" "MEMORIAL_DAY" "Lcom/example/lintel/lintel/calendar/FederalHoliday;" (.ref w_MEMORIAL_DAY)) (O0 : Old Z n0 h0) :
    MetFree l (⟨"com/example/lintel/lintel/calendar/FederalHolidayKeptInPinLaw", "pick", "(I)Lcom/example/lintel/lintel/calendar/FederalHoliday;"⟩ : MethodName) (head1 (Jvm.Cond.code (⟨"com/example/lintel/lintel/calendar/FederalHolidayKeptInPinLaw", "pick", "(I)Lcom/example/lintel/lintel/calendar/FederalHoliday;"⟩ : MethodName) method_3_code 1 (some (.object "com/example/lintel/lintel/calendar/FederalHoliday")) :: ws) ({ frames := 0, cells := 0, slots := 0, locals := 0 } : Room)) (fun a U => a = #[(.int vi0)] ∧ Z.Warmed39 U.vm ∧ U.heap = h0) (fun _ _ _ _ _ => True) (fun _ U o U' => ∃ v L, o = .returned v ∧ Q1_o3 Z vi0 w_JUNETEENTH w_MEMORIAL_DAY h0 n0 v U'.heap L ∧ FrameEnd U o U' L ({ frames := 0, cells := 0, slots := 0, locals := 0 } : Room).cells ({ frames := 0, cells := 0, slots := 0, locals := 0 } : Room).slots) := by
  refine MetFree.of_bodySF (plainFor_of_name pn_com_example_lintel_lintel_calendar_FederalHolidayKeptInPinLaw) hisR ?_
  intro p e s m args below meth c s₁ Bd hml0 hP hK
  obtain ⟨rfl, hZ, hh⟩ := hP
  have hx := Bd.exec
  have hby := Bd.bytes
  have hml : c.maxLocals = 1 := hml0
  have hown : s.vm.findClass "com/example/lintel/lintel/calendar/FederalHolidayKeptInPinLaw" = some m.cls := findClass_of_methodNamed Bd.named
  have hnm := (name_of_methodNamed Bd.named Bd.method).1
  have X0 : Stand p l e ({ frames := 0, cells := 0, slots := 0, locals := 0 } : Room) s m #[(.int vi0)] below meth c s₁ [] 0 0 := Stand.of_body Bd
  have e0 : s₁.heap = h0 := by rw [← hh, Bd.state]; rfl
  have N0 := Fr.nil n0
  have pre0 : ∀ t, Steps p.tables e below (s₁.setTop (mkF m 0 #[.val (.int vi0)] [])) t → Steps p.tables e below (s₁.setTop (entryFrame m #[(.int vi0)] 1)) t := fun t k => castTop (ef_1_o3 m vi0) k
  obtain ⟨T1, X1, e1, st1⟩ := getS2 X0 hx hZ hown (host := "") (Or.inl (wd_22 hw)) Via.refl e0 (S_MEMORIAL_DAY.ext O0.2) (g := (mkF m 31 #[.val (.int vi0)] [])) rfl (hb hby d1_31)
  obtain ⟨fs, hr, hrun, hended, hW, hsame⟩ := X1.leave (v := some (.ref w_MEMORIAL_DAY)) (fun h => by rw [Bd.returns] at h; cases h)
  refine ⟨_, _, pre0 _ ?_, hrun, hended, _, _, rfl, ?_, ⟨_, rfl⟩, hW, hsame.mono (by decide) (by decide)⟩
  · show Steps p.tables e below (s₁.setTop (mkF m 0 #[.val (.int vi0)] [])) _
    refine XS.iloadN X0.here hx rfl (hb hby d1_0) rfl ?_
    show Steps p.tables e below (s₁.setTop (mkF m 1 #[.val (.int vi0)] [(.int vi0)])) _
    refine XS.ifYes X0.here hx rfl (pc0 := 1) (pc' := 8) rfl (hb hby d1_1) rfl ((if0 _ _).trans (feq hc1).2) (by decide) (by decide) ?_
    show Steps p.tables e below (s₁.setTop (mkF m 8 #[.val (.int vi0)] [])) _
    refine XS.iloadN X0.here hx rfl (hb hby d1_8) rfl ?_
    show Steps p.tables e below (s₁.setTop (mkF m 9 #[.val (.int vi0)] [(.int vi0)])) _
    refine XS.iconst X0.here hx rfl (hb hby d1_9) ?_
    show Steps p.tables e below (s₁.setTop (mkF m 10 #[.val (.int vi0)] [(.int (1 : Int32)), (.int vi0)])) _
    refine XS.icmpYes X0.here hx rfl (pc0 := 10) (pc' := 17) rfl (hb hby d1_10) rfl (feq hc10).2 (by decide) (by decide) ?_
    show Steps p.tables e below (s₁.setTop (mkF m 17 #[.val (.int vi0)] [])) _
    refine XS.iloadN X0.here hx rfl (hb hby d1_17) rfl ?_
    show Steps p.tables e below (s₁.setTop (mkF m 18 #[.val (.int vi0)] [(.int vi0)])) _
    refine XS.iconst X0.here hx rfl (hb hby d1_18) ?_
    show Steps p.tables e below (s₁.setTop (mkF m 19 #[.val (.int vi0)] [(.int (2 : Int32)), (.int vi0)])) _
    refine XS.icmpYes X0.here hx rfl (pc0 := 19) (pc' := 26) rfl (hb hby d1_19) rfl (feq hc19).2 (by decide) (by decide) ?_
    show Steps p.tables e below (s₁.setTop (mkF m 26 #[.val (.int vi0)] [])) _
    refine XS.iloadN X0.here hx rfl (hb hby d1_26) rfl ?_
    show Steps p.tables e below (s₁.setTop (mkF m 27 #[.val (.int vi0)] [(.int vi0)])) _
    refine XS.iconst X0.here hx rfl (hb hby d1_27) ?_
    show Steps p.tables e below (s₁.setTop (mkF m 28 #[.val (.int vi0)] [(.int (3 : Int32)), (.int vi0)])) _
    refine XS.icmpNo X0.here hx rfl (hb hby d1_28) rfl (teq hc28).2 ?_
    show Steps p.tables e below (s₁.setTop (mkF m 31 #[.val (.int vi0)] [])) _
    refine st1 _ ?_
    show Steps p.tables e below (T1.setTop (mkF m 34 #[.val (.int vi0)] [(.ref w_MEMORIAL_DAY)])) _
    jvm_step X1.here [X1.here.top, hx, (hb hby d1_34), X1.method', Bd.returns, Value.isRef, FieldType.isReference]
    first | (intro acts; rw [hr _ acts rfl rfl rfl]) | rw [hr _ _ rfl rfl rfl]
    exact Steps.refl _
  · show Q1_o3 Z vi0 w_JUNETEENTH w_MEMORIAL_DAY h0 n0 _ T1.heap _
    rw [e1]
    exact ⟨w_MEMORIAL_DAY, rfl, N0, rfl, E_w_MEMORIAL_DAY, F_firstYear_w_MEMORIAL_DAY, nJ_w_MEMORIAL_DAY⟩
theorem d1_35 : decode method_3_code 35 = .ok (.iload_n 0, 1) := by decide +kernel
theorem d1_36 : decode method_3_code 36 = .ok (.iconst 4, 1) := by decide +kernel
theorem d1_37 : decode method_3_code 37 = .ok (.if_icmp .ne 7, 3) := by decide +kernel
theorem d1_40 : decode method_3_code 40 = .ok (.getstatic 13, 3) := by decide +kernel
theorem wd_7 {Z : State} {a0 : Array Value} (hw : ∀ d ∈ tables_1, d.before a0 Z = true) : ((Jvm.Cond.fieldLink "com/example/lintel/lintel/calendar/FederalHolidayKeptInPinLaw" (13 : Nat) "com/example/lintel/lintel/calendar/FederalHoliday" "JUNETEENTH" "Lcom/example/lintel/lintel/calendar/FederalHoliday;")).before a0 Z = true := hw _ (List.mem_of_getElem? (i := 7) rfl)
theorem d1_43 : decode method_3_code 43 = .ok (.areturn, 1) := by decide +kernel
theorem ef_1_J0 (m : MethodId) (x0 : Int32) : entryFrame m #[(.int x0)] 1 = mkF m 0 #[.val (.int x0)] [] := by first | (simp [entryFrame, mkF, argsToLocals, Value.category]; done) | rfl
def Q1_J0 (Z : State) (vi0 : Int32) (w_JUNETEENTH : Addr) (h0 : Heap) (n0 : Nat) (v : Option Value) (h : Heap) (L : List Loc) : Prop := v = some (.ref w_JUNETEENTH) ∧ Fr n0 L ∧ h = h0
set_option maxRecDepth 65536 in
set_option maxHeartbeats 40000000 in
theorem rm1_J0 (l : Launch) (Z : State) (a0 : Array Value) (hw : ∀ d ∈ tables_1, d.before a0 Z = true) (ws : List Jvm.Cond) (vi0 : Int32) (w_JUNETEENTH : Addr) (h0 : Heap) (n0 : Nat) (Z0 : n0 ≤ h0.size) (hc1 : ¬ (vi0 = (0 : Int32))) (hc10 : ¬ (vi0 = (1 : Int32))) (hc19 : ¬ (vi0 = (2 : Int32))) (hc28 : ¬ (vi0 = (3 : Int32))) (hc37 : vi0 = (4 : Int32)) (S_JUNETEENTH : Sta Z Z.heap "com/example/lintel/lintel/calendar/FederalHoliday" "JUNETEENTH" "Lcom/example/lintel/lintel/calendar/FederalHoliday;" (.ref w_JUNETEENTH)) (O0 : Old Z n0 h0) :
    MetFree l (⟨"com/example/lintel/lintel/calendar/FederalHolidayKeptInPinLaw", "pick", "(I)Lcom/example/lintel/lintel/calendar/FederalHoliday;"⟩ : MethodName) (head1 (Jvm.Cond.code (⟨"com/example/lintel/lintel/calendar/FederalHolidayKeptInPinLaw", "pick", "(I)Lcom/example/lintel/lintel/calendar/FederalHoliday;"⟩ : MethodName) method_3_code 1 (some (.object "com/example/lintel/lintel/calendar/FederalHoliday")) :: ws) ({ frames := 0, cells := 0, slots := 0, locals := 0 } : Room)) (fun a U => a = #[(.int vi0)] ∧ Z.Warmed39 U.vm ∧ U.heap = h0) (fun _ _ _ _ _ => True) (fun _ U o U' => ∃ v L, o = .returned v ∧ Q1_J0 Z vi0 w_JUNETEENTH h0 n0 v U'.heap L ∧ FrameEnd U o U' L ({ frames := 0, cells := 0, slots := 0, locals := 0 } : Room).cells ({ frames := 0, cells := 0, slots := 0, locals := 0 } : Room).slots) := by
  refine MetFree.of_bodySF (plainFor_of_name pn_com_example_lintel_lintel_calendar_FederalHolidayKeptInPinLaw) hisR ?_
  intro p e s m args below meth c s₁ Bd hml0 hP hK
  obtain ⟨rfl, hZ, hh⟩ := hP
  have hx := Bd.exec
  have hby := Bd.bytes
  have hml : c.maxLocals = 1 := hml0
  have hown : s.vm.findClass "com/example/lintel/lintel/calendar/FederalHolidayKeptInPinLaw" = some m.cls := findClass_of_methodNamed Bd.named
  have hnm := (name_of_methodNamed Bd.named Bd.method).1
  have X0 : Stand p l e ({ frames := 0, cells := 0, slots := 0, locals := 0 } : Room) s m #[(.int vi0)] below meth c s₁ [] 0 0 := Stand.of_body Bd
  have e0 : s₁.heap = h0 := by rw [← hh, Bd.state]; rfl
  have N0 := Fr.nil n0
  have pre0 : ∀ t, Steps p.tables e below (s₁.setTop (mkF m 0 #[.val (.int vi0)] [])) t → Steps p.tables e below (s₁.setTop (entryFrame m #[(.int vi0)] 1)) t := fun t k => castTop (ef_1_J0 m vi0) k
  obtain ⟨T1, X1, e1, st1⟩ := getS2 X0 hx hZ hown (host := "") (Or.inl (wd_7 hw)) Via.refl e0 (S_JUNETEENTH.ext O0.2) (g := (mkF m 40 #[.val (.int vi0)] [])) rfl (hb hby d1_40)
  obtain ⟨fs, hr, hrun, hended, hW, hsame⟩ := X1.leave (v := some (.ref w_JUNETEENTH)) (fun h => by rw [Bd.returns] at h; cases h)
  refine ⟨_, _, pre0 _ ?_, hrun, hended, _, _, rfl, ?_, ⟨_, rfl⟩, hW, hsame.mono (by decide) (by decide)⟩
  · show Steps p.tables e below (s₁.setTop (mkF m 0 #[.val (.int vi0)] [])) _
    refine XS.iloadN X0.here hx rfl (hb hby d1_0) rfl ?_
    show Steps p.tables e below (s₁.setTop (mkF m 1 #[.val (.int vi0)] [(.int vi0)])) _
    refine XS.ifYes X0.here hx rfl (pc0 := 1) (pc' := 8) rfl (hb hby d1_1) rfl ((if0 _ _).trans (feq hc1).2) (by decide) (by decide) ?_
    show Steps p.tables e below (s₁.setTop (mkF m 8 #[.val (.int vi0)] [])) _
    refine XS.iloadN X0.here hx rfl (hb hby d1_8) rfl ?_
    show Steps p.tables e below (s₁.setTop (mkF m 9 #[.val (.int vi0)] [(.int vi0)])) _
    refine XS.iconst X0.here hx rfl (hb hby d1_9) ?_
    show Steps p.tables e below (s₁.setTop (mkF m 10 #[.val (.int vi0)] [(.int (1 : Int32)), (.int vi0)])) _
    refine XS.icmpYes X0.here hx rfl (pc0 := 10) (pc' := 17) rfl (hb hby d1_10) rfl (feq hc10).2 (by decide) (by decide) ?_
    show Steps p.tables e below (s₁.setTop (mkF m 17 #[.val (.int vi0)] [])) _
    refine XS.iloadN X0.here hx rfl (hb hby d1_17) rfl ?_
    show Steps p.tables e below (s₁.setTop (mkF m 18 #[.val (.int vi0)] [(.int vi0)])) _
    refine XS.iconst X0.here hx rfl (hb hby d1_18) ?_
    show Steps p.tables e below (s₁.setTop (mkF m 19 #[.val (.int vi0)] [(.int (2 : Int32)), (.int vi0)])) _
    refine XS.icmpYes X0.here hx rfl (pc0 := 19) (pc' := 26) rfl (hb hby d1_19) rfl (feq hc19).2 (by decide) (by decide) ?_
    show Steps p.tables e below (s₁.setTop (mkF m 26 #[.val (.int vi0)] [])) _
    refine XS.iloadN X0.here hx rfl (hb hby d1_26) rfl ?_
    show Steps p.tables e below (s₁.setTop (mkF m 27 #[.val (.int vi0)] [(.int vi0)])) _
    refine XS.iconst X0.here hx rfl (hb hby d1_27) ?_
    show Steps p.tables e below (s₁.setTop (mkF m 28 #[.val (.int vi0)] [(.int (3 : Int32)), (.int vi0)])) _
    refine XS.icmpYes X0.here hx rfl (pc0 := 28) (pc' := 35) rfl (hb hby d1_28) rfl (feq hc28).2 (by decide) (by decide) ?_
    show Steps p.tables e below (s₁.setTop (mkF m 35 #[.val (.int vi0)] [])) _
    refine XS.iloadN X0.here hx rfl (hb hby d1_35) rfl ?_
    show Steps p.tables e below (s₁.setTop (mkF m 36 #[.val (.int vi0)] [(.int vi0)])) _
    refine XS.iconst X0.here hx rfl (hb hby d1_36) ?_
    show Steps p.tables e below (s₁.setTop (mkF m 37 #[.val (.int vi0)] [(.int (4 : Int32)), (.int vi0)])) _
    refine XS.icmpNo X0.here hx rfl (hb hby d1_37) rfl (teq hc37).2 ?_
    show Steps p.tables e below (s₁.setTop (mkF m 40 #[.val (.int vi0)] [])) _
    refine st1 _ ?_
    show Steps p.tables e below (T1.setTop (mkF m 43 #[.val (.int vi0)] [(.ref w_JUNETEENTH)])) _
    jvm_step X1.here [X1.here.top, hx, (hb hby d1_43), X1.method', Bd.returns, Value.isRef, FieldType.isReference]
    first | (intro acts; rw [hr _ acts rfl rfl rfl]) | rw [hr _ _ rfl rfl rfl]
    exact Steps.refl _
  · show Q1_J0 Z vi0 w_JUNETEENTH h0 n0 _ T1.heap _
    rw [e1]
    exact ⟨rfl, N0, rfl⟩
theorem d1_44 : decode method_3_code 44 = .ok (.iload_n 0, 1) := by decide +kernel
theorem d1_45 : decode method_3_code 45 = .ok (.iconst 5, 1) := by decide +kernel
theorem d1_46 : decode method_3_code 46 = .ok (.if_icmp .ne 7, 3) := by decide +kernel
theorem d1_49 : decode method_3_code 49 = .ok (.getstatic 35, 3) := by decide +kernel
theorem wd_28 {Z : State} {a0 : Array Value} (hw : ∀ d ∈ tables_1, d.before a0 Z = true) : ((Jvm.Cond.fieldLink "com/example/lintel/lintel/calendar/FederalHolidayKeptInPinLaw" (35 : Nat) "com/example/lintel/lintel/calendar/FederalHoliday" "INDEPENDENCE_DAY" "Lcom/example/lintel/lintel/calendar/FederalHoliday;")).before a0 Z = true := hw _ (List.mem_of_getElem? (i := 28) rfl)
theorem d1_52 : decode method_3_code 52 = .ok (.areturn, 1) := by decide +kernel
theorem ef_1_o5 (m : MethodId) (x0 : Int32) : entryFrame m #[(.int x0)] 1 = mkF m 0 #[.val (.int x0)] [] := by first | (simp [entryFrame, mkF, argsToLocals, Value.category]; done) | rfl
def Q1_o5 (Z : State) (vi0 : Int32) (w_JUNETEENTH : Addr) (w_INDEPENDENCE_DAY : Addr) (h0 : Heap) (n0 : Nat) (v : Option Value) (h : Heap) (L : List Loc) : Prop := ∃ w : Addr, v = some (.ref w) ∧ Fr n0 L ∧ h = h0 ∧ Exa Z Z.heap w "com/example/lintel/lintel/calendar/FederalHoliday" ∧ Fld Z Z.heap w "com/example/lintel/lintel/calendar/FederalHoliday" "firstYear" "I" (.int (1986 : Int32)) ∧ ¬ (w = w_JUNETEENTH)
set_option maxRecDepth 65536 in
set_option maxHeartbeats 40000000 in
theorem rm1_o5 (l : Launch) (Z : State) (a0 : Array Value) (hw : ∀ d ∈ tables_1, d.before a0 Z = true) (ws : List Jvm.Cond) (vi0 : Int32) (w_JUNETEENTH : Addr) (w_INDEPENDENCE_DAY : Addr) (h0 : Heap) (n0 : Nat) (Z0 : n0 ≤ h0.size) (E_w_INDEPENDENCE_DAY : Exa Z Z.heap w_INDEPENDENCE_DAY "com/example/lintel/lintel/calendar/FederalHoliday") (F_firstYear_w_INDEPENDENCE_DAY : Fld Z Z.heap w_INDEPENDENCE_DAY "com/example/lintel/lintel/calendar/FederalHoliday" "firstYear" "I" (.int (1986 : Int32))) (nJ_w_INDEPENDENCE_DAY : ¬ (w_INDEPENDENCE_DAY = w_JUNETEENTH)) (hc1 : ¬ (vi0 = (0 : Int32))) (hc10 : ¬ (vi0 = (1 : Int32))) (hc19 : ¬ (vi0 = (2 : Int32))) (hc28 : ¬ (vi0 = (3 : Int32))) (hc37 : ¬ (vi0 = (4 : Int32))) (hc46 : vi0 = (5 : Int32)) (S_INDEPENDENCE_DAY : Sta Z Z.heap "com/example/lintel/lintel/calendar/FederalHoliday" "INDEPENDENCE_DAY" "Lcom/example/lintel/lintel/calendar/FederalHoliday;" (.ref w_INDEPENDENCE_DAY)) (O0 : Old Z n0 h0) :
    MetFree l (⟨"com/example/lintel/lintel/calendar/FederalHolidayKeptInPinLaw", "pick", "(I)Lcom/example/lintel/lintel/calendar/FederalHoliday;"⟩ : MethodName) (head1 (Jvm.Cond.code (⟨"com/example/lintel/lintel/calendar/FederalHolidayKeptInPinLaw", "pick", "(I)Lcom/example/lintel/lintel/calendar/FederalHoliday;"⟩ : MethodName) method_3_code 1 (some (.object "com/example/lintel/lintel/calendar/FederalHoliday")) :: ws) ({ frames := 0, cells := 0, slots := 0, locals := 0 } : Room)) (fun a U => a = #[(.int vi0)] ∧ Z.Warmed39 U.vm ∧ U.heap = h0) (fun _ _ _ _ _ => True) (fun _ U o U' => ∃ v L, o = .returned v ∧ Q1_o5 Z vi0 w_JUNETEENTH w_INDEPENDENCE_DAY h0 n0 v U'.heap L ∧ FrameEnd U o U' L ({ frames := 0, cells := 0, slots := 0, locals := 0 } : Room).cells ({ frames := 0, cells := 0, slots := 0, locals := 0 } : Room).slots) := by
  refine MetFree.of_bodySF (plainFor_of_name pn_com_example_lintel_lintel_calendar_FederalHolidayKeptInPinLaw) hisR ?_
  intro p e s m args below meth c s₁ Bd hml0 hP hK
  obtain ⟨rfl, hZ, hh⟩ := hP
  have hx := Bd.exec
  have hby := Bd.bytes
  have hml : c.maxLocals = 1 := hml0
  have hown : s.vm.findClass "com/example/lintel/lintel/calendar/FederalHolidayKeptInPinLaw" = some m.cls := findClass_of_methodNamed Bd.named
  have hnm := (name_of_methodNamed Bd.named Bd.method).1
  have X0 : Stand p l e ({ frames := 0, cells := 0, slots := 0, locals := 0 } : Room) s m #[(.int vi0)] below meth c s₁ [] 0 0 := Stand.of_body Bd
  have e0 : s₁.heap = h0 := by rw [← hh, Bd.state]; rfl
  have N0 := Fr.nil n0
  have pre0 : ∀ t, Steps p.tables e below (s₁.setTop (mkF m 0 #[.val (.int vi0)] [])) t → Steps p.tables e below (s₁.setTop (entryFrame m #[(.int vi0)] 1)) t := fun t k => castTop (ef_1_o5 m vi0) k
  obtain ⟨T1, X1, e1, st1⟩ := getS2 X0 hx hZ hown (host := "") (Or.inl (wd_28 hw)) Via.refl e0 (S_INDEPENDENCE_DAY.ext O0.2) (g := (mkF m 49 #[.val (.int vi0)] [])) rfl (hb hby d1_49)
  obtain ⟨fs, hr, hrun, hended, hW, hsame⟩ := X1.leave (v := some (.ref w_INDEPENDENCE_DAY)) (fun h => by rw [Bd.returns] at h; cases h)
  refine ⟨_, _, pre0 _ ?_, hrun, hended, _, _, rfl, ?_, ⟨_, rfl⟩, hW, hsame.mono (by decide) (by decide)⟩
  · show Steps p.tables e below (s₁.setTop (mkF m 0 #[.val (.int vi0)] [])) _
    refine XS.iloadN X0.here hx rfl (hb hby d1_0) rfl ?_
    show Steps p.tables e below (s₁.setTop (mkF m 1 #[.val (.int vi0)] [(.int vi0)])) _
    refine XS.ifYes X0.here hx rfl (pc0 := 1) (pc' := 8) rfl (hb hby d1_1) rfl ((if0 _ _).trans (feq hc1).2) (by decide) (by decide) ?_
    show Steps p.tables e below (s₁.setTop (mkF m 8 #[.val (.int vi0)] [])) _
    refine XS.iloadN X0.here hx rfl (hb hby d1_8) rfl ?_
    show Steps p.tables e below (s₁.setTop (mkF m 9 #[.val (.int vi0)] [(.int vi0)])) _
    refine XS.iconst X0.here hx rfl (hb hby d1_9) ?_
    show Steps p.tables e below (s₁.setTop (mkF m 10 #[.val (.int vi0)] [(.int (1 : Int32)), (.int vi0)])) _
    refine XS.icmpYes X0.here hx rfl (pc0 := 10) (pc' := 17) rfl (hb hby d1_10) rfl (feq hc10).2 (by decide) (by decide) ?_
    show Steps p.tables e below (s₁.setTop (mkF m 17 #[.val (.int vi0)] [])) _
    refine XS.iloadN X0.here hx rfl (hb hby d1_17) rfl ?_
    show Steps p.tables e below (s₁.setTop (mkF m 18 #[.val (.int vi0)] [(.int vi0)])) _
    refine XS.iconst X0.here hx rfl (hb hby d1_18) ?_
    show Steps p.tables e below (s₁.setTop (mkF m 19 #[.val (.int vi0)] [(.int (2 : Int32)), (.int vi0)])) _
    refine XS.icmpYes X0.here hx rfl (pc0 := 19) (pc' := 26) rfl (hb hby d1_19) rfl (feq hc19).2 (by decide) (by decide) ?_
    show Steps p.tables e below (s₁.setTop (mkF m 26 #[.val (.int vi0)] [])) _
    refine XS.iloadN X0.here hx rfl (hb hby d1_26) rfl ?_
    show Steps p.tables e below (s₁.setTop (mkF m 27 #[.val (.int vi0)] [(.int vi0)])) _
    refine XS.iconst X0.here hx rfl (hb hby d1_27) ?_
    show Steps p.tables e below (s₁.setTop (mkF m 28 #[.val (.int vi0)] [(.int (3 : Int32)), (.int vi0)])) _
    refine XS.icmpYes X0.here hx rfl (pc0 := 28) (pc' := 35) rfl (hb hby d1_28) rfl (feq hc28).2 (by decide) (by decide) ?_
    show Steps p.tables e below (s₁.setTop (mkF m 35 #[.val (.int vi0)] [])) _
    refine XS.iloadN X0.here hx rfl (hb hby d1_35) rfl ?_
    show Steps p.tables e below (s₁.setTop (mkF m 36 #[.val (.int vi0)] [(.int vi0)])) _
    refine XS.iconst X0.here hx rfl (hb hby d1_36) ?_
    show Steps p.tables e below (s₁.setTop (mkF m 37 #[.val (.int vi0)] [(.int (4 : Int32)), (.int vi0)])) _
    refine XS.icmpYes X0.here hx rfl (pc0 := 37) (pc' := 44) rfl (hb hby d1_37) rfl (feq hc37).2 (by decide) (by decide) ?_
    show Steps p.tables e below (s₁.setTop (mkF m 44 #[.val (.int vi0)] [])) _
    refine XS.iloadN X0.here hx rfl (hb hby d1_44) rfl ?_
    show Steps p.tables e below (s₁.setTop (mkF m 45 #[.val (.int vi0)] [(.int vi0)])) _
    refine XS.iconst X0.here hx rfl (hb hby d1_45) ?_
    show Steps p.tables e below (s₁.setTop (mkF m 46 #[.val (.int vi0)] [(.int (5 : Int32)), (.int vi0)])) _
    refine XS.icmpNo X0.here hx rfl (hb hby d1_46) rfl (teq hc46).2 ?_
    show Steps p.tables e below (s₁.setTop (mkF m 49 #[.val (.int vi0)] [])) _
    refine st1 _ ?_
    show Steps p.tables e below (T1.setTop (mkF m 52 #[.val (.int vi0)] [(.ref w_INDEPENDENCE_DAY)])) _
    jvm_step X1.here [X1.here.top, hx, (hb hby d1_52), X1.method', Bd.returns, Value.isRef, FieldType.isReference]
    first | (intro acts; rw [hr _ acts rfl rfl rfl]) | rw [hr _ _ rfl rfl rfl]
    exact Steps.refl _
  · show Q1_o5 Z vi0 w_JUNETEENTH w_INDEPENDENCE_DAY h0 n0 _ T1.heap _
    rw [e1]
    exact ⟨w_INDEPENDENCE_DAY, rfl, N0, rfl, E_w_INDEPENDENCE_DAY, F_firstYear_w_INDEPENDENCE_DAY, nJ_w_INDEPENDENCE_DAY⟩
theorem d1_53 : decode method_3_code 53 = .ok (.iload_n 0, 1) := by decide +kernel
theorem d1_54 : decode method_3_code 54 = .ok (.bipush 6, 2) := by decide +kernel
theorem d1_56 : decode method_3_code 56 = .ok (.if_icmp .ne 7, 3) := by decide +kernel
theorem d1_59 : decode method_3_code 59 = .ok (.getstatic 38, 3) := by decide +kernel
theorem wd_24 {Z : State} {a0 : Array Value} (hw : ∀ d ∈ tables_1, d.before a0 Z = true) : ((Jvm.Cond.fieldLink "com/example/lintel/lintel/calendar/FederalHolidayKeptInPinLaw" (38 : Nat) "com/example/lintel/lintel/calendar/FederalHoliday" "LABOR_DAY" "Lcom/example/lintel/lintel/calendar/FederalHoliday;")).before a0 Z = true := hw _ (List.mem_of_getElem? (i := 24) rfl)
theorem d1_62 : decode method_3_code 62 = .ok (.areturn, 1) := by decide +kernel
theorem ef_1_o6 (m : MethodId) (x0 : Int32) : entryFrame m #[(.int x0)] 1 = mkF m 0 #[.val (.int x0)] [] := by first | (simp [entryFrame, mkF, argsToLocals, Value.category]; done) | rfl
def Q1_o6 (Z : State) (vi0 : Int32) (w_JUNETEENTH : Addr) (w_LABOR_DAY : Addr) (h0 : Heap) (n0 : Nat) (v : Option Value) (h : Heap) (L : List Loc) : Prop := ∃ w : Addr, v = some (.ref w) ∧ Fr n0 L ∧ h = h0 ∧ Exa Z Z.heap w "com/example/lintel/lintel/calendar/FederalHoliday" ∧ Fld Z Z.heap w "com/example/lintel/lintel/calendar/FederalHoliday" "firstYear" "I" (.int (1986 : Int32)) ∧ ¬ (w = w_JUNETEENTH)
set_option maxRecDepth 65536 in
set_option maxHeartbeats 40000000 in
theorem rm1_o6 (l : Launch) (Z : State) (a0 : Array Value) (hw : ∀ d ∈ tables_1, d.before a0 Z = true) (ws : List Jvm.Cond) (vi0 : Int32) (w_JUNETEENTH : Addr) (w_LABOR_DAY : Addr) (h0 : Heap) (n0 : Nat) (Z0 : n0 ≤ h0.size) (E_w_LABOR_DAY : Exa Z Z.heap w_LABOR_DAY "com/example/lintel/lintel/calendar/FederalHoliday") (F_firstYear_w_LABOR_DAY : Fld Z Z.heap w_LABOR_DAY "com/example/lintel/lintel/calendar/FederalHoliday" "firstYear" "I" (.int (1986 : Int32))) (nJ_w_LABOR_DAY : ¬ (w_LABOR_DAY = w_JUNETEENTH)) (hc1 : ¬ (vi0 = (0 : Int32))) (hc10 : ¬ (vi0 = (1 : Int32))) (hc19 : ¬ (vi0 = (2 : Int32))) (hc28 : ¬ (vi0 = (3 : Int32))) (hc37 : ¬ (vi0 = (4 : Int32))) (hc46 : ¬ (vi0 = (5 : Int32))) (hc56 : vi0 = (6 : Int32)) (S_LABOR_DAY : Sta Z Z.heap "com/example/lintel/lintel/calendar/FederalHoliday" "LABOR_DAY" "Lcom/example/lintel/lintel/calendar/FederalHoliday;" (.ref w_LABOR_DAY)) (O0 : Old Z n0 h0) :
    MetFree l (⟨"com/example/lintel/lintel/calendar/FederalHolidayKeptInPinLaw", "pick", "(I)Lcom/example/lintel/lintel/calendar/FederalHoliday;"⟩ : MethodName) (head1 (Jvm.Cond.code (⟨"com/example/lintel/lintel/calendar/FederalHolidayKeptInPinLaw", "pick", "(I)Lcom/example/lintel/lintel/calendar/FederalHoliday;"⟩ : MethodName) method_3_code 1 (some (.object "com/example/lintel/lintel/calendar/FederalHoliday")) :: ws) ({ frames := 0, cells := 0, slots := 0, locals := 0 } : Room)) (fun a U => a = #[(.int vi0)] ∧ Z.Warmed39 U.vm ∧ U.heap = h0) (fun _ _ _ _ _ => True) (fun _ U o U' => ∃ v L, o = .returned v ∧ Q1_o6 Z vi0 w_JUNETEENTH w_LABOR_DAY h0 n0 v U'.heap L ∧ FrameEnd U o U' L ({ frames := 0, cells := 0, slots := 0, locals := 0 } : Room).cells ({ frames := 0, cells := 0, slots := 0, locals := 0 } : Room).slots) := by
  refine MetFree.of_bodySF (plainFor_of_name pn_com_example_lintel_lintel_calendar_FederalHolidayKeptInPinLaw) hisR ?_
  intro p e s m args below meth c s₁ Bd hml0 hP hK
  obtain ⟨rfl, hZ, hh⟩ := hP
  have hx := Bd.exec
  have hby := Bd.bytes
  have hml : c.maxLocals = 1 := hml0
  have hown : s.vm.findClass "com/example/lintel/lintel/calendar/FederalHolidayKeptInPinLaw" = some m.cls := findClass_of_methodNamed Bd.named
  have hnm := (name_of_methodNamed Bd.named Bd.method).1
  have X0 : Stand p l e ({ frames := 0, cells := 0, slots := 0, locals := 0 } : Room) s m #[(.int vi0)] below meth c s₁ [] 0 0 := Stand.of_body Bd
  have e0 : s₁.heap = h0 := by rw [← hh, Bd.state]; rfl
  have N0 := Fr.nil n0
  have pre0 : ∀ t, Steps p.tables e below (s₁.setTop (mkF m 0 #[.val (.int vi0)] [])) t → Steps p.tables e below (s₁.setTop (entryFrame m #[(.int vi0)] 1)) t := fun t k => castTop (ef_1_o6 m vi0) k
  obtain ⟨T1, X1, e1, st1⟩ := getS2 X0 hx hZ hown (host := "") (Or.inl (wd_24 hw)) Via.refl e0 (S_LABOR_DAY.ext O0.2) (g := (mkF m 59 #[.val (.int vi0)] [])) rfl (hb hby d1_59)
  obtain ⟨fs, hr, hrun, hended, hW, hsame⟩ := X1.leave (v := some (.ref w_LABOR_DAY)) (fun h => by rw [Bd.returns] at h; cases h)
  refine ⟨_, _, pre0 _ ?_, hrun, hended, _, _, rfl, ?_, ⟨_, rfl⟩, hW, hsame.mono (by decide) (by decide)⟩
  · show Steps p.tables e below (s₁.setTop (mkF m 0 #[.val (.int vi0)] [])) _
    refine XS.iloadN X0.here hx rfl (hb hby d1_0) rfl ?_
    show Steps p.tables e below (s₁.setTop (mkF m 1 #[.val (.int vi0)] [(.int vi0)])) _
    refine XS.ifYes X0.here hx rfl (pc0 := 1) (pc' := 8) rfl (hb hby d1_1) rfl ((if0 _ _).trans (feq hc1).2) (by decide) (by decide) ?_
    show Steps p.tables e below (s₁.setTop (mkF m 8 #[.val (.int vi0)] [])) _
    refine XS.iloadN X0.here hx rfl (hb hby d1_8) rfl ?_
    show Steps p.tables e below (s₁.setTop (mkF m 9 #[.val (.int vi0)] [(.int vi0)])) _
    refine XS.iconst X0.here hx rfl (hb hby d1_9) ?_
    show Steps p.tables e below (s₁.setTop (mkF m 10 #[.val (.int vi0)] [(.int (1 : Int32)), (.int vi0)])) _
    refine XS.icmpYes X0.here hx rfl (pc0 := 10) (pc' := 17) rfl (hb hby d1_10) rfl (feq hc10).2 (by decide) (by decide) ?_
    show Steps p.tables e below (s₁.setTop (mkF m 17 #[.val (.int vi0)] [])) _
    refine XS.iloadN X0.here hx rfl (hb hby d1_17) rfl ?_
    show Steps p.tables e below (s₁.setTop (mkF m 18 #[.val (.int vi0)] [(.int vi0)])) _
    refine XS.iconst X0.here hx rfl (hb hby d1_18) ?_
    show Steps p.tables e below (s₁.setTop (mkF m 19 #[.val (.int vi0)] [(.int (2 : Int32)), (.int vi0)])) _
    refine XS.icmpYes X0.here hx rfl (pc0 := 19) (pc' := 26) rfl (hb hby d1_19) rfl (feq hc19).2 (by decide) (by decide) ?_
    show Steps p.tables e below (s₁.setTop (mkF m 26 #[.val (.int vi0)] [])) _
    refine XS.iloadN X0.here hx rfl (hb hby d1_26) rfl ?_
    show Steps p.tables e below (s₁.setTop (mkF m 27 #[.val (.int vi0)] [(.int vi0)])) _
    refine XS.iconst X0.here hx rfl (hb hby d1_27) ?_
    show Steps p.tables e below (s₁.setTop (mkF m 28 #[.val (.int vi0)] [(.int (3 : Int32)), (.int vi0)])) _
    refine XS.icmpYes X0.here hx rfl (pc0 := 28) (pc' := 35) rfl (hb hby d1_28) rfl (feq hc28).2 (by decide) (by decide) ?_
    show Steps p.tables e below (s₁.setTop (mkF m 35 #[.val (.int vi0)] [])) _
    refine XS.iloadN X0.here hx rfl (hb hby d1_35) rfl ?_
    show Steps p.tables e below (s₁.setTop (mkF m 36 #[.val (.int vi0)] [(.int vi0)])) _
    refine XS.iconst X0.here hx rfl (hb hby d1_36) ?_
    show Steps p.tables e below (s₁.setTop (mkF m 37 #[.val (.int vi0)] [(.int (4 : Int32)), (.int vi0)])) _
    refine XS.icmpYes X0.here hx rfl (pc0 := 37) (pc' := 44) rfl (hb hby d1_37) rfl (feq hc37).2 (by decide) (by decide) ?_
    show Steps p.tables e below (s₁.setTop (mkF m 44 #[.val (.int vi0)] [])) _
    refine XS.iloadN X0.here hx rfl (hb hby d1_44) rfl ?_
    show Steps p.tables e below (s₁.setTop (mkF m 45 #[.val (.int vi0)] [(.int vi0)])) _
    refine XS.iconst X0.here hx rfl (hb hby d1_45) ?_
    show Steps p.tables e below (s₁.setTop (mkF m 46 #[.val (.int vi0)] [(.int (5 : Int32)), (.int vi0)])) _
    refine XS.icmpYes X0.here hx rfl (pc0 := 46) (pc' := 53) rfl (hb hby d1_46) rfl (feq hc46).2 (by decide) (by decide) ?_
    show Steps p.tables e below (s₁.setTop (mkF m 53 #[.val (.int vi0)] [])) _
    refine XS.iloadN X0.here hx rfl (hb hby d1_53) rfl ?_
    show Steps p.tables e below (s₁.setTop (mkF m 54 #[.val (.int vi0)] [(.int vi0)])) _
    refine XS.bipush X0.here hx rfl (hb hby d1_54) ?_
    show Steps p.tables e below (s₁.setTop (mkF m 56 #[.val (.int vi0)] [(.int (6 : Int32)), (.int vi0)])) _
    refine XS.icmpNo X0.here hx rfl (hb hby d1_56) rfl (teq hc56).2 ?_
    show Steps p.tables e below (s₁.setTop (mkF m 59 #[.val (.int vi0)] [])) _
    refine st1 _ ?_
    show Steps p.tables e below (T1.setTop (mkF m 62 #[.val (.int vi0)] [(.ref w_LABOR_DAY)])) _
    jvm_step X1.here [X1.here.top, hx, (hb hby d1_62), X1.method', Bd.returns, Value.isRef, FieldType.isReference]
    first | (intro acts; rw [hr _ acts rfl rfl rfl]) | rw [hr _ _ rfl rfl rfl]
    exact Steps.refl _
  · show Q1_o6 Z vi0 w_JUNETEENTH w_LABOR_DAY h0 n0 _ T1.heap _
    rw [e1]
    exact ⟨w_LABOR_DAY, rfl, N0, rfl, E_w_LABOR_DAY, F_firstYear_w_LABOR_DAY, nJ_w_LABOR_DAY⟩
theorem d1_63 : decode method_3_code 63 = .ok (.iload_n 0, 1) := by decide +kernel
theorem d1_64 : decode method_3_code 64 = .ok (.bipush 7, 2) := by decide +kernel
theorem d1_66 : decode method_3_code 66 = .ok (.if_icmp .ne 7, 3) := by decide +kernel
theorem d1_69 : decode method_3_code 69 = .ok (.getstatic 41, 3) := by decide +kernel
theorem wd_16 {Z : State} {a0 : Array Value} (hw : ∀ d ∈ tables_1, d.before a0 Z = true) : ((Jvm.Cond.fieldLink "com/example/lintel/lintel/calendar/FederalHolidayKeptInPinLaw" (41 : Nat) "com/example/lintel/lintel/calendar/FederalHoliday" "COLUMBUS_DAY" "Lcom/example/lintel/lintel/calendar/FederalHoliday;")).before a0 Z = true := hw _ (List.mem_of_getElem? (i := 16) rfl)
theorem d1_72 : decode method_3_code 72 = .ok (.areturn, 1) := by decide +kernel
theorem ef_1_o7 (m : MethodId) (x0 : Int32) : entryFrame m #[(.int x0)] 1 = mkF m 0 #[.val (.int x0)] [] := by first | (simp [entryFrame, mkF, argsToLocals, Value.category]; done) | rfl
def Q1_o7 (Z : State) (vi0 : Int32) (w_JUNETEENTH : Addr) (w_COLUMBUS_DAY : Addr) (h0 : Heap) (n0 : Nat) (v : Option Value) (h : Heap) (L : List Loc) : Prop := ∃ w : Addr, v = some (.ref w) ∧ Fr n0 L ∧ h = h0 ∧ Exa Z Z.heap w "com/example/lintel/lintel/calendar/FederalHoliday" ∧ Fld Z Z.heap w "com/example/lintel/lintel/calendar/FederalHoliday" "firstYear" "I" (.int (1986 : Int32)) ∧ ¬ (w = w_JUNETEENTH)
set_option maxRecDepth 65536 in
set_option maxHeartbeats 40000000 in
theorem rm1_o7 (l : Launch) (Z : State) (a0 : Array Value) (hw : ∀ d ∈ tables_1, d.before a0 Z = true) (ws : List Jvm.Cond) (vi0 : Int32) (w_JUNETEENTH : Addr) (w_COLUMBUS_DAY : Addr) (h0 : Heap) (n0 : Nat) (Z0 : n0 ≤ h0.size) (E_w_COLUMBUS_DAY : Exa Z Z.heap w_COLUMBUS_DAY "com/example/lintel/lintel/calendar/FederalHoliday") (F_firstYear_w_COLUMBUS_DAY : Fld Z Z.heap w_COLUMBUS_DAY "com/example/lintel/lintel/calendar/FederalHoliday" "firstYear" "I" (.int (1986 : Int32))) (nJ_w_COLUMBUS_DAY : ¬ (w_COLUMBUS_DAY = w_JUNETEENTH)) (hc1 : ¬ (vi0 = (0 : Int32))) (hc10 : ¬ (vi0 = (1 : Int32))) (hc19 : ¬ (vi0 = (2 : Int32))) (hc28 : ¬ (vi0 = (3 : Int32))) (hc37 : ¬ (vi0 = (4 : Int32))) (hc46 : ¬ (vi0 = (5 : Int32))) (hc56 : ¬ (vi0 = (6 : Int32))) (hc66 : vi0 = (7 : Int32)) (S_COLUMBUS_DAY : Sta Z Z.heap "com/example/lintel/lintel/calendar/FederalHoliday" "COLUMBUS_DAY" "Lcom/example/lintel/lintel/calendar/FederalHoliday;" (.ref w_COLUMBUS_DAY)) (O0 : Old Z n0 h0) :
    MetFree l (⟨"com/example/lintel/lintel/calendar/FederalHolidayKeptInPinLaw", "pick", "(I)Lcom/example/lintel/lintel/calendar/FederalHoliday;"⟩ : MethodName) (head1 (Jvm.Cond.code (⟨"com/example/lintel/lintel/calendar/FederalHolidayKeptInPinLaw", "pick", "(I)Lcom/example/lintel/lintel/calendar/FederalHoliday;"⟩ : MethodName) method_3_code 1 (some (.object "com/example/lintel/lintel/calendar/FederalHoliday")) :: ws) ({ frames := 0, cells := 0, slots := 0, locals := 0 } : Room)) (fun a U => a = #[(.int vi0)] ∧ Z.Warmed39 U.vm ∧ U.heap = h0) (fun _ _ _ _ _ => True) (fun _ U o U' => ∃ v L, o = .returned v ∧ Q1_o7 Z vi0 w_JUNETEENTH w_COLUMBUS_DAY h0 n0 v U'.heap L ∧ FrameEnd U o U' L ({ frames := 0, cells := 0, slots := 0, locals := 0 } : Room).cells ({ frames := 0, cells := 0, slots := 0, locals := 0 } : Room).slots) := by
  refine MetFree.of_bodySF (plainFor_of_name pn_com_example_lintel_lintel_calendar_FederalHolidayKeptInPinLaw) hisR ?_
  intro p e s m args below meth c s₁ Bd hml0 hP hK
  obtain ⟨rfl, hZ, hh⟩ := hP
  have hx := Bd.exec
  have hby := Bd.bytes
  have hml : c.maxLocals = 1 := hml0
  have hown : s.vm.findClass "com/example/lintel/lintel/calendar/FederalHolidayKeptInPinLaw" = some m.cls := findClass_of_methodNamed Bd.named
  have hnm := (name_of_methodNamed Bd.named Bd.method).1
  have X0 : Stand p l e ({ frames := 0, cells := 0, slots := 0, locals := 0 } : Room) s m #[(.int vi0)] below meth c s₁ [] 0 0 := Stand.of_body Bd
  have e0 : s₁.heap = h0 := by rw [← hh, Bd.state]; rfl
  have N0 := Fr.nil n0
  have pre0 : ∀ t, Steps p.tables e below (s₁.setTop (mkF m 0 #[.val (.int vi0)] [])) t → Steps p.tables e below (s₁.setTop (entryFrame m #[(.int vi0)] 1)) t := fun t k => castTop (ef_1_o7 m vi0) k
  obtain ⟨T1, X1, e1, st1⟩ := getS2 X0 hx hZ hown (host := "") (Or.inl (wd_16 hw)) Via.refl e0 (S_COLUMBUS_DAY.ext O0.2) (g := (mkF m 69 #[.val (.int vi0)] [])) rfl (hb hby d1_69)
  obtain ⟨fs, hr, hrun, hended, hW, hsame⟩ := X1.leave (v := some (.ref w_COLUMBUS_DAY)) (fun h => by rw [Bd.returns] at h; cases h)
  refine ⟨_, _, pre0 _ ?_, hrun, hended, _, _, rfl, ?_, ⟨_, rfl⟩, hW, hsame.mono (by decide) (by decide)⟩
  · show Steps p.tables e below (s₁.setTop (mkF m 0 #[.val (.int vi0)] [])) _
    refine XS.iloadN X0.here hx rfl (hb hby d1_0) rfl ?_
    show Steps p.tables e below (s₁.setTop (mkF m 1 #[.val (.int vi0)] [(.int vi0)])) _
    refine XS.ifYes X0.here hx rfl (pc0 := 1) (pc' := 8) rfl (hb hby d1_1) rfl ((if0 _ _).trans (feq hc1).2) (by decide) (by decide) ?_
    show Steps p.tables e below (s₁.setTop (mkF m 8 #[.val (.int vi0)] [])) _
    refine XS.iloadN X0.here hx rfl (hb hby d1_8) rfl ?_
    show Steps p.tables e below (s₁.setTop (mkF m 9 #[.val (.int vi0)] [(.int vi0)])) _
    refine XS.iconst X0.here hx rfl (hb hby d1_9) ?_
    show Steps p.tables e below (s₁.setTop (mkF m 10 #[.val (.int vi0)] [(.int (1 : Int32)), (.int vi0)])) _
    refine XS.icmpYes X0.here hx rfl (pc0 := 10) (pc' := 17) rfl (hb hby d1_10) rfl (feq hc10).2 (by decide) (by decide) ?_
    show Steps p.tables e below (s₁.setTop (mkF m 17 #[.val (.int vi0)] [])) _
    refine XS.iloadN X0.here hx rfl (hb hby d1_17) rfl ?_
    show Steps p.tables e below (s₁.setTop (mkF m 18 #[.val (.int vi0)] [(.int vi0)])) _
    refine XS.iconst X0.here hx rfl (hb hby d1_18) ?_
    show Steps p.tables e below (s₁.setTop (mkF m 19 #[.val (.int vi0)] [(.int (2 : Int32)), (.int vi0)])) _
    refine XS.icmpYes X0.here hx rfl (pc0 := 19) (pc' := 26) rfl (hb hby d1_19) rfl (feq hc19).2 (by decide) (by decide) ?_
    show Steps p.tables e below (s₁.setTop (mkF m 26 #[.val (.int vi0)] [])) _
    refine XS.iloadN X0.here hx rfl (hb hby d1_26) rfl ?_
    show Steps p.tables e below (s₁.setTop (mkF m 27 #[.val (.int vi0)] [(.int vi0)])) _
    refine XS.iconst X0.here hx rfl (hb hby d1_27) ?_
    show Steps p.tables e below (s₁.setTop (mkF m 28 #[.val (.int vi0)] [(.int (3 : Int32)), (.int vi0)])) _
    refine XS.icmpYes X0.here hx rfl (pc0 := 28) (pc' := 35) rfl (hb hby d1_28) rfl (feq hc28).2 (by decide) (by decide) ?_
    show Steps p.tables e below (s₁.setTop (mkF m 35 #[.val (.int vi0)] [])) _
    refine XS.iloadN X0.here hx rfl (hb hby d1_35) rfl ?_
    show Steps p.tables e below (s₁.setTop (mkF m 36 #[.val (.int vi0)] [(.int vi0)])) _
    refine XS.iconst X0.here hx rfl (hb hby d1_36) ?_
    show Steps p.tables e below (s₁.setTop (mkF m 37 #[.val (.int vi0)] [(.int (4 : Int32)), (.int vi0)])) _
    refine XS.icmpYes X0.here hx rfl (pc0 := 37) (pc' := 44) rfl (hb hby d1_37) rfl (feq hc37).2 (by decide) (by decide) ?_
    show Steps p.tables e below (s₁.setTop (mkF m 44 #[.val (.int vi0)] [])) _
    refine XS.iloadN X0.here hx rfl (hb hby d1_44) rfl ?_
    show Steps p.tables e below (s₁.setTop (mkF m 45 #[.val (.int vi0)] [(.int vi0)])) _
    refine XS.iconst X0.here hx rfl (hb hby d1_45) ?_
    show Steps p.tables e below (s₁.setTop (mkF m 46 #[.val (.int vi0)] [(.int (5 : Int32)), (.int vi0)])) _
    refine XS.icmpYes X0.here hx rfl (pc0 := 46) (pc' := 53) rfl (hb hby d1_46) rfl (feq hc46).2 (by decide) (by decide) ?_
    show Steps p.tables e below (s₁.setTop (mkF m 53 #[.val (.int vi0)] [])) _
    refine XS.iloadN X0.here hx rfl (hb hby d1_53) rfl ?_
    show Steps p.tables e below (s₁.setTop (mkF m 54 #[.val (.int vi0)] [(.int vi0)])) _
    refine XS.bipush X0.here hx rfl (hb hby d1_54) ?_
    show Steps p.tables e below (s₁.setTop (mkF m 56 #[.val (.int vi0)] [(.int (6 : Int32)), (.int vi0)])) _
    refine XS.icmpYes X0.here hx rfl (pc0 := 56) (pc' := 63) rfl (hb hby d1_56) rfl (feq hc56).2 (by decide) (by decide) ?_
    show Steps p.tables e below (s₁.setTop (mkF m 63 #[.val (.int vi0)] [])) _
    refine XS.iloadN X0.here hx rfl (hb hby d1_63) rfl ?_
    show Steps p.tables e below (s₁.setTop (mkF m 64 #[.val (.int vi0)] [(.int vi0)])) _
    refine XS.bipush X0.here hx rfl (hb hby d1_64) ?_
    show Steps p.tables e below (s₁.setTop (mkF m 66 #[.val (.int vi0)] [(.int (7 : Int32)), (.int vi0)])) _
    refine XS.icmpNo X0.here hx rfl (hb hby d1_66) rfl (teq hc66).2 ?_
    show Steps p.tables e below (s₁.setTop (mkF m 69 #[.val (.int vi0)] [])) _
    refine st1 _ ?_
    show Steps p.tables e below (T1.setTop (mkF m 72 #[.val (.int vi0)] [(.ref w_COLUMBUS_DAY)])) _
    jvm_step X1.here [X1.here.top, hx, (hb hby d1_72), X1.method', Bd.returns, Value.isRef, FieldType.isReference]
    first | (intro acts; rw [hr _ acts rfl rfl rfl]) | rw [hr _ _ rfl rfl rfl]
    exact Steps.refl _
  · show Q1_o7 Z vi0 w_JUNETEENTH w_COLUMBUS_DAY h0 n0 _ T1.heap _
    rw [e1]
    exact ⟨w_COLUMBUS_DAY, rfl, N0, rfl, E_w_COLUMBUS_DAY, F_firstYear_w_COLUMBUS_DAY, nJ_w_COLUMBUS_DAY⟩
theorem d1_73 : decode method_3_code 73 = .ok (.iload_n 0, 1) := by decide +kernel
theorem d1_74 : decode method_3_code 74 = .ok (.bipush 8, 2) := by decide +kernel
theorem d1_76 : decode method_3_code 76 = .ok (.if_icmp .ne 7, 3) := by decide +kernel
theorem d1_79 : decode method_3_code 79 = .ok (.getstatic 44, 3) := by decide +kernel
theorem wd_32 {Z : State} {a0 : Array Value} (hw : ∀ d ∈ tables_1, d.before a0 Z = true) : ((Jvm.Cond.fieldLink "com/example/lintel/lintel/calendar/FederalHolidayKeptInPinLaw" (44 : Nat) "com/example/lintel/lintel/calendar/FederalHoliday" "VETERANS_DAY" "Lcom/example/lintel/lintel/calendar/FederalHoliday;")).before a0 Z = true := hw _ (List.mem_of_getElem? (i := 32) rfl)
theorem d1_82 : decode method_3_code 82 = .ok (.areturn, 1) := by decide +kernel
theorem ef_1_o8 (m : MethodId) (x0 : Int32) : entryFrame m #[(.int x0)] 1 = mkF m 0 #[.val (.int x0)] [] := by first | (simp [entryFrame, mkF, argsToLocals, Value.category]; done) | rfl
def Q1_o8 (Z : State) (vi0 : Int32) (w_JUNETEENTH : Addr) (w_VETERANS_DAY : Addr) (h0 : Heap) (n0 : Nat) (v : Option Value) (h : Heap) (L : List Loc) : Prop := ∃ w : Addr, v = some (.ref w) ∧ Fr n0 L ∧ h = h0 ∧ Exa Z Z.heap w "com/example/lintel/lintel/calendar/FederalHoliday" ∧ Fld Z Z.heap w "com/example/lintel/lintel/calendar/FederalHoliday" "firstYear" "I" (.int (1986 : Int32)) ∧ ¬ (w = w_JUNETEENTH)
set_option maxRecDepth 65536 in
set_option maxHeartbeats 40000000 in
theorem rm1_o8 (l : Launch) (Z : State) (a0 : Array Value) (hw : ∀ d ∈ tables_1, d.before a0 Z = true) (ws : List Jvm.Cond) (vi0 : Int32) (w_JUNETEENTH : Addr) (w_VETERANS_DAY : Addr) (h0 : Heap) (n0 : Nat) (Z0 : n0 ≤ h0.size) (E_w_VETERANS_DAY : Exa Z Z.heap w_VETERANS_DAY "com/example/lintel/lintel/calendar/FederalHoliday") (F_firstYear_w_VETERANS_DAY : Fld Z Z.heap w_VETERANS_DAY "com/example/lintel/lintel/calendar/FederalHoliday" "firstYear" "I" (.int (1986 : Int32))) (nJ_w_VETERANS_DAY : ¬ (w_VETERANS_DAY = w_JUNETEENTH)) (hc1 : ¬ (vi0 = (0 : Int32))) (hc10 : ¬ (vi0 = (1 : Int32))) (hc19 : ¬ (vi0 = (2 : Int32))) (hc28 : ¬ (vi0 = (3 : Int32))) (hc37 : ¬ (vi0 = (4 : Int32))) (hc46 : ¬ (vi0 = (5 : Int32))) (hc56 : ¬ (vi0 = (6 : Int32))) (hc66 : ¬ (vi0 = (7 : Int32))) (hc76 : vi0 = (8 : Int32)) (S_VETERANS_DAY : Sta Z Z.heap "com/example/lintel/lintel/calendar/FederalHoliday" "VETERANS_DAY" "Lcom/example/lintel/lintel/calendar/FederalHoliday;" (.ref w_VETERANS_DAY)) (O0 : Old Z n0 h0) :
    MetFree l (⟨"com/example/lintel/lintel/calendar/FederalHolidayKeptInPinLaw", "pick", "(I)Lcom/example/lintel/lintel/calendar/FederalHoliday;"⟩ : MethodName) (head1 (Jvm.Cond.code (⟨"com/example/lintel/lintel/calendar/FederalHolidayKeptInPinLaw", "pick", "(I)Lcom/example/lintel/lintel/calendar/FederalHoliday;"⟩ : MethodName) method_3_code 1 (some (.object "com/example/lintel/lintel/calendar/FederalHoliday")) :: ws) ({ frames := 0, cells := 0, slots := 0, locals := 0 } : Room)) (fun a U => a = #[(.int vi0)] ∧ Z.Warmed39 U.vm ∧ U.heap = h0) (fun _ _ _ _ _ => True) (fun _ U o U' => ∃ v L, o = .returned v ∧ Q1_o8 Z vi0 w_JUNETEENTH w_VETERANS_DAY h0 n0 v U'.heap L ∧ FrameEnd U o U' L ({ frames := 0, cells := 0, slots := 0, locals := 0 } : Room).cells ({ frames := 0, cells := 0, slots := 0, locals := 0 } : Room).slots) := by
  refine MetFree.of_bodySF (plainFor_of_name pn_com_example_lintel_lintel_calendar_FederalHolidayKeptInPinLaw) hisR ?_
  intro p e s m args below meth c s₁ Bd hml0 hP hK
  obtain ⟨rfl, hZ, hh⟩ := hP
  have hx := Bd.exec
  have hby := Bd.bytes
  have hml : c.maxLocals = 1 := hml0
  have hown : s.vm.findClass "com/example/lintel/lintel/calendar/FederalHolidayKeptInPinLaw" = some m.cls := findClass_of_methodNamed Bd.named
  have hnm := (name_of_methodNamed Bd.named Bd.method).1
  have X0 : Stand p l e ({ frames := 0, cells := 0, slots := 0, locals := 0 } : Room) s m #[(.int vi0)] below meth c s₁ [] 0 0 := Stand.of_body Bd
  have e0 : s₁.heap = h0 := by rw [← hh, Bd.state]; rfl
  have N0 := Fr.nil n0
  have pre0 : ∀ t, Steps p.tables e below (s₁.setTop (mkF m 0 #[.val (.int vi0)] [])) t → Steps p.tables e below (s₁.setTop (entryFrame m #[(.int vi0)] 1)) t := fun t k => castTop (ef_1_o8 m vi0) k
  obtain ⟨T1, X1, e1, st1⟩ := getS2 X0 hx hZ hown (host := "") (Or.inl (wd_32 hw)) Via.refl e0 (S_VETERANS_DAY.ext O0.2) (g := (mkF m 79 #[.val (.int vi0)] [])) rfl (hb hby d1_79)
  obtain ⟨fs, hr, hrun, hended, hW, hsame⟩ := X1.leave (v := some (.ref w_VETERANS_DAY)) (fun h => by rw [Bd.returns] at h; cases h)
  refine ⟨_, _, pre0 _ ?_, hrun, hended, _, _, rfl, ?_, ⟨_, rfl⟩, hW, hsame.mono (by decide) (by decide)⟩
  · show Steps p.tables e below (s₁.setTop (mkF m 0 #[.val (.int vi0)] [])) _
    refine XS.iloadN X0.here hx rfl (hb hby d1_0) rfl ?_
    show Steps p.tables e below (s₁.setTop (mkF m 1 #[.val (.int vi0)] [(.int vi0)])) _
    refine XS.ifYes X0.here hx rfl (pc0 := 1) (pc' := 8) rfl (hb hby d1_1) rfl ((if0 _ _).trans (feq hc1).2) (by decide) (by decide) ?_
    show Steps p.tables e below (s₁.setTop (mkF m 8 #[.val (.int vi0)] [])) _
    refine XS.iloadN X0.here hx rfl (hb hby d1_8) rfl ?_
    show Steps p.tables e below (s₁.setTop (mkF m 9 #[.val (.int vi0)] [(.int vi0)])) _
    refine XS.iconst X0.here hx rfl (hb hby d1_9) ?_
    show Steps p.tables e below (s₁.setTop (mkF m 10 #[.val (.int vi0)] [(.int (1 : Int32)), (.int vi0)])) _
    refine XS.icmpYes X0.here hx rfl (pc0 := 10) (pc' := 17) rfl (hb hby d1_10) rfl (feq hc10).2 (by decide) (by decide) ?_
    show Steps p.tables e below (s₁.setTop (mkF m 17 #[.val (.int vi0)] [])) _
    refine XS.iloadN X0.here hx rfl (hb hby d1_17) rfl ?_
    show Steps p.tables e below (s₁.setTop (mkF m 18 #[.val (.int vi0)] [(.int vi0)])) _
    refine XS.iconst X0.here hx rfl (hb hby d1_18) ?_
    show Steps p.tables e below (s₁.setTop (mkF m 19 #[.val (.int vi0)] [(.int (2 : Int32)), (.int vi0)])) _
    refine XS.icmpYes X0.here hx rfl (pc0 := 19) (pc' := 26) rfl (hb hby d1_19) rfl (feq hc19).2 (by decide) (by decide) ?_
    show Steps p.tables e below (s₁.setTop (mkF m 26 #[.val (.int vi0)] [])) _
    refine XS.iloadN X0.here hx rfl (hb hby d1_26) rfl ?_
    show Steps p.tables e below (s₁.setTop (mkF m 27 #[.val (.int vi0)] [(.int vi0)])) _
    refine XS.iconst X0.here hx rfl (hb hby d1_27) ?_
    show Steps p.tables e below (s₁.setTop (mkF m 28 #[.val (.int vi0)] [(.int (3 : Int32)), (.int vi0)])) _
    refine XS.icmpYes X0.here hx rfl (pc0 := 28) (pc' := 35) rfl (hb hby d1_28) rfl (feq hc28).2 (by decide) (by decide) ?_
    show Steps p.tables e below (s₁.setTop (mkF m 35 #[.val (.int vi0)] [])) _
    refine XS.iloadN X0.here hx rfl (hb hby d1_35) rfl ?_
    show Steps p.tables e below (s₁.setTop (mkF m 36 #[.val (.int vi0)] [(.int vi0)])) _
    refine XS.iconst X0.here hx rfl (hb hby d1_36) ?_
    show Steps p.tables e below (s₁.setTop (mkF m 37 #[.val (.int vi0)] [(.int (4 : Int32)), (.int vi0)])) _
    refine XS.icmpYes X0.here hx rfl (pc0 := 37) (pc' := 44) rfl (hb hby d1_37) rfl (feq hc37).2 (by decide) (by decide) ?_
    show Steps p.tables e below (s₁.setTop (mkF m 44 #[.val (.int vi0)] [])) _
    refine XS.iloadN X0.here hx rfl (hb hby d1_44) rfl ?_
    show Steps p.tables e below (s₁.setTop (mkF m 45 #[.val (.int vi0)] [(.int vi0)])) _
    refine XS.iconst X0.here hx rfl (hb hby d1_45) ?_
    show Steps p.tables e below (s₁.setTop (mkF m 46 #[.val (.int vi0)] [(.int (5 : Int32)), (.int vi0)])) _
    refine XS.icmpYes X0.here hx rfl (pc0 := 46) (pc' := 53) rfl (hb hby d1_46) rfl (feq hc46).2 (by decide) (by decide) ?_
    show Steps p.tables e below (s₁.setTop (mkF m 53 #[.val (.int vi0)] [])) _
    refine XS.iloadN X0.here hx rfl (hb hby d1_53) rfl ?_
    show Steps p.tables e below (s₁.setTop (mkF m 54 #[.val (.int vi0)] [(.int vi0)])) _
    refine XS.bipush X0.here hx rfl (hb hby d1_54) ?_
    show Steps p.tables e below (s₁.setTop (mkF m 56 #[.val (.int vi0)] [(.int (6 : Int32)), (.int vi0)])) _
    refine XS.icmpYes X0.here hx rfl (pc0 := 56) (pc' := 63) rfl (hb hby d1_56) rfl (feq hc56).2 (by decide) (by decide) ?_
    show Steps p.tables e below (s₁.setTop (mkF m 63 #[.val (.int vi0)] [])) _
    refine XS.iloadN X0.here hx rfl (hb hby d1_63) rfl ?_
    show Steps p.tables e below (s₁.setTop (mkF m 64 #[.val (.int vi0)] [(.int vi0)])) _
    refine XS.bipush X0.here hx rfl (hb hby d1_64) ?_
    show Steps p.tables e below (s₁.setTop (mkF m 66 #[.val (.int vi0)] [(.int (7 : Int32)), (.int vi0)])) _
    refine XS.icmpYes X0.here hx rfl (pc0 := 66) (pc' := 73) rfl (hb hby d1_66) rfl (feq hc66).2 (by decide) (by decide) ?_
    show Steps p.tables e below (s₁.setTop (mkF m 73 #[.val (.int vi0)] [])) _
    refine XS.iloadN X0.here hx rfl (hb hby d1_73) rfl ?_
    show Steps p.tables e below (s₁.setTop (mkF m 74 #[.val (.int vi0)] [(.int vi0)])) _
    refine XS.bipush X0.here hx rfl (hb hby d1_74) ?_
    show Steps p.tables e below (s₁.setTop (mkF m 76 #[.val (.int vi0)] [(.int (8 : Int32)), (.int vi0)])) _
    refine XS.icmpNo X0.here hx rfl (hb hby d1_76) rfl (teq hc76).2 ?_
    show Steps p.tables e below (s₁.setTop (mkF m 79 #[.val (.int vi0)] [])) _
    refine st1 _ ?_
    show Steps p.tables e below (T1.setTop (mkF m 82 #[.val (.int vi0)] [(.ref w_VETERANS_DAY)])) _
    jvm_step X1.here [X1.here.top, hx, (hb hby d1_82), X1.method', Bd.returns, Value.isRef, FieldType.isReference]
    first | (intro acts; rw [hr _ acts rfl rfl rfl]) | rw [hr _ _ rfl rfl rfl]
    exact Steps.refl _
  · show Q1_o8 Z vi0 w_JUNETEENTH w_VETERANS_DAY h0 n0 _ T1.heap _
    rw [e1]
    exact ⟨w_VETERANS_DAY, rfl, N0, rfl, E_w_VETERANS_DAY, F_firstYear_w_VETERANS_DAY, nJ_w_VETERANS_DAY⟩
theorem d1_83 : decode method_3_code 83 = .ok (.iload_n 0, 1) := by decide +kernel
theorem d1_84 : decode method_3_code 84 = .ok (.bipush 9, 2) := by decide +kernel
theorem d1_86 : decode method_3_code 86 = .ok (.if_icmp .ne 7, 3) := by decide +kernel
theorem d1_89 : decode method_3_code 89 = .ok (.getstatic 47, 3) := by decide +kernel
theorem wd_30 {Z : State} {a0 : Array Value} (hw : ∀ d ∈ tables_1, d.before a0 Z = true) : ((Jvm.Cond.fieldLink "com/example/lintel/lintel/calendar/FederalHolidayKeptInPinLaw" (47 : Nat) "com/example/lintel/lintel/calendar/FederalHoliday" "THANKSGIVING_DAY" "Lcom/example/lintel/lintel/calendar/FederalHoliday;")).before a0 Z = true := hw _ (List.mem_of_getElem? (i := 30) rfl)
theorem d1_92 : decode method_3_code 92 = .ok (.areturn, 1) := by decide +kernel
theorem ef_1_o9 (m : MethodId) (x0 : Int32) : entryFrame m #[(.int x0)] 1 = mkF m 0 #[.val (.int x0)] [] := by first | (simp [entryFrame, mkF, argsToLocals, Value.category]; done) | rfl
def Q1_o9 (Z : State) (vi0 : Int32) (w_JUNETEENTH : Addr) (w_THANKSGIVING_DAY : Addr) (h0 : Heap) (n0 : Nat) (v : Option Value) (h : Heap) (L : List Loc) : Prop := ∃ w : Addr, v = some (.ref w) ∧ Fr n0 L ∧ h = h0 ∧ Exa Z Z.heap w "com/example/lintel/lintel/calendar/FederalHoliday" ∧ Fld Z Z.heap w "com/example/lintel/lintel/calendar/FederalHoliday" "firstYear" "I" (.int (1986 : Int32)) ∧ ¬ (w = w_JUNETEENTH)
set_option maxRecDepth 65536 in
set_option maxHeartbeats 40000000 in
theorem rm1_o9 (l : Launch) (Z : State) (a0 : Array Value) (hw : ∀ d ∈ tables_1, d.before a0 Z = true) (ws : List Jvm.Cond) (vi0 : Int32) (w_JUNETEENTH : Addr) (w_THANKSGIVING_DAY : Addr) (h0 : Heap) (n0 : Nat) (Z0 : n0 ≤ h0.size) (E_w_THANKSGIVING_DAY : Exa Z Z.heap w_THANKSGIVING_DAY "com/example/lintel/lintel/calendar/FederalHoliday") (F_firstYear_w_THANKSGIVING_DAY : Fld Z Z.heap w_THANKSGIVING_DAY "com/example/lintel/lintel/calendar/FederalHoliday" "firstYear" "I" (.int (1986 : Int32))) (nJ_w_THANKSGIVING_DAY : ¬ (w_THANKSGIVING_DAY = w_JUNETEENTH)) (hc1 : ¬ (vi0 = (0 : Int32))) (hc10 : ¬ (vi0 = (1 : Int32))) (hc19 : ¬ (vi0 = (2 : Int32))) (hc28 : ¬ (vi0 = (3 : Int32))) (hc37 : ¬ (vi0 = (4 : Int32))) (hc46 : ¬ (vi0 = (5 : Int32))) (hc56 : ¬ (vi0 = (6 : Int32))) (hc66 : ¬ (vi0 = (7 : Int32))) (hc76 : ¬ (vi0 = (8 : Int32))) (hc86 : vi0 = (9 : Int32)) (S_THANKSGIVING_DAY : Sta Z Z.heap "com/example/lintel/lintel/calendar/FederalHoliday" "THANKSGIVING_DAY" "Lcom/example/lintel/lintel/calendar/FederalHoliday;" (.ref w_THANKSGIVING_DAY)) (O0 : Old Z n0 h0) :
    MetFree l (⟨"com/example/lintel/lintel/calendar/FederalHolidayKeptInPinLaw", "pick", "(I)Lcom/example/lintel/lintel/calendar/FederalHoliday;"⟩ : MethodName) (head1 (Jvm.Cond.code (⟨"com/example/lintel/lintel/calendar/FederalHolidayKeptInPinLaw", "pick", "(I)Lcom/example/lintel/lintel/calendar/FederalHoliday;"⟩ : MethodName) method_3_code 1 (some (.object "com/example/lintel/lintel/calendar/FederalHoliday")) :: ws) ({ frames := 0, cells := 0, slots := 0, locals := 0 } : Room)) (fun a U => a = #[(.int vi0)] ∧ Z.Warmed39 U.vm ∧ U.heap = h0) (fun _ _ _ _ _ => True) (fun _ U o U' => ∃ v L, o = .returned v ∧ Q1_o9 Z vi0 w_JUNETEENTH w_THANKSGIVING_DAY h0 n0 v U'.heap L ∧ FrameEnd U o U' L ({ frames := 0, cells := 0, slots := 0, locals := 0 } : Room).cells ({ frames := 0, cells := 0, slots := 0, locals := 0 } : Room).slots) := by
  refine MetFree.of_bodySF (plainFor_of_name pn_com_example_lintel_lintel_calendar_FederalHolidayKeptInPinLaw) hisR ?_
  intro p e s m args below meth c s₁ Bd hml0 hP hK
  obtain ⟨rfl, hZ, hh⟩ := hP
  have hx := Bd.exec
  have hby := Bd.bytes
  have hml : c.maxLocals = 1 := hml0
  have hown : s.vm.findClass "com/example/lintel/lintel/calendar/FederalHolidayKeptInPinLaw" = some m.cls := findClass_of_methodNamed Bd.named
  have hnm := (name_of_methodNamed Bd.named Bd.method).1
  have X0 : Stand p l e ({ frames := 0, cells := 0, slots := 0, locals := 0 } : Room) s m #[(.int vi0)] below meth c s₁ [] 0 0 := Stand.of_body Bd
  have e0 : s₁.heap = h0 := by rw [← hh, Bd.state]; rfl
  have N0 := Fr.nil n0
  have pre0 : ∀ t, Steps p.tables e below (s₁.setTop (mkF m 0 #[.val (.int vi0)] [])) t → Steps p.tables e below (s₁.setTop (entryFrame m #[(.int vi0)] 1)) t := fun t k => castTop (ef_1_o9 m vi0) k
  obtain ⟨T1, X1, e1, st1⟩ := getS2 X0 hx hZ hown (host := "") (Or.inl (wd_30 hw)) Via.refl e0 (S_THANKSGIVING_DAY.ext O0.2) (g := (mkF m 89 #[.val (.int vi0)] [])) rfl (hb hby d1_89)
  obtain ⟨fs, hr, hrun, hended, hW, hsame⟩ := X1.leave (v := some (.ref w_THANKSGIVING_DAY)) (fun h => by rw [Bd.returns] at h; cases h)
  refine ⟨_, _, pre0 _ ?_, hrun, hended, _, _, rfl, ?_, ⟨_, rfl⟩, hW, hsame.mono (by decide) (by decide)⟩
  · show Steps p.tables e below (s₁.setTop (mkF m 0 #[.val (.int vi0)] [])) _
    refine XS.iloadN X0.here hx rfl (hb hby d1_0) rfl ?_
    show Steps p.tables e below (s₁.setTop (mkF m 1 #[.val (.int vi0)] [(.int vi0)])) _
    refine XS.ifYes X0.here hx rfl (pc0 := 1) (pc' := 8) rfl (hb hby d1_1) rfl ((if0 _ _).trans (feq hc1).2) (by decide) (by decide) ?_
    show Steps p.tables e below (s₁.setTop (mkF m 8 #[.val (.int vi0)] [])) _
    refine XS.iloadN X0.here hx rfl (hb hby d1_8) rfl ?_
    show Steps p.tables e below (s₁.setTop (mkF m 9 #[.val (.int vi0)] [(.int vi0)])) _
    refine XS.iconst X0.here hx rfl (hb hby d1_9) ?_
    show Steps p.tables e below (s₁.setTop (mkF m 10 #[.val (.int vi0)] [(.int (1 : Int32)), (.int vi0)])) _
    refine XS.icmpYes X0.here hx rfl (pc0 := 10) (pc' := 17) rfl (hb hby d1_10) rfl (feq hc10).2 (by decide) (by decide) ?_
    show Steps p.tables e below (s₁.setTop (mkF m 17 #[.val (.int vi0)] [])) _
    refine XS.iloadN X0.here hx rfl (hb hby d1_17) rfl ?_
    show Steps p.tables e below (s₁.setTop (mkF m 18 #[.val (.int vi0)] [(.int vi0)])) _
    refine XS.iconst X0.here hx rfl (hb hby d1_18) ?_
    show Steps p.tables e below (s₁.setTop (mkF m 19 #[.val (.int vi0)] [(.int (2 : Int32)), (.int vi0)])) _
    refine XS.icmpYes X0.here hx rfl (pc0 := 19) (pc' := 26) rfl (hb hby d1_19) rfl (feq hc19).2 (by decide) (by decide) ?_
    show Steps p.tables e below (s₁.setTop (mkF m 26 #[.val (.int vi0)] [])) _
    refine XS.iloadN X0.here hx rfl (hb hby d1_26) rfl ?_
    show Steps p.tables e below (s₁.setTop (mkF m 27 #[.val (.int vi0)] [(.int vi0)])) _
    refine XS.iconst X0.here hx rfl (hb hby d1_27) ?_
    show Steps p.tables e below (s₁.setTop (mkF m 28 #[.val (.int vi0)] [(.int (3 : Int32)), (.int vi0)])) _
    refine XS.icmpYes X0.here hx rfl (pc0 := 28) (pc' := 35) rfl (hb hby d1_28) rfl (feq hc28).2 (by decide) (by decide) ?_
    show Steps p.tables e below (s₁.setTop (mkF m 35 #[.val (.int vi0)] [])) _
    refine XS.iloadN X0.here hx rfl (hb hby d1_35) rfl ?_
    show Steps p.tables e below (s₁.setTop (mkF m 36 #[.val (.int vi0)] [(.int vi0)])) _
    refine XS.iconst X0.here hx rfl (hb hby d1_36) ?_
    show Steps p.tables e below (s₁.setTop (mkF m 37 #[.val (.int vi0)] [(.int (4 : Int32)), (.int vi0)])) _
    refine XS.icmpYes X0.here hx rfl (pc0 := 37) (pc' := 44) rfl (hb hby d1_37) rfl (feq hc37).2 (by decide) (by decide) ?_
    show Steps p.tables e below (s₁.setTop (mkF m 44 #[.val (.int vi0)] [])) _
    refine XS.iloadN X0.here hx rfl (hb hby d1_44) rfl ?_
    show Steps p.tables e below (s₁.setTop (mkF m 45 #[.val (.int vi0)] [(.int vi0)])) _
    refine XS.iconst X0.here hx rfl (hb hby d1_45) ?_
    show Steps p.tables e below (s₁.setTop (mkF m 46 #[.val (.int vi0)] [(.int (5 : Int32)), (.int vi0)])) _
    refine XS.icmpYes X0.here hx rfl (pc0 := 46) (pc' := 53) rfl (hb hby d1_46) rfl (feq hc46).2 (by decide) (by decide) ?_
    show Steps p.tables e below (s₁.setTop (mkF m 53 #[.val (.int vi0)] [])) _
    refine XS.iloadN X0.here hx rfl (hb hby d1_53) rfl ?_
    show Steps p.tables e below (s₁.setTop (mkF m 54 #[.val (.int vi0)] [(.int vi0)])) _
    refine XS.bipush X0.here hx rfl (hb hby d1_54) ?_
    show Steps p.tables e below (s₁.setTop (mkF m 56 #[.val (.int vi0)] [(.int (6 : Int32)), (.int vi0)])) _
    refine XS.icmpYes X0.here hx rfl (pc0 := 56) (pc' := 63) rfl (hb hby d1_56) rfl (feq hc56).2 (by decide) (by decide) ?_
    show Steps p.tables e below (s₁.setTop (mkF m 63 #[.val (.int vi0)] [])) _
    refine XS.iloadN X0.here hx rfl (hb hby d1_63) rfl ?_
    show Steps p.tables e below (s₁.setTop (mkF m 64 #[.val (.int vi0)] [(.int vi0)])) _
    refine XS.bipush X0.here hx rfl (hb hby d1_64) ?_
    show Steps p.tables e below (s₁.setTop (mkF m 66 #[.val (.int vi0)] [(.int (7 : Int32)), (.int vi0)])) _
    refine XS.icmpYes X0.here hx rfl (pc0 := 66) (pc' := 73) rfl (hb hby d1_66) rfl (feq hc66).2 (by decide) (by decide) ?_
    show Steps p.tables e below (s₁.setTop (mkF m 73 #[.val (.int vi0)] [])) _
    refine XS.iloadN X0.here hx rfl (hb hby d1_73) rfl ?_
    show Steps p.tables e below (s₁.setTop (mkF m 74 #[.val (.int vi0)] [(.int vi0)])) _
    refine XS.bipush X0.here hx rfl (hb hby d1_74) ?_
    show Steps p.tables e below (s₁.setTop (mkF m 76 #[.val (.int vi0)] [(.int (8 : Int32)), (.int vi0)])) _
    refine XS.icmpYes X0.here hx rfl (pc0 := 76) (pc' := 83) rfl (hb hby d1_76) rfl (feq hc76).2 (by decide) (by decide) ?_
    show Steps p.tables e below (s₁.setTop (mkF m 83 #[.val (.int vi0)] [])) _
    refine XS.iloadN X0.here hx rfl (hb hby d1_83) rfl ?_
    show Steps p.tables e below (s₁.setTop (mkF m 84 #[.val (.int vi0)] [(.int vi0)])) _
    refine XS.bipush X0.here hx rfl (hb hby d1_84) ?_
    show Steps p.tables e below (s₁.setTop (mkF m 86 #[.val (.int vi0)] [(.int (9 : Int32)), (.int vi0)])) _
    refine XS.icmpNo X0.here hx rfl (hb hby d1_86) rfl (teq hc86).2 ?_
    show Steps p.tables e below (s₁.setTop (mkF m 89 #[.val (.int vi0)] [])) _
    refine st1 _ ?_
    show Steps p.tables e below (T1.setTop (mkF m 92 #[.val (.int vi0)] [(.ref w_THANKSGIVING_DAY)])) _
    jvm_step X1.here [X1.here.top, hx, (hb hby d1_92), X1.method', Bd.returns, Value.isRef, FieldType.isReference]
    first | (intro acts; rw [hr _ acts rfl rfl rfl]) | rw [hr _ _ rfl rfl rfl]
    exact Steps.refl _
  · show Q1_o9 Z vi0 w_JUNETEENTH w_THANKSGIVING_DAY h0 n0 _ T1.heap _
    rw [e1]
    exact ⟨w_THANKSGIVING_DAY, rfl, N0, rfl, E_w_THANKSGIVING_DAY, F_firstYear_w_THANKSGIVING_DAY, nJ_w_THANKSGIVING_DAY⟩
theorem d1_93 : decode method_3_code 93 = .ok (.getstatic 50, 3) := by decide +kernel
theorem wd_18 {Z : State} {a0 : Array Value} (hw : ∀ d ∈ tables_1, d.before a0 Z = true) : ((Jvm.Cond.fieldLink "com/example/lintel/lintel/calendar/FederalHolidayKeptInPinLaw" (50 : Nat) "com/example/lintel/lintel/calendar/FederalHoliday" "CHRISTMAS_DAY" "Lcom/example/lintel/lintel/calendar/FederalHoliday;")).before a0 Z = true := hw _ (List.mem_of_getElem? (i := 18) rfl)
theorem d1_96 : decode method_3_code 96 = .ok (.areturn, 1) := by decide +kernel
theorem ef_1_o10 (m : MethodId) (x0 : Int32) : entryFrame m #[(.int x0)] 1 = mkF m 0 #[.val (.int x0)] [] := by first | (simp [entryFrame, mkF, argsToLocals, Value.category]; done) | rfl
def Q1_o10 (Z : State) (vi0 : Int32) (w_JUNETEENTH : Addr) (w_CHRISTMAS_DAY : Addr) (h0 : Heap) (n0 : Nat) (v : Option Value) (h : Heap) (L : List Loc) : Prop := ∃ w : Addr, v = some (.ref w) ∧ Fr n0 L ∧ h = h0 ∧ Exa Z Z.heap w "com/example/lintel/lintel/calendar/FederalHoliday" ∧ Fld Z Z.heap w "com/example/lintel/lintel/calendar/FederalHoliday" "firstYear" "I" (.int (1986 : Int32)) ∧ ¬ (w = w_JUNETEENTH)
set_option maxRecDepth 65536 in
set_option maxHeartbeats 40000000 in
theorem rm1_o10 (l : Launch) (Z : State) (a0 : Array Value) (hw : ∀ d ∈ tables_1, d.before a0 Z = true) (ws : List Jvm.Cond) (vi0 : Int32) (w_JUNETEENTH : Addr) (w_CHRISTMAS_DAY : Addr) (h0 : Heap) (n0 : Nat) (Z0 : n0 ≤ h0.size) (E_w_CHRISTMAS_DAY : Exa Z Z.heap w_CHRISTMAS_DAY "com/example/lintel/lintel/calendar/FederalHoliday") (F_firstYear_w_CHRISTMAS_DAY : Fld Z Z.heap w_CHRISTMAS_DAY "com/example/lintel/lintel/calendar/FederalHoliday" "firstYear" "I" (.int (1986 : Int32))) (nJ_w_CHRISTMAS_DAY : ¬ (w_CHRISTMAS_DAY = w_JUNETEENTH)) (hc1 : ¬ (vi0 = (0 : Int32))) (hc10 : ¬ (vi0 = (1 : Int32))) (hc19 : ¬ (vi0 = (2 : Int32))) (hc28 : ¬ (vi0 = (3 : Int32))) (hc37 : ¬ (vi0 = (4 : Int32))) (hc46 : ¬ (vi0 = (5 : Int32))) (hc56 : ¬ (vi0 = (6 : Int32))) (hc66 : ¬ (vi0 = (7 : Int32))) (hc76 : ¬ (vi0 = (8 : Int32))) (hc86 : ¬ (vi0 = (9 : Int32))) (S_CHRISTMAS_DAY : Sta Z Z.heap "com/example/lintel/lintel/calendar/FederalHoliday" "CHRISTMAS_DAY" "Lcom/example/lintel/lintel/calendar/FederalHoliday;" (.ref w_CHRISTMAS_DAY)) (O0 : Old Z n0 h0) :
    MetFree l (⟨"com/example/lintel/lintel/calendar/FederalHolidayKeptInPinLaw", "pick", "(I)Lcom/example/lintel/lintel/calendar/FederalHoliday;"⟩ : MethodName) (head1 (Jvm.Cond.code (⟨"com/example/lintel/lintel/calendar/FederalHolidayKeptInPinLaw", "pick", "(I)Lcom/example/lintel/lintel/calendar/FederalHoliday;"⟩ : MethodName) method_3_code 1 (some (.object "com/example/lintel/lintel/calendar/FederalHoliday")) :: ws) ({ frames := 0, cells := 0, slots := 0, locals := 0 } : Room)) (fun a U => a = #[(.int vi0)] ∧ Z.Warmed39 U.vm ∧ U.heap = h0) (fun _ _ _ _ _ => True) (fun _ U o U' => ∃ v L, o = .returned v ∧ Q1_o10 Z vi0 w_JUNETEENTH w_CHRISTMAS_DAY h0 n0 v U'.heap L ∧ FrameEnd U o U' L ({ frames := 0, cells := 0, slots := 0, locals := 0 } : Room).cells ({ frames := 0, cells := 0, slots := 0, locals := 0 } : Room).slots) := by
  refine MetFree.of_bodySF (plainFor_of_name pn_com_example_lintel_lintel_calendar_FederalHolidayKeptInPinLaw) hisR ?_
  intro p e s m args below meth c s₁ Bd hml0 hP hK
  obtain ⟨rfl, hZ, hh⟩ := hP
  have hx := Bd.exec
  have hby := Bd.bytes
  have hml : c.maxLocals = 1 := hml0
  have hown : s.vm.findClass "com/example/lintel/lintel/calendar/FederalHolidayKeptInPinLaw" = some m.cls := findClass_of_methodNamed Bd.named
  have hnm := (name_of_methodNamed Bd.named Bd.method).1
  have X0 : Stand p l e ({ frames := 0, cells := 0, slots := 0, locals := 0 } : Room) s m #[(.int vi0)] below meth c s₁ [] 0 0 := Stand.of_body Bd
  have e0 : s₁.heap = h0 := by rw [← hh, Bd.state]; rfl
  have N0 := Fr.nil n0
  have pre0 : ∀ t, Steps p.tables e below (s₁.setTop (mkF m 0 #[.val (.int vi0)] [])) t → Steps p.tables e below (s₁.setTop (entryFrame m #[(.int vi0)] 1)) t := fun t k => castTop (ef_1_o10 m vi0) k
  obtain ⟨T1, X1, e1, st1⟩ := getS2 X0 hx hZ hown (host := "") (Or.inl (wd_18 hw)) Via.refl e0 (S_CHRISTMAS_DAY.ext O0.2) (g := (mkF m 93 #[.val (.int vi0)] [])) rfl (hb hby d1_93)
  obtain ⟨fs, hr, hrun, hended, hW, hsame⟩ := X1.leave (v := some (.ref w_CHRISTMAS_DAY)) (fun h => by rw [Bd.returns] at h; cases h)
  refine ⟨_, _, pre0 _ ?_, hrun, hended, _, _, rfl, ?_, ⟨_, rfl⟩, hW, hsame.mono (by decide) (by decide)⟩
  · show Steps p.tables e below (s₁.setTop (mkF m 0 #[.val (.int vi0)] [])) _
    refine XS.iloadN X0.here hx rfl (hb hby d1_0) rfl ?_
    show Steps p.tables e below (s₁.setTop (mkF m 1 #[.val (.int vi0)] [(.int vi0)])) _
    refine XS.ifYes X0.here hx rfl (pc0 := 1) (pc' := 8) rfl (hb hby d1_1) rfl ((if0 _ _).trans (feq hc1).2) (by decide) (by decide) ?_
    show Steps p.tables e below (s₁.setTop (mkF m 8 #[.val (.int vi0)] [])) _
    refine XS.iloadN X0.here hx rfl (hb hby d1_8) rfl ?_
    show Steps p.tables e below (s₁.setTop (mkF m 9 #[.val (.int vi0)] [(.int vi0)])) _
    refine XS.iconst X0.here hx rfl (hb hby d1_9) ?_
    show Steps p.tables e below (s₁.setTop (mkF m 10 #[.val (.int vi0)] [(.int (1 : Int32)), (.int vi0)])) _
    refine XS.icmpYes X0.here hx rfl (pc0 := 10) (pc' := 17) rfl (hb hby d1_10) rfl (feq hc10).2 (by decide) (by decide) ?_
    show Steps p.tables e below (s₁.setTop (mkF m 17 #[.val (.int vi0)] [])) _
    refine XS.iloadN X0.here hx rfl (hb hby d1_17) rfl ?_
    show Steps p.tables e below (s₁.setTop (mkF m 18 #[.val (.int vi0)] [(.int vi0)])) _
    refine XS.iconst X0.here hx rfl (hb hby d1_18) ?_
    show Steps p.tables e below (s₁.setTop (mkF m 19 #[.val (.int vi0)] [(.int (2 : Int32)), (.int vi0)])) _
    refine XS.icmpYes X0.here hx rfl (pc0 := 19) (pc' := 26) rfl (hb hby d1_19) rfl (feq hc19).2 (by decide) (by decide) ?_
    show Steps p.tables e below (s₁.setTop (mkF m 26 #[.val (.int vi0)] [])) _
    refine XS.iloadN X0.here hx rfl (hb hby d1_26) rfl ?_
    show Steps p.tables e below (s₁.setTop (mkF m 27 #[.val (.int vi0)] [(.int vi0)])) _
    refine XS.iconst X0.here hx rfl (hb hby d1_27) ?_
    show Steps p.tables e below (s₁.setTop (mkF m 28 #[.val (.int vi0)] [(.int (3 : Int32)), (.int vi0)])) _
    refine XS.icmpYes X0.here hx rfl (pc0 := 28) (pc' := 35) rfl (hb hby d1_28) rfl (feq hc28).2 (by decide) (by decide) ?_
    show Steps p.tables e below (s₁.setTop (mkF m 35 #[.val (.int vi0)] [])) _
    refine XS.iloadN X0.here hx rfl (hb hby d1_35) rfl ?_
    show Steps p.tables e below (s₁.setTop (mkF m 36 #[.val (.int vi0)] [(.int vi0)])) _
    refine XS.iconst X0.here hx rfl (hb hby d1_36) ?_
    show Steps p.tables e below (s₁.setTop (mkF m 37 #[.val (.int vi0)] [(.int (4 : Int32)), (.int vi0)])) _
    refine XS.icmpYes X0.here hx rfl (pc0 := 37) (pc' := 44) rfl (hb hby d1_37) rfl (feq hc37).2 (by decide) (by decide) ?_
    show Steps p.tables e below (s₁.setTop (mkF m 44 #[.val (.int vi0)] [])) _
    refine XS.iloadN X0.here hx rfl (hb hby d1_44) rfl ?_
    show Steps p.tables e below (s₁.setTop (mkF m 45 #[.val (.int vi0)] [(.int vi0)])) _
    refine XS.iconst X0.here hx rfl (hb hby d1_45) ?_
    show Steps p.tables e below (s₁.setTop (mkF m 46 #[.val (.int vi0)] [(.int (5 : Int32)), (.int vi0)])) _
    refine XS.icmpYes X0.here hx rfl (pc0 := 46) (pc' := 53) rfl (hb hby d1_46) rfl (feq hc46).2 (by decide) (by decide) ?_
    show Steps p.tables e below (s₁.setTop (mkF m 53 #[.val (.int vi0)] [])) _
    refine XS.iloadN X0.here hx rfl (hb hby d1_53) rfl ?_
    show Steps p.tables e below (s₁.setTop (mkF m 54 #[.val (.int vi0)] [(.int vi0)])) _
    refine XS.bipush X0.here hx rfl (hb hby d1_54) ?_
    show Steps p.tables e below (s₁.setTop (mkF m 56 #[.val (.int vi0)] [(.int (6 : Int32)), (.int vi0)])) _
    refine XS.icmpYes X0.here hx rfl (pc0 := 56) (pc' := 63) rfl (hb hby d1_56) rfl (feq hc56).2 (by decide) (by decide) ?_
    show Steps p.tables e below (s₁.setTop (mkF m 63 #[.val (.int vi0)] [])) _
    refine XS.iloadN X0.here hx rfl (hb hby d1_63) rfl ?_
    show Steps p.tables e below (s₁.setTop (mkF m 64 #[.val (.int vi0)] [(.int vi0)])) _
    refine XS.bipush X0.here hx rfl (hb hby d1_64) ?_
    show Steps p.tables e below (s₁.setTop (mkF m 66 #[.val (.int vi0)] [(.int (7 : Int32)), (.int vi0)])) _
    refine XS.icmpYes X0.here hx rfl (pc0 := 66) (pc' := 73) rfl (hb hby d1_66) rfl (feq hc66).2 (by decide) (by decide) ?_
    show Steps p.tables e below (s₁.setTop (mkF m 73 #[.val (.int vi0)] [])) _
    refine XS.iloadN X0.here hx rfl (hb hby d1_73) rfl ?_
    show Steps p.tables e below (s₁.setTop (mkF m 74 #[.val (.int vi0)] [(.int vi0)])) _
    refine XS.bipush X0.here hx rfl (hb hby d1_74) ?_
    show Steps p.tables e below (s₁.setTop (mkF m 76 #[.val (.int vi0)] [(.int (8 : Int32)), (.int vi0)])) _
    refine XS.icmpYes X0.here hx rfl (pc0 := 76) (pc' := 83) rfl (hb hby d1_76) rfl (feq hc76).2 (by decide) (by decide) ?_
    show Steps p.tables e below (s₁.setTop (mkF m 83 #[.val (.int vi0)] [])) _
    refine XS.iloadN X0.here hx rfl (hb hby d1_83) rfl ?_
    show Steps p.tables e below (s₁.setTop (mkF m 84 #[.val (.int vi0)] [(.int vi0)])) _
    refine XS.bipush X0.here hx rfl (hb hby d1_84) ?_
    show Steps p.tables e below (s₁.setTop (mkF m 86 #[.val (.int vi0)] [(.int (9 : Int32)), (.int vi0)])) _
    refine XS.icmpYes X0.here hx rfl (pc0 := 86) (pc' := 93) rfl (hb hby d1_86) rfl (feq hc86).2 (by decide) (by decide) ?_
    show Steps p.tables e below (s₁.setTop (mkF m 93 #[.val (.int vi0)] [])) _
    refine st1 _ ?_
    show Steps p.tables e below (T1.setTop (mkF m 96 #[.val (.int vi0)] [(.ref w_CHRISTMAS_DAY)])) _
    jvm_step X1.here [X1.here.top, hx, (hb hby d1_96), X1.method', Bd.returns, Value.isRef, FieldType.isReference]
    first | (intro acts; rw [hr _ acts rfl rfl rfl]) | rw [hr _ _ rfl rfl rfl]
    exact Steps.refl _
  · show Q1_o10 Z vi0 w_JUNETEENTH w_CHRISTMAS_DAY h0 n0 _ T1.heap _
    rw [e1]
    exact ⟨w_CHRISTMAS_DAY, rfl, N0, rfl, E_w_CHRISTMAS_DAY, F_firstYear_w_CHRISTMAS_DAY, nJ_w_CHRISTMAS_DAY⟩
def QP_O (Z : State) (vi0 : Int32) (w_JUNETEENTH : Addr) (w_NEW_YEARS_DAY : Addr) (w_BIRTHDAY_OF_MARTIN_LUTHER_KING_JR : Addr) (w_WASHINGTONS_BIRTHDAY : Addr) (w_MEMORIAL_DAY : Addr) (w_INDEPENDENCE_DAY : Addr) (w_LABOR_DAY : Addr) (w_COLUMBUS_DAY : Addr) (w_VETERANS_DAY : Addr) (w_THANKSGIVING_DAY : Addr) (w_CHRISTMAS_DAY : Addr) (h0 : Heap) (n0 : Nat) (v : Option Value) (h : Heap) (L : List Loc) : Prop := ∃ w : Addr, v = some (.ref w) ∧ Fr n0 L ∧ h = h0 ∧ Exa Z Z.heap w "com/example/lintel/lintel/calendar/FederalHoliday" ∧ Fld Z Z.heap w "com/example/lintel/lintel/calendar/FederalHoliday" "firstYear" "I" (.int (1986 : Int32)) ∧ ¬ (w = w_JUNETEENTH)
set_option maxRecDepth 65536 in
set_option maxHeartbeats 4000000 in
theorem rmP_O (l : Launch) (Z : State) (a0 : Array Value) (hw : ∀ d ∈ tables_1, d.before a0 Z = true) (ws : List Jvm.Cond) (vi0 : Int32) (w_JUNETEENTH : Addr) (w_NEW_YEARS_DAY : Addr) (w_BIRTHDAY_OF_MARTIN_LUTHER_KING_JR : Addr) (w_WASHINGTONS_BIRTHDAY : Addr) (w_MEMORIAL_DAY : Addr) (w_INDEPENDENCE_DAY : Addr) (w_LABOR_DAY : Addr) (w_COLUMBUS_DAY : Addr) (w_VETERANS_DAY : Addr) (w_THANKSGIVING_DAY : Addr) (w_CHRISTMAS_DAY : Addr) (h0 : Heap) (n0 : Nat) (Z0 : n0 ≤ h0.size) (hO : ¬ (vi0 = (4 : Int32))) (E_w_NEW_YEARS_DAY : Exa Z Z.heap w_NEW_YEARS_DAY "com/example/lintel/lintel/calendar/FederalHoliday") (F_firstYear_w_NEW_YEARS_DAY : Fld Z Z.heap w_NEW_YEARS_DAY "com/example/lintel/lintel/calendar/FederalHoliday" "firstYear" "I" (.int (1986 : Int32))) (nJ_w_NEW_YEARS_DAY : ¬ (w_NEW_YEARS_DAY = w_JUNETEENTH)) (S_NEW_YEARS_DAY : Sta Z Z.heap "com/example/lintel/lintel/calendar/FederalHoliday" "NEW_YEARS_DAY" "Lcom/example/lintel/lintel/calendar/FederalHoliday;" (.ref w_NEW_YEARS_DAY)) (O0 : Old Z n0 h0) (E_w_BIRTHDAY_OF_MARTIN_LUTHER_KING_JR : Exa Z Z.heap w_BIRTHDAY_OF_MARTIN_LUTHER_KING_JR "com/example/lintel/lintel/calendar/FederalHoliday") (F_firstYear_w_BIRTHDAY_OF_MARTIN_LUTHER_KING_JR : Fld Z Z.heap w_BIRTHDAY_OF_MARTIN_LUTHER_KING_JR "com/example/lintel/lintel/calendar/FederalHoliday" "firstYear" "I" (.int (1986 : Int32))) (nJ_w_BIRTHDAY_OF_MARTIN_LUTHER_KING_JR : ¬ (w_BIRTHDAY_OF_MARTIN_LUTHER_KING_JR = w_JUNETEENTH)) (S_BIRTHDAY_OF_MARTIN_LUTHER_KING_JR : Sta Z Z.heap "com/example/lintel/lintel/calendar/FederalHoliday" "BIRTHDAY_OF_MARTIN_LUTHER_KING_JR" "Lcom/example/lintel/lintel/calendar/FederalHoliday;" (.ref w_BIRTHDAY_OF_MARTIN_LUTHER_KING_JR)) (E_w_WASHINGTONS_BIRTHDAY : Exa Z Z.heap w_WASHINGTONS_BIRTHDAY "com/example/lintel/lintel/calendar/FederalHoliday") (F_firstYear_w_WASHINGTONS_BIRTHDAY : Fld Z Z.heap w_WASHINGTONS_BIRTHDAY "com/example/lintel/lintel/calendar/FederalHoliday" "firstYear" "I" (.int (1986 : Int32))) (nJ_w_WASHINGTONS_BIRTHDAY : ¬ (w_WASHINGTONS_BIRTHDAY = w_JUNETEENTH)) (S_WASHINGTONS_BIRTHDAY : Sta Z Z.heap "com/example/lintel/lintel/calendar/FederalHoliday" "WASHINGTONS_BIRTHDAY" "Lcom/example/lintel/lintel/calendar/FederalHoliday;" (.ref w_WASHINGTONS_BIRTHDAY)) (E_w_MEMORIAL_DAY : Exa Z Z.heap w_MEMORIAL_DAY "com/example/lintel/lintel/calendar/FederalHoliday") (F_firstYear_w_MEMORIAL_DAY : Fld Z Z.heap w_MEMORIAL_DAY "com/example/lintel/lintel/calendar/FederalHoliday" "firstYear" "I" (.int (1986 : Int32))) (nJ_w_MEMORIAL_DAY : ¬ (w_MEMORIAL_DAY = w_JUNETEENTH)) (S_MEMORIAL_DAY : Sta Z Z.heap "com/example/lintel/lintel/calendar/FederalHoliday" "MEMORIAL_DAY" "Lcom/example/lintel/lintel/calendar/FederalHoliday;" (.ref w_MEMORIAL_DAY)) (E_w_INDEPENDENCE_DAY : Exa Z Z.heap w_INDEPENDENCE_DAY "com/example/lintel/lintel/calendar/FederalHoliday") (F_firstYear_w_INDEPENDENCE_DAY : Fld Z Z.heap w_INDEPENDENCE_DAY "com/example/lintel/lintel/calendar/FederalHoliday" "firstYear" "I" (.int (1986 : Int32))) (nJ_w_INDEPENDENCE_DAY : ¬ (w_INDEPENDENCE_DAY = w_JUNETEENTH)) (S_INDEPENDENCE_DAY : Sta Z Z.heap "com/example/lintel/lintel/calendar/FederalHoliday" "INDEPENDENCE_DAY" "Lcom/example/lintel/lintel/calendar/FederalHoliday;" (.ref w_INDEPENDENCE_DAY)) (E_w_LABOR_DAY : Exa Z Z.heap w_LABOR_DAY "com/example/lintel/lintel/calendar/FederalHoliday") (F_firstYear_w_LABOR_DAY : Fld Z Z.heap w_LABOR_DAY "com/example/lintel/lintel/calendar/FederalHoliday" "firstYear" "I" (.int (1986 : Int32))) (nJ_w_LABOR_DAY : ¬ (w_LABOR_DAY = w_JUNETEENTH)) (S_LABOR_DAY : Sta Z Z.heap "com/example/lintel/lintel/calendar/FederalHoliday" "LABOR_DAY" "Lcom/example/lintel/lintel/calendar/FederalHoliday;" (.ref w_LABOR_DAY)) (E_w_COLUMBUS_DAY : Exa Z Z.heap w_COLUMBUS_DAY "com/example/lintel/lintel/calendar/FederalHoliday") (F_firstYear_w_COLUMBUS_DAY : Fld Z Z.heap w_COLUMBUS_DAY "com/example/lintel/lintel/calendar/FederalHoliday" "firstYear" "I" (.int (1986 : Int32))) (nJ_w_COLUMBUS_DAY : ¬ (w_COLUMBUS_DAY = w_JUNETEENTH)) (S_COLUMBUS_DAY : Sta Z Z.heap "com/example/lintel/lintel/calendar/FederalHoliday" "COLUMBUS_DAY" "Lcom/example/lintel/lintel/calendar/FederalHoliday;" (.ref w_COLUMBUS_DAY)) (E_w_VETERANS_DAY : Exa Z Z.heap w_VETERANS_DAY "com/example/lintel/lintel/calendar/FederalHoliday") (F_firstYear_w_VETERANS_DAY : Fld Z Z.heap w_VETERANS_DAY "com/example/lintel/lintel/calendar/FederalHoliday" "firstYear" "I" (.int (1986 : Int32))) (nJ_w_VETERANS_DAY : ¬ (w_VETERANS_DAY = w_JUNETEENTH)) (S_VETERANS_DAY : Sta Z Z.heap "com/example/lintel/lintel/calendar/FederalHoliday" "VETERANS_DAY" "Lcom/example/lintel/lintel/calendar/FederalHoliday;" (.ref w_VETERANS_DAY)) (E_w_THANKSGIVING_DAY : Exa Z Z.heap w_THANKSGIVING_DAY "com/example/lintel/lintel/calendar/FederalHoliday") (F_firstYear_w_THANKSGIVING_DAY : Fld Z Z.heap w_THANKSGIVING_DAY "com/example/lintel/lintel/calendar/FederalHoliday" "firstYear" "I" (.int (1986 : Int32))) (nJ_w_THANKSGIVING_DAY : ¬ (w_THANKSGIVING_DAY = w_JUNETEENTH)) (S_THANKSGIVING_DAY : Sta Z Z.heap "com/example/lintel/lintel/calendar/FederalHoliday" "THANKSGIVING_DAY" "Lcom/example/lintel/lintel/calendar/FederalHoliday;" (.ref w_THANKSGIVING_DAY)) (E_w_CHRISTMAS_DAY : Exa Z Z.heap w_CHRISTMAS_DAY "com/example/lintel/lintel/calendar/FederalHoliday") (F_firstYear_w_CHRISTMAS_DAY : Fld Z Z.heap w_CHRISTMAS_DAY "com/example/lintel/lintel/calendar/FederalHoliday" "firstYear" "I" (.int (1986 : Int32))) (nJ_w_CHRISTMAS_DAY : ¬ (w_CHRISTMAS_DAY = w_JUNETEENTH)) (S_CHRISTMAS_DAY : Sta Z Z.heap "com/example/lintel/lintel/calendar/FederalHoliday" "CHRISTMAS_DAY" "Lcom/example/lintel/lintel/calendar/FederalHoliday;" (.ref w_CHRISTMAS_DAY)) :
    MetFree l (⟨"com/example/lintel/lintel/calendar/FederalHolidayKeptInPinLaw", "pick", "(I)Lcom/example/lintel/lintel/calendar/FederalHoliday;"⟩ : MethodName) (head1 (Jvm.Cond.code (⟨"com/example/lintel/lintel/calendar/FederalHolidayKeptInPinLaw", "pick", "(I)Lcom/example/lintel/lintel/calendar/FederalHoliday;"⟩ : MethodName) method_3_code 1 (some (.object "com/example/lintel/lintel/calendar/FederalHoliday")) :: ws) ({ frames := 0, cells := 0, slots := 0, locals := 0 } : Room)) (fun a U => a = #[(.int vi0)] ∧ Z.Warmed39 U.vm ∧ U.heap = h0) (fun _ _ _ _ _ => True) (fun _ U o U' => ∃ v L, o = .returned v ∧ QP_O Z vi0 w_JUNETEENTH w_NEW_YEARS_DAY w_BIRTHDAY_OF_MARTIN_LUTHER_KING_JR w_WASHINGTONS_BIRTHDAY w_MEMORIAL_DAY w_INDEPENDENCE_DAY w_LABOR_DAY w_COLUMBUS_DAY w_VETERANS_DAY w_THANKSGIVING_DAY w_CHRISTMAS_DAY h0 n0 v U'.heap L ∧ FrameEnd U o U' L ({ frames := 0, cells := 0, slots := 0, locals := 0 } : Room).cells ({ frames := 0, cells := 0, slots := 0, locals := 0 } : Room).slots) := by
  by_cases hc1 : vi0 = (0 : Int32)
  · exact rm1_o0 l Z a0 hw ws vi0 w_JUNETEENTH w_NEW_YEARS_DAY h0 n0 Z0 E_w_NEW_YEARS_DAY F_firstYear_w_NEW_YEARS_DAY nJ_w_NEW_YEARS_DAY hc1 S_NEW_YEARS_DAY O0
  · skip
    by_cases hc10 : vi0 = (1 : Int32)
    · exact rm1_o1 l Z a0 hw ws vi0 w_JUNETEENTH w_BIRTHDAY_OF_MARTIN_LUTHER_KING_JR h0 n0 Z0 E_w_BIRTHDAY_OF_MARTIN_LUTHER_KING_JR F_firstYear_w_BIRTHDAY_OF_MARTIN_LUTHER_KING_JR nJ_w_BIRTHDAY_OF_MARTIN_LUTHER_KING_JR hc1 hc10 S_BIRTHDAY_OF_MARTIN_LUTHER_KING_JR O0
    · skip
      by_cases hc19 : vi0 = (2 : Int32)
      · exact rm1_o2 l Z a0 hw ws vi0 w_JUNETEENTH w_WASHINGTONS_BIRTHDAY h0 n0 Z0 E_w_WASHINGTONS_BIRTHDAY F_firstYear_w_WASHINGTONS_BIRTHDAY nJ_w_WASHINGTONS_BIRTHDAY hc1 hc10 hc19 S_WASHINGTONS_BIRTHDAY O0
      · skip
        by_cases hc28 : vi0 = (3 : Int32)
        · exact rm1_o3 l Z a0 hw ws vi0 w_JUNETEENTH w_MEMORIAL_DAY h0 n0 Z0 E_w_MEMORIAL_DAY F_firstYear_w_MEMORIAL_DAY nJ_w_MEMORIAL_DAY hc1 hc10 hc19 hc28 S_MEMORIAL_DAY O0
        · skip
          have hc37 : ¬ (vi0 = (4 : Int32)) := hO
          by_cases hc46 : vi0 = (5 : Int32)
          · exact rm1_o5 l Z a0 hw ws vi0 w_JUNETEENTH w_INDEPENDENCE_DAY h0 n0 Z0 E_w_INDEPENDENCE_DAY F_firstYear_w_INDEPENDENCE_DAY nJ_w_INDEPENDENCE_DAY hc1 hc10 hc19 hc28 hc37 hc46 S_INDEPENDENCE_DAY O0
          · skip
            by_cases hc56 : vi0 = (6 : Int32)
            · exact rm1_o6 l Z a0 hw ws vi0 w_JUNETEENTH w_LABOR_DAY h0 n0 Z0 E_w_LABOR_DAY F_firstYear_w_LABOR_DAY nJ_w_LABOR_DAY hc1 hc10 hc19 hc28 hc37 hc46 hc56 S_LABOR_DAY O0
            · skip
              by_cases hc66 : vi0 = (7 : Int32)
              · exact rm1_o7 l Z a0 hw ws vi0 w_JUNETEENTH w_COLUMBUS_DAY h0 n0 Z0 E_w_COLUMBUS_DAY F_firstYear_w_COLUMBUS_DAY nJ_w_COLUMBUS_DAY hc1 hc10 hc19 hc28 hc37 hc46 hc56 hc66 S_COLUMBUS_DAY O0
              · skip
                by_cases hc76 : vi0 = (8 : Int32)
                · exact rm1_o8 l Z a0 hw ws vi0 w_JUNETEENTH w_VETERANS_DAY h0 n0 Z0 E_w_VETERANS_DAY F_firstYear_w_VETERANS_DAY nJ_w_VETERANS_DAY hc1 hc10 hc19 hc28 hc37 hc46 hc56 hc66 hc76 S_VETERANS_DAY O0
                · skip
                  by_cases hc86 : vi0 = (9 : Int32)
                  · exact rm1_o9 l Z a0 hw ws vi0 w_JUNETEENTH w_THANKSGIVING_DAY h0 n0 Z0 E_w_THANKSGIVING_DAY F_firstYear_w_THANKSGIVING_DAY nJ_w_THANKSGIVING_DAY hc1 hc10 hc19 hc28 hc37 hc46 hc56 hc66 hc76 hc86 S_THANKSGIVING_DAY O0
                  · skip
                    exact rm1_o10 l Z a0 hw ws vi0 w_JUNETEENTH w_CHRISTMAS_DAY h0 n0 Z0 E_w_CHRISTMAS_DAY F_firstYear_w_CHRISTMAS_DAY nJ_w_CHRISTMAS_DAY hc1 hc10 hc19 hc28 hc37 hc46 hc56 hc66 hc76 hc86 S_CHRISTMAS_DAY O0
def QP_J (Z : State) (vi0 : Int32) (w_JUNETEENTH : Addr) (h0 : Heap) (n0 : Nat) (v : Option Value) (h : Heap) (L : List Loc) : Prop := v = some (.ref w_JUNETEENTH) ∧ Fr n0 L ∧ h = h0
set_option maxRecDepth 65536 in
set_option maxHeartbeats 4000000 in
theorem rmP_J (l : Launch) (Z : State) (a0 : Array Value) (hw : ∀ d ∈ tables_1, d.before a0 Z = true) (ws : List Jvm.Cond) (vi0 : Int32) (w_JUNETEENTH : Addr) (h0 : Heap) (n0 : Nat) (Z0 : n0 ≤ h0.size) (hJ : vi0 = (4 : Int32)) (S_JUNETEENTH : Sta Z Z.heap "com/example/lintel/lintel/calendar/FederalHoliday" "JUNETEENTH" "Lcom/example/lintel/lintel/calendar/FederalHoliday;" (.ref w_JUNETEENTH)) (O0 : Old Z n0 h0) :
    MetFree l (⟨"com/example/lintel/lintel/calendar/FederalHolidayKeptInPinLaw", "pick", "(I)Lcom/example/lintel/lintel/calendar/FederalHoliday;"⟩ : MethodName) (head1 (Jvm.Cond.code (⟨"com/example/lintel/lintel/calendar/FederalHolidayKeptInPinLaw", "pick", "(I)Lcom/example/lintel/lintel/calendar/FederalHoliday;"⟩ : MethodName) method_3_code 1 (some (.object "com/example/lintel/lintel/calendar/FederalHoliday")) :: ws) ({ frames := 0, cells := 0, slots := 0, locals := 0 } : Room)) (fun a U => a = #[(.int vi0)] ∧ Z.Warmed39 U.vm ∧ U.heap = h0) (fun _ _ _ _ _ => True) (fun _ U o U' => ∃ v L, o = .returned v ∧ QP_J Z vi0 w_JUNETEENTH h0 n0 v U'.heap L ∧ FrameEnd U o U' L ({ frames := 0, cells := 0, slots := 0, locals := 0 } : Room).cells ({ frames := 0, cells := 0, slots := 0, locals := 0 } : Room).slots) := by
  exact rm1_J0 l Z a0 hw ws vi0 w_JUNETEENTH h0 n0 Z0 (by rw [hJ]; decide) (by rw [hJ]; decide) (by rw [hJ]; decide) (by rw [hJ]; decide) hJ S_JUNETEENTH O0
theorem d2_0 : decode prog_16_method_7_code 0 = .ok (.iload_n 1, 1) := by decide +kernel
theorem d2_1 : decode prog_16_method_7_code 1 = .ok (.aload_n 0, 1) := by decide +kernel
theorem d2_2 : decode prog_16_method_7_code 2 = .ok (.getfield 74, 3) := by decide +kernel
theorem wd_14 {Z : State} {a0 : Array Value} (hw : ∀ d ∈ tables_1, d.before a0 Z = true) : ((Jvm.Cond.fieldLink "com/example/lintel/lintel/calendar/FederalHoliday" (74 : Nat) "com/example/lintel/lintel/calendar/FederalHoliday" "firstYear" "I")).before a0 Z = true := hw _ (List.mem_of_getElem? (i := 14) rfl)
theorem d2_5 : decode prog_16_method_7_code 5 = .ok (.if_icmp .lt 7, 3) := by decide +kernel
theorem d2_12 : decode prog_16_method_7_code 12 = .ok (.iconst 0, 1) := by decide +kernel
theorem d2_13 : decode prog_16_method_7_code 13 = .ok (.ireturn, 1) := by decide +kernel
theorem pn_com_example_lintel_lintel_calendar_FederalHoliday : plainName "com/example/lintel/lintel/calendar/FederalHoliday" = true := by first | (simp [plainName, overriddenIn]; done) | decide +kernel
theorem ef_2_t (m : MethodId) (x0 : Addr) (x1 : Int32) : entryFrame m #[(.ref x0), (.int x1)] 2 = mkF m 0 #[.val (.ref x0), .val (.int x1)] [] := by first | (simp [entryFrame, mkF, argsToLocals, Value.category]; done) | rfl
def Q2_t (Z : State) (vr0 : Addr) (vi1 : Int32) (w_firstYear_vr0 : Int32) (h0 : Heap) (n0 : Nat) (v : Option Value) (h : Heap) (L : List Loc) : Prop := v = some (.int (0 : Int32)) ∧ Fr n0 L ∧ h = h0
set_option maxRecDepth 65536 in
set_option maxHeartbeats 40000000 in
theorem rm2_t (l : Launch) (Z : State) (a0 : Array Value) (hw : ∀ d ∈ tables_1, d.before a0 Z = true) (ws : List Jvm.Cond) (vr0 : Addr) (vi1 : Int32) (w_firstYear_vr0 : Int32) (h0 : Heap) (n0 : Nat) (Z0 : n0 ≤ h0.size) (F_firstYear_vr0 : Fld Z h0 vr0 "com/example/lintel/lintel/calendar/FederalHoliday" "firstYear" "I" (.int w_firstYear_vr0)) (hc5 : vi1 < w_firstYear_vr0) :
    MetFree l (⟨"com/example/lintel/lintel/calendar/FederalHoliday", "keptIn", "(I)Z"⟩ : MethodName) (head1 (Jvm.Cond.code (⟨"com/example/lintel/lintel/calendar/FederalHoliday", "keptIn", "(I)Z"⟩ : MethodName) prog_16_method_7_code 2 (some .boolean) :: ws) ({ frames := 0, cells := 0, slots := 0, locals := 0 } : Room)) (fun a U => a = #[(.ref vr0), (.int vi1)] ∧ Z.Warmed39 U.vm ∧ U.heap = h0) (fun _ _ _ _ _ => True) (fun _ U o U' => ∃ v L, o = .returned v ∧ Q2_t Z vr0 vi1 w_firstYear_vr0 h0 n0 v U'.heap L ∧ FrameEnd U o U' L ({ frames := 0, cells := 0, slots := 0, locals := 0 } : Room).cells ({ frames := 0, cells := 0, slots := 0, locals := 0 } : Room).slots) := by
  refine MetFree.of_bodySF (plainFor_of_name pn_com_example_lintel_lintel_calendar_FederalHoliday) hisR ?_
  intro p e s m args below meth c s₁ Bd hml0 hP hK
  obtain ⟨rfl, hZ, hh⟩ := hP
  have hx := Bd.exec
  have hby := Bd.bytes
  have hml : c.maxLocals = 2 := hml0
  have hown : s.vm.findClass "com/example/lintel/lintel/calendar/FederalHoliday" = some m.cls := findClass_of_methodNamed Bd.named
  have hnm := (name_of_methodNamed Bd.named Bd.method).1
  have X0 : Stand p l e ({ frames := 0, cells := 0, slots := 0, locals := 0 } : Room) s m #[(.ref vr0), (.int vi1)] below meth c s₁ [] 0 0 := Stand.of_body Bd
  have e0 : s₁.heap = h0 := by rw [← hh, Bd.state]; rfl
  have N0 := Fr.nil n0
  have pre0 : ∀ t, Steps p.tables e below (s₁.setTop (mkF m 0 #[.val (.ref vr0), .val (.int vi1)] [])) t → Steps p.tables e below (s₁.setTop (entryFrame m #[(.ref vr0), (.int vi1)] 2)) t := fun t k => castTop (ef_2_t m vr0 vi1) k
  obtain ⟨T1, X1, e1, st1⟩ := getF X0 hx hZ hown (host := "") (Or.inl (wd_14 hw)) Via.refl e0 F_firstYear_vr0 (g := (mkF m 2 #[.val (.ref vr0), .val (.int vi1)] [(.ref vr0), (.int vi1)])) rfl rfl (hb hby d2_2)
  obtain ⟨fs, hr, hrun, hended, hW, hsame⟩ := X1.leave (v := some (.int (0 : Int32))) (fun h => by rw [Bd.returns] at h; cases h)
  refine ⟨_, _, pre0 _ ?_, hrun, hended, _, _, rfl, ?_, ⟨_, rfl⟩, hW, hsame.mono (by decide) (by decide)⟩
  · show Steps p.tables e below (s₁.setTop (mkF m 0 #[.val (.ref vr0), .val (.int vi1)] [])) _
    refine XS.iloadN X0.here hx rfl (hb hby d2_0) rfl ?_
    show Steps p.tables e below (s₁.setTop (mkF m 1 #[.val (.ref vr0), .val (.int vi1)] [(.int vi1)])) _
    refine XS.aloadN X0.here hx rfl (hb hby d2_1) rfl rfl ?_
    show Steps p.tables e below (s₁.setTop (mkF m 2 #[.val (.ref vr0), .val (.int vi1)] [(.ref vr0), (.int vi1)])) _
    refine st1 _ ?_
    show Steps p.tables e below (T1.setTop (mkF m 5 #[.val (.ref vr0), .val (.int vi1)] [(.int w_firstYear_vr0), (.int vi1)])) _
    refine XS.icmpYes X1.here hx rfl (pc0 := 5) (pc' := 12) rfl (hb hby d2_5) rfl (tlt hc5).1 (by decide) (by decide) ?_
    show Steps p.tables e below (T1.setTop (mkF m 12 #[.val (.ref vr0), .val (.int vi1)] [])) _
    refine XS.iconst X1.here hx rfl (hb hby d2_12) ?_
    show Steps p.tables e below (T1.setTop (mkF m 13 #[.val (.ref vr0), .val (.int vi1)] [(.int (0 : Int32))])) _
    exact retN X1 hx (t := .boolean) Bd.returns (by simp) (hb hby d2_13) hr
  · show Q2_t Z vr0 vi1 w_firstYear_vr0 h0 n0 _ T1.heap _
    rw [e1]
    exact ⟨rfl, N0, rfl⟩
theorem d2_8 : decode prog_16_method_7_code 8 = .ok (.iconst 1, 1) := by decide +kernel
theorem d2_9 : decode prog_16_method_7_code 9 = .ok (.goto 4, 3) := by decide +kernel
theorem ef_2_f (m : MethodId) (x0 : Addr) (x1 : Int32) : entryFrame m #[(.ref x0), (.int x1)] 2 = mkF m 0 #[.val (.ref x0), .val (.int x1)] [] := by first | (simp [entryFrame, mkF, argsToLocals, Value.category]; done) | rfl
def Q2_f (Z : State) (vr0 : Addr) (vi1 : Int32) (w_firstYear_vr0 : Int32) (h0 : Heap) (n0 : Nat) (v : Option Value) (h : Heap) (L : List Loc) : Prop := v = some (.int (1 : Int32)) ∧ Fr n0 L ∧ h = h0
set_option maxRecDepth 65536 in
set_option maxHeartbeats 40000000 in
theorem rm2_f (l : Launch) (Z : State) (a0 : Array Value) (hw : ∀ d ∈ tables_1, d.before a0 Z = true) (ws : List Jvm.Cond) (vr0 : Addr) (vi1 : Int32) (w_firstYear_vr0 : Int32) (h0 : Heap) (n0 : Nat) (Z0 : n0 ≤ h0.size) (F_firstYear_vr0 : Fld Z h0 vr0 "com/example/lintel/lintel/calendar/FederalHoliday" "firstYear" "I" (.int w_firstYear_vr0)) (hc5 : ¬ (vi1 < w_firstYear_vr0)) :
    MetFree l (⟨"com/example/lintel/lintel/calendar/FederalHoliday", "keptIn", "(I)Z"⟩ : MethodName) (head1 (Jvm.Cond.code (⟨"com/example/lintel/lintel/calendar/FederalHoliday", "keptIn", "(I)Z"⟩ : MethodName) prog_16_method_7_code 2 (some .boolean) :: ws) ({ frames := 0, cells := 0, slots := 0, locals := 0 } : Room)) (fun a U => a = #[(.ref vr0), (.int vi1)] ∧ Z.Warmed39 U.vm ∧ U.heap = h0) (fun _ _ _ _ _ => True) (fun _ U o U' => ∃ v L, o = .returned v ∧ Q2_f Z vr0 vi1 w_firstYear_vr0 h0 n0 v U'.heap L ∧ FrameEnd U o U' L ({ frames := 0, cells := 0, slots := 0, locals := 0 } : Room).cells ({ frames := 0, cells := 0, slots := 0, locals := 0 } : Room).slots) := by
  refine MetFree.of_bodySF (plainFor_of_name pn_com_example_lintel_lintel_calendar_FederalHoliday) hisR ?_
  intro p e s m args below meth c s₁ Bd hml0 hP hK
  obtain ⟨rfl, hZ, hh⟩ := hP
  have hx := Bd.exec
  have hby := Bd.bytes
  have hml : c.maxLocals = 2 := hml0
  have hown : s.vm.findClass "com/example/lintel/lintel/calendar/FederalHoliday" = some m.cls := findClass_of_methodNamed Bd.named
  have hnm := (name_of_methodNamed Bd.named Bd.method).1
  have X0 : Stand p l e ({ frames := 0, cells := 0, slots := 0, locals := 0 } : Room) s m #[(.ref vr0), (.int vi1)] below meth c s₁ [] 0 0 := Stand.of_body Bd
  have e0 : s₁.heap = h0 := by rw [← hh, Bd.state]; rfl
  have N0 := Fr.nil n0
  have pre0 : ∀ t, Steps p.tables e below (s₁.setTop (mkF m 0 #[.val (.ref vr0), .val (.int vi1)] [])) t → Steps p.tables e below (s₁.setTop (entryFrame m #[(.ref vr0), (.int vi1)] 2)) t := fun t k => castTop (ef_2_f m vr0 vi1) k
  obtain ⟨T1, X1, e1, st1⟩ := getF X0 hx hZ hown (host := "") (Or.inl (wd_14 hw)) Via.refl e0 F_firstYear_vr0 (g := (mkF m 2 #[.val (.ref vr0), .val (.int vi1)] [(.ref vr0), (.int vi1)])) rfl rfl (hb hby d2_2)
  obtain ⟨fs, hr, hrun, hended, hW, hsame⟩ := X1.leave (v := some (.int (1 : Int32))) (fun h => by rw [Bd.returns] at h; cases h)
  refine ⟨_, _, pre0 _ ?_, hrun, hended, _, _, rfl, ?_, ⟨_, rfl⟩, hW, hsame.mono (by decide) (by decide)⟩
  · show Steps p.tables e below (s₁.setTop (mkF m 0 #[.val (.ref vr0), .val (.int vi1)] [])) _
    refine XS.iloadN X0.here hx rfl (hb hby d2_0) rfl ?_
    show Steps p.tables e below (s₁.setTop (mkF m 1 #[.val (.ref vr0), .val (.int vi1)] [(.int vi1)])) _
    refine XS.aloadN X0.here hx rfl (hb hby d2_1) rfl rfl ?_
    show Steps p.tables e below (s₁.setTop (mkF m 2 #[.val (.ref vr0), .val (.int vi1)] [(.ref vr0), (.int vi1)])) _
    refine st1 _ ?_
    show Steps p.tables e below (T1.setTop (mkF m 5 #[.val (.ref vr0), .val (.int vi1)] [(.int w_firstYear_vr0), (.int vi1)])) _
    refine XS.icmpNo X1.here hx rfl (hb hby d2_5) rfl (flt hc5).1 ?_
    show Steps p.tables e below (T1.setTop (mkF m 8 #[.val (.ref vr0), .val (.int vi1)] [])) _
    refine XS.iconst X1.here hx rfl (hb hby d2_8) ?_
    show Steps p.tables e below (T1.setTop (mkF m 9 #[.val (.ref vr0), .val (.int vi1)] [(.int (1 : Int32))])) _
    refine XS.goto X1.here hx rfl (pc0 := 9) (pc' := 13) rfl (hb hby d2_9) (by decide) (by decide) ?_
    show Steps p.tables e below (T1.setTop (mkF m 13 #[.val (.ref vr0), .val (.int vi1)] [(.int (1 : Int32))])) _
    exact retN X1 hx (t := .boolean) Bd.returns (by simp) (hb hby d2_13) hr
  · show Q2_f Z vr0 vi1 w_firstYear_vr0 h0 n0 _ T1.heap _
    rw [e1]
    exact ⟨rfl, N0, rfl⟩
theorem wd_0 {Z : State} {a0 : Array Value} (hw : ∀ d ∈ tables_1, d.before a0 Z = true) : ((Jvm.Cond.methodLink "com/example/lintel/lintel/calendar/FederalHolidayKeptInPinLaw" (7 : Nat) ({ cls := "com/example/lintel/lintel/calendar/FederalHolidayKeptInPinLaw", name := "pick", desc := "(I)Lcom/example/lintel/lintel/calendar/FederalHoliday;" } : Jvm.MethodName))).before a0 Z = true := hw _ (List.mem_of_getElem? (i := 0) rfl)
theorem wd_3 {Z : State} {a0 : Array Value} (hw : ∀ d ∈ tables_1, d.before a0 Z = true) : ((Jvm.Cond.code ({ cls := "com/example/lintel/lintel/calendar/FederalHolidayKeptInPinLaw", name := "pick", desc := "(I)Lcom/example/lintel/lintel/calendar/FederalHoliday;" } : Jvm.MethodName) method_3_code (1 : Nat) (Option.some (Jvm.ClassFile.FieldType.object "com/example/lintel/lintel/calendar/FederalHoliday")))).before a0 Z = true := hw _ (List.mem_of_getElem? (i := 3) rfl)
theorem wd_2 {Z : State} {a0 : Array Value} (hw : ∀ d ∈ tables_1, d.before a0 Z = true) : ((Jvm.Cond.initialized "com/example/lintel/lintel/calendar/FederalHolidayKeptInPinLaw")).before a0 Z = true := hw _ (List.mem_of_getElem? (i := 2) rfl)
theorem pd_0 : parseMethodDescriptor "(I)Lcom/example/lintel/lintel/calendar/FederalHoliday;" = some ⟨[.int], some (.object "com/example/lintel/lintel/calendar/FederalHoliday")⟩ := by decide +kernel
theorem wd_1 {Z : State} {a0 : Array Value} (hw : ∀ d ∈ tables_1, d.before a0 Z = true) : ((Jvm.Cond.static ({ cls := "com/example/lintel/lintel/calendar/FederalHolidayKeptInPinLaw", name := "pick", desc := "(I)Lcom/example/lintel/lintel/calendar/FederalHoliday;" } : Jvm.MethodName))).before a0 Z = true := hw _ (List.mem_of_getElem? (i := 1) rfl)
theorem wd_9 {Z : State} {a0 : Array Value} (hw : ∀ d ∈ tables_1, d.before a0 Z = true) : ((Jvm.Cond.methodLink "com/example/lintel/lintel/calendar/FederalHolidayKeptInPinLaw" (19 : Nat) ({ cls := "com/example/lintel/lintel/calendar/FederalHoliday", name := "keptIn", desc := "(I)Z" } : Jvm.MethodName))).before a0 Z = true := hw _ (List.mem_of_getElem? (i := 9) rfl)
theorem wd_13 {Z : State} {a0 : Array Value} (hw : ∀ d ∈ tables_1, d.before a0 Z = true) : ((Jvm.Cond.code ({ cls := "com/example/lintel/lintel/calendar/FederalHoliday", name := "keptIn", desc := "(I)Z" } : Jvm.MethodName) prog_16_method_7_code (2 : Nat) (Option.some Jvm.ClassFile.FieldType.boolean))).before a0 Z = true := hw _ (List.mem_of_getElem? (i := 13) rfl)
theorem wd_5 {Z : State} {a0 : Array Value} (hw : ∀ d ∈ tables_1, d.before a0 Z = true) : ((Jvm.Cond.initialized "com/example/lintel/lintel/calendar/FederalHoliday")).before a0 Z = true := hw _ (List.mem_of_getElem? (i := 5) rfl)
theorem pd_1 : parseMethodDescriptor "(I)Z" = some ⟨[.int], some .boolean⟩ := by decide +kernel
theorem wd_12 {Z : State} {a0 : Array Value} (hw : ∀ d ∈ tables_1, d.before a0 Z = true) : ((Jvm.Cond.selects "com/example/lintel/lintel/calendar/FederalHoliday" ({ cls := "com/example/lintel/lintel/calendar/FederalHoliday", name := "keptIn", desc := "(I)Z" } : Jvm.MethodName) ({ cls := "com/example/lintel/lintel/calendar/FederalHoliday", name := "keptIn", desc := "(I)Z" } : Jvm.MethodName))).before a0 Z = true := hw _ (List.mem_of_getElem? (i := 12) rfl)
theorem wd_10 {Z : State} {a0 : Array Value} (hw : ∀ d ∈ tables_1, d.before a0 Z = true) : ((Jvm.Cond.declares ({ cls := "com/example/lintel/lintel/calendar/FederalHoliday", name := "keptIn", desc := "(I)Z" } : Jvm.MethodName))).before a0 Z = true := hw _ (List.mem_of_getElem? (i := 10) rfl)
theorem wd_11 {Z : State} {a0 : Array Value} (hw : ∀ d ∈ tables_1, d.before a0 Z = true) : ((Jvm.Cond.instanceMethod ({ cls := "com/example/lintel/lintel/calendar/FederalHoliday", name := "keptIn", desc := "(I)Z" } : Jvm.MethodName))).before a0 Z = true := hw _ (List.mem_of_getElem? (i := 11) rfl)
theorem ef_0_Jff (m : MethodId) (x0 : Int32) (x1 : Int32) : entryFrame m #[(.int x0), (.int x1)] maxLocals = mkF m 0 #[.val (.int x0), .val (.int x1), .unset, .unset, .unset, .unset, .unset] [] := by first | (simp [entryFrame, mkF, argsToLocals, Value.category, maxLocals]; done) | rfl
def Q0_Jff (Z : State) (vi0 : Int32) (vi1 : Int32) (w_JUNETEENTH : Addr) (h0 : Heap) (n0 : Nat) (v : Option Value) (h : Heap) (L : List Loc) : Prop := v = some (.int (1 : Int32)) ∧ Fr n0 L
set_option maxRecDepth 65536 in
set_option maxHeartbeats 40000000 in
theorem rm0_Jff (l : Launch) (Z : State) (a0 : Array Value) (hw : ∀ d ∈ tables_1, d.before a0 Z = true) (ws : List Jvm.Cond) (vi0 : Int32) (vi1 : Int32) (w_JUNETEENTH : Addr) (h0 : Heap) (n0 : Nat) (Z0 : n0 ≤ h0.size) (E_w_JUNETEENTH : Exa Z Z.heap w_JUNETEENTH "com/example/lintel/lintel/calendar/FederalHoliday") (F_firstYear_w_JUNETEENTH : Fld Z Z.heap w_JUNETEENTH "com/example/lintel/lintel/calendar/FederalHoliday" "firstYear" "I" (.int (2022 : Int32))) (O0 : Old Z n0 h0) (c8_hJ : (((vi0.toUInt32 >>> ((1 : Int32) &&& 31).toUInt32).toInt32) % (11 : Int32)) = (4 : Int32)) (S_JUNETEENTH : Sta Z Z.heap "com/example/lintel/lintel/calendar/FederalHoliday" "JUNETEENTH" "Lcom/example/lintel/lintel/calendar/FederalHoliday;" (.ref w_JUNETEENTH)) (hc33 : (vi0 &&& (1 : Int32)) = (0 : Int32)) (hc55 : ¬ (vi1 < (2022 : Int32))) :
    MetFree l x (head1 (Jvm.Cond.code x code maxLocals ret :: ws) room_1) (fun a U => a = #[(.int vi0), (.int vi1)] ∧ Z.Warmed39 U.vm ∧ U.heap = h0) (fun _ _ _ _ _ => True) (fun _ U o U' => ∃ v L, o = .returned v ∧ Q0_Jff Z vi0 vi1 w_JUNETEENTH h0 n0 v U'.heap L ∧ FrameEnd U o U' L room_1.cells room_1.slots) := by
  refine MetFree.of_bodySF (plainFor_of_name pn_com_example_lintel_lintel_calendar_FederalHolidayKeptInPinLaw) hisR ?_
  intro p e s m args below meth c s₁ Bd hml0 hP hK
  obtain ⟨rfl, hZ, hh⟩ := hP
  have hx := Bd.exec
  have hby := Bd.bytes
  have hml : c.maxLocals = 7 := hml0
  have hown : s.vm.findClass "com/example/lintel/lintel/calendar/FederalHolidayKeptInPinLaw" = some m.cls := findClass_of_methodNamed Bd.named
  have hnm := (name_of_methodNamed Bd.named Bd.method).1
  have X0 : Stand p l e room_1 s m #[(.int vi0), (.int vi1)] below meth c s₁ [] 0 0 := Stand.of_body Bd
  have e0 : s₁.heap = h0 := by rw [← hh, Bd.state]; rfl
  have N0 := Fr.nil n0
  have pre0 : ∀ t, Steps p.tables e below (s₁.setTop (mkF m 0 #[.val (.int vi0), .val (.int vi1), .unset, .unset, .unset, .unset, .unset] [])) t → Steps p.tables e below (s₁.setTop (entryFrame m #[(.int vi0), (.int vi1)] maxLocals)) t := fun t k => castTop (ef_0_Jff m vi0 vi1) k
  obtain ⟨_, _, ⟨T1, L1, k1, n1⟩, -, X1, ⟨Lc1, hQ1, l1, y1, z1⟩, st1⟩ := Jvm.LawKit.callS X0 hx (y := (⟨"com/example/lintel/lintel/calendar/FederalHolidayKeptInPinLaw", "pick", "(I)Lcom/example/lintel/lintel/calendar/FederalHoliday;"⟩ : MethodName)) hown (mvT hZ (wd_0 hw)) (mvT hZ (wd_1 hw)) (mvT hZ (wd_2 hw)) (mvT hZ (wd_3 hw)) (by decide) (backOf (W := 0) (rmP_J l Z a0 hw [] (((vi0.toUInt32 >>> ((1 : Int32) &&& 31).toUInt32).toInt32) % (11 : Int32)) w_JUNETEENTH h0 n0 Z0 c8_hJ S_JUNETEENTH O0) hZ (wd_3 hw) (wd_2 hw) (by decide) (by decide)) (g := (mkF m 8 #[.val (.int vi0), .val (.int vi1), .val (.int (((vi0.toUInt32 >>> ((1 : Int32) &&& 31).toUInt32).toInt32) % (11 : Int32))), .unset, .unset, .unset, .unset] [(.int (((vi0.toUInt32 >>> ((1 : Int32) &&& 31).toUInt32).toInt32) % (11 : Int32)))])) rfl (by rw [hml]; rfl) (argsL := [(.int (((vi0.toUInt32 >>> ((1 : Int32) &&& 31).toUInt32).toInt32) % (11 : Int32)))]) (rest := []) (lenOf pd_0 rfl) rfl (by show 2 * 0 + _ ≤ _; exact Nat.le_of_eq rfl) (hb hby at_8) (fun _ _ => ⟨rfl, e0, (by decide : 0 + 0 ≤ _), (by decide : 0 + 0 ≤ _)⟩)
  dsimp only [Pt.U, Pt.locs, Pt.cells, Pt.slots] at X1 l1 y1 z1 st1 hQ1
  subst l1 y1 z1
  obtain ⟨rfl, N1q, p1_0⟩ := hQ1
  have N1 := Fr.app N0 N1q
  have e1 : T1.heap = h0 := p1_0
  obtain ⟨T2, X2, e2, st2⟩ := getS2 X1 hx hZ hown (host := "") (Or.inl (wd_7 hw)) Via.refl e1 (S_JUNETEENTH.ext O0.2) (g := (mkF m 13 #[.val (.int vi0), .val (.int vi1), .val (.int (((vi0.toUInt32 >>> ((1 : Int32) &&& 31).toUInt32).toInt32) % (11 : Int32))), .val (.ref w_JUNETEENTH), .unset, .unset, .unset] [(.ref w_JUNETEENTH)])) rfl (hb hby at_13)
  obtain ⟨cq3, kq3, q3a, q3b, q3c⟩ := isOf hZ e2 (E_w_JUNETEENTH.ext O0.2)
  obtain ⟨_, _, ⟨T3, L3, k3, n3⟩, -, X3, ⟨Lc3, hQ3, l3, y3, z3⟩, st3⟩ := X2.virtualBack hx (y := (⟨"com/example/lintel/lintel/calendar/FederalHoliday", "keptIn", "(I)Z"⟩ : MethodName)) (z := (⟨"com/example/lintel/lintel/calendar/FederalHoliday", "keptIn", "(I)Z"⟩ : MethodName)) hown (mvT hZ (wd_9 hw)) (mvT hZ (wd_10 hw)) (notFace_of_selects (args := #[]) (mvT hZ (wd_12 hw))) (mvT hZ (wd_12 hw)) (mvT hZ (wd_11 hw)) (by decide) (backOf (W := 0) (rm2_f l Z a0 hw [] w_JUNETEENTH vi1 (2022 : Int32) h0 n0 Z0 (F_firstYear_w_JUNETEENTH.ext O0.2) hc55) hZ (wd_13 hw) (wd_5 hw) (by decide) (by decide)) q3a q3c (g := (mkF m 68 #[.val (.int vi0), .val (.int vi1), .val (.int (((vi0.toUInt32 >>> ((1 : Int32) &&& 31).toUInt32).toInt32) % (11 : Int32))), .val (.ref w_JUNETEENTH), .val (.int (2022 : Int32)), .val (.int vi1), .val (.int (1 : Int32))] [(.int vi1), (.ref w_JUNETEENTH)])) rfl (by rw [hml]; rfl) (Steps.refl _) (argsL := [(.int vi1)]) (rest := []) (lenOf pd_1 rfl) rfl (by show 2 * 0 + _ ≤ _; exact Nat.le_of_eq rfl) (hb hby at_68) (fun _ _ => ⟨rfl, e2, (by decide : 0 + 0 ≤ _), (by decide : 0 + 0 ≤ _)⟩)
  dsimp only [Pt.U, Pt.locs, Pt.cells, Pt.slots] at X3 l3 y3 z3 st3 hQ3
  subst l3 y3 z3
  obtain ⟨rfl, N3q, p3_0⟩ := hQ3
  have N3 := Fr.app N1 N3q
  have e3 : T3.heap = h0 := p3_0
  obtain ⟨fs, hr, hrun, hended, hW, hsame⟩ := X3.leave (v := some (.int (1 : Int32))) (fun h => by rw [Bd.returns] at h; cases h)
  refine ⟨_, _, pre0 _ ?_, hrun, hended, _, _, rfl, ?_, ⟨_, rfl⟩, hW, hsame.mono (by decide) (by decide)⟩
  · show Steps p.tables e below (s₁.setTop (mkF m 0 #[.val (.int vi0), .val (.int vi1), .unset, .unset, .unset, .unset, .unset] [])) _
    refine XS.iloadN X0.here hx rfl (hb hby at_0) rfl ?_
    show Steps p.tables e below (s₁.setTop (mkF m 1 #[.val (.int vi0), .val (.int vi1), .unset, .unset, .unset, .unset, .unset] [(.int vi0)])) _
    refine XS.iconst X0.here hx rfl (hb hby at_1) ?_
    show Steps p.tables e below (s₁.setTop (mkF m 2 #[.val (.int vi0), .val (.int vi1), .unset, .unset, .unset, .unset, .unset] [(.int (1 : Int32)), (.int vi0)])) _
    refine XS.iushr X0.here hx rfl (hb hby at_2) rfl ?_
    show Steps p.tables e below (s₁.setTop (mkF m 3 #[.val (.int vi0), .val (.int vi1), .unset, .unset, .unset, .unset, .unset] [(.int ((vi0.toUInt32 >>> ((1 : Int32) &&& 31).toUInt32).toInt32))])) _
    refine XS.bipush X0.here hx rfl (hb hby at_3) ?_
    show Steps p.tables e below (s₁.setTop (mkF m 5 #[.val (.int vi0), .val (.int vi1), .unset, .unset, .unset, .unset, .unset] [(.int (11 : Int32)), (.int ((vi0.toUInt32 >>> ((1 : Int32) &&& 31).toUInt32).toInt32))])) _
    refine iremM X0 hx rfl (hb hby at_5) rfl (by decide) ?_
    show Steps p.tables e below (s₁.setTop (mkF m 6 #[.val (.int vi0), .val (.int vi1), .unset, .unset, .unset, .unset, .unset] [(.int (((vi0.toUInt32 >>> ((1 : Int32) &&& 31).toUInt32).toInt32) % (11 : Int32)))])) _
    refine XS.istoreN X0.here hx rfl (hb hby at_6) rfl (l' := #[.val (.int vi0), .val (.int vi1), .val (.int (((vi0.toUInt32 >>> ((1 : Int32) &&& 31).toUInt32).toInt32) % (11 : Int32))), .unset, .unset, .unset, .unset]) rfl ?_
    show Steps p.tables e below (s₁.setTop (mkF m 7 #[.val (.int vi0), .val (.int vi1), .val (.int (((vi0.toUInt32 >>> ((1 : Int32) &&& 31).toUInt32).toInt32) % (11 : Int32))), .unset, .unset, .unset, .unset] [])) _
    refine XS.iloadN X0.here hx rfl (hb hby at_7) rfl ?_
    show Steps p.tables e below (s₁.setTop (mkF m 8 #[.val (.int vi0), .val (.int vi1), .val (.int (((vi0.toUInt32 >>> ((1 : Int32) &&& 31).toUInt32).toInt32) % (11 : Int32))), .unset, .unset, .unset, .unset] [(.int (((vi0.toUInt32 >>> ((1 : Int32) &&& 31).toUInt32).toInt32) % (11 : Int32)))])) _
    refine st1 _ ?_
    show Steps p.tables e below (T1.setTop (mkF m 11 #[.val (.int vi0), .val (.int vi1), .val (.int (((vi0.toUInt32 >>> ((1 : Int32) &&& 31).toUInt32).toInt32) % (11 : Int32))), .unset, .unset, .unset, .unset] [(.ref w_JUNETEENTH)])) _
    refine XS.astoreN X1.here hx rfl (hb hby at_11) rfl rfl (l' := #[.val (.int vi0), .val (.int vi1), .val (.int (((vi0.toUInt32 >>> ((1 : Int32) &&& 31).toUInt32).toInt32) % (11 : Int32))), .val (.ref w_JUNETEENTH), .unset, .unset, .unset]) rfl ?_
    show Steps p.tables e below (T1.setTop (mkF m 12 #[.val (.int vi0), .val (.int vi1), .val (.int (((vi0.toUInt32 >>> ((1 : Int32) &&& 31).toUInt32).toInt32) % (11 : Int32))), .val (.ref w_JUNETEENTH), .unset, .unset, .unset] [])) _
    refine XS.aloadN X1.here hx rfl (hb hby at_12) rfl rfl ?_
    show Steps p.tables e below (T1.setTop (mkF m 13 #[.val (.int vi0), .val (.int vi1), .val (.int (((vi0.toUInt32 >>> ((1 : Int32) &&& 31).toUInt32).toInt32) % (11 : Int32))), .val (.ref w_JUNETEENTH), .unset, .unset, .unset] [(.ref w_JUNETEENTH)])) _
    refine st2 _ ?_
    show Steps p.tables e below (T2.setTop (mkF m 16 #[.val (.int vi0), .val (.int vi1), .val (.int (((vi0.toUInt32 >>> ((1 : Int32) &&& 31).toUInt32).toInt32) % (11 : Int32))), .val (.ref w_JUNETEENTH), .unset, .unset, .unset] [(.ref w_JUNETEENTH), (.ref w_JUNETEENTH)])) _
    refine Jvm.RoadKit.acmp (g := (mkF m 16 #[.val (.int vi0), .val (.int vi1), .val (.int (((vi0.toUInt32 >>> ((1 : Int32) &&& 31).toUInt32).toInt32) % (11 : Int32))), .val (.ref w_JUNETEENTH), .unset, .unset, .unset] [(.ref w_JUNETEENTH), (.ref w_JUNETEENTH)])) X2 hx rfl rfl rfl (pc0 := 16) (pc' := 19) (same := true) rfl (hb hby at_16) rfl (decide_eq_true rfl) (by decide) (by decide) ?_
    show Steps p.tables e below (T2.setTop (mkF m 19 #[.val (.int vi0), .val (.int vi1), .val (.int (((vi0.toUInt32 >>> ((1 : Int32) &&& 31).toUInt32).toInt32) % (11 : Int32))), .val (.ref w_JUNETEENTH), .unset, .unset, .unset] [])) _
    refine XS.sipush X2.here hx rfl (hb hby at_19) ?_
    show Steps p.tables e below (T2.setTop (mkF m 22 #[.val (.int vi0), .val (.int vi1), .val (.int (((vi0.toUInt32 >>> ((1 : Int32) &&& 31).toUInt32).toInt32) % (11 : Int32))), .val (.ref w_JUNETEENTH), .unset, .unset, .unset] [(.int (2022 : Int32))])) _
    refine XS.goto X2.here hx rfl (pc0 := 22) (pc' := 28) rfl (hb hby at_22) (by decide) (by decide) ?_
    show Steps p.tables e below (T2.setTop (mkF m 28 #[.val (.int vi0), .val (.int vi1), .val (.int (((vi0.toUInt32 >>> ((1 : Int32) &&& 31).toUInt32).toInt32) % (11 : Int32))), .val (.ref w_JUNETEENTH), .unset, .unset, .unset] [(.int (2022 : Int32))])) _
    refine XS.istore X2.here hx rfl (hb hby at_28) rfl (l' := #[.val (.int vi0), .val (.int vi1), .val (.int (((vi0.toUInt32 >>> ((1 : Int32) &&& 31).toUInt32).toInt32) % (11 : Int32))), .val (.ref w_JUNETEENTH), .val (.int (2022 : Int32)), .unset, .unset]) rfl ?_
    show Steps p.tables e below (T2.setTop (mkF m 30 #[.val (.int vi0), .val (.int vi1), .val (.int (((vi0.toUInt32 >>> ((1 : Int32) &&& 31).toUInt32).toInt32) % (11 : Int32))), .val (.ref w_JUNETEENTH), .val (.int (2022 : Int32)), .unset, .unset] [])) _
    refine XS.iloadN X2.here hx rfl (hb hby at_30) rfl ?_
    show Steps p.tables e below (T2.setTop (mkF m 31 #[.val (.int vi0), .val (.int vi1), .val (.int (((vi0.toUInt32 >>> ((1 : Int32) &&& 31).toUInt32).toInt32) % (11 : Int32))), .val (.ref w_JUNETEENTH), .val (.int (2022 : Int32)), .unset, .unset] [(.int vi0)])) _
    refine XS.iconst X2.here hx rfl (hb hby at_31) ?_
    show Steps p.tables e below (T2.setTop (mkF m 32 #[.val (.int vi0), .val (.int vi1), .val (.int (((vi0.toUInt32 >>> ((1 : Int32) &&& 31).toUInt32).toInt32) % (11 : Int32))), .val (.ref w_JUNETEENTH), .val (.int (2022 : Int32)), .unset, .unset] [(.int (1 : Int32)), (.int vi0)])) _
    refine XS.iand X2.here hx rfl (hb hby at_32) rfl ?_
    show Steps p.tables e below (T2.setTop (mkF m 33 #[.val (.int vi0), .val (.int vi1), .val (.int (((vi0.toUInt32 >>> ((1 : Int32) &&& 31).toUInt32).toInt32) % (11 : Int32))), .val (.ref w_JUNETEENTH), .val (.int (2022 : Int32)), .unset, .unset] [(.int (vi0 &&& (1 : Int32)))])) _
    refine XS.ifNo X2.here hx rfl (hb hby at_33) rfl ((if0 _ _).trans (teq hc33).2) ?_
    show Steps p.tables e below (T2.setTop (mkF m 36 #[.val (.int vi0), .val (.int vi1), .val (.int (((vi0.toUInt32 >>> ((1 : Int32) &&& 31).toUInt32).toInt32) % (11 : Int32))), .val (.ref w_JUNETEENTH), .val (.int (2022 : Int32)), .unset, .unset] [])) _
    refine XS.iloadN X2.here hx rfl (hb hby at_36) rfl ?_
    show Steps p.tables e below (T2.setTop (mkF m 37 #[.val (.int vi0), .val (.int vi1), .val (.int (((vi0.toUInt32 >>> ((1 : Int32) &&& 31).toUInt32).toInt32) % (11 : Int32))), .val (.ref w_JUNETEENTH), .val (.int (2022 : Int32)), .unset, .unset] [(.int vi1)])) _
    refine XS.goto X2.here hx rfl (pc0 := 37) (pc' := 49) rfl (hb hby at_37) (by decide) (by decide) ?_
    show Steps p.tables e below (T2.setTop (mkF m 49 #[.val (.int vi0), .val (.int vi1), .val (.int (((vi0.toUInt32 >>> ((1 : Int32) &&& 31).toUInt32).toInt32) % (11 : Int32))), .val (.ref w_JUNETEENTH), .val (.int (2022 : Int32)), .unset, .unset] [(.int vi1)])) _
    refine XS.istore X2.here hx rfl (hb hby at_49) rfl (l' := #[.val (.int vi0), .val (.int vi1), .val (.int (((vi0.toUInt32 >>> ((1 : Int32) &&& 31).toUInt32).toInt32) % (11 : Int32))), .val (.ref w_JUNETEENTH), .val (.int (2022 : Int32)), .val (.int vi1), .unset]) rfl ?_
    show Steps p.tables e below (T2.setTop (mkF m 51 #[.val (.int vi0), .val (.int vi1), .val (.int (((vi0.toUInt32 >>> ((1 : Int32) &&& 31).toUInt32).toInt32) % (11 : Int32))), .val (.ref w_JUNETEENTH), .val (.int (2022 : Int32)), .val (.int vi1), .unset] [])) _
    refine XS.iload X2.here hx rfl (hb hby at_51) rfl ?_
    show Steps p.tables e below (T2.setTop (mkF m 53 #[.val (.int vi0), .val (.int vi1), .val (.int (((vi0.toUInt32 >>> ((1 : Int32) &&& 31).toUInt32).toInt32) % (11 : Int32))), .val (.ref w_JUNETEENTH), .val (.int (2022 : Int32)), .val (.int vi1), .unset] [(.int vi1)])) _
    refine XS.iload X2.here hx rfl (hb hby at_53) rfl ?_
    show Steps p.tables e below (T2.setTop (mkF m 55 #[.val (.int vi0), .val (.int vi1), .val (.int (((vi0.toUInt32 >>> ((1 : Int32) &&& 31).toUInt32).toInt32) % (11 : Int32))), .val (.ref w_JUNETEENTH), .val (.int (2022 : Int32)), .val (.int vi1), .unset] [(.int (2022 : Int32)), (.int vi1)])) _
    refine XS.icmpNo X2.here hx rfl (hb hby at_55) rfl (flt hc55).1 ?_
    show Steps p.tables e below (T2.setTop (mkF m 58 #[.val (.int vi0), .val (.int vi1), .val (.int (((vi0.toUInt32 >>> ((1 : Int32) &&& 31).toUInt32).toInt32) % (11 : Int32))), .val (.ref w_JUNETEENTH), .val (.int (2022 : Int32)), .val (.int vi1), .unset] [])) _
    refine XS.iconst X2.here hx rfl (hb hby at_58) ?_
    show Steps p.tables e below (T2.setTop (mkF m 59 #[.val (.int vi0), .val (.int vi1), .val (.int (((vi0.toUInt32 >>> ((1 : Int32) &&& 31).toUInt32).toInt32) % (11 : Int32))), .val (.ref w_JUNETEENTH), .val (.int (2022 : Int32)), .val (.int vi1), .unset] [(.int (1 : Int32))])) _
    refine XS.goto X2.here hx rfl (pc0 := 59) (pc' := 63) rfl (hb hby at_59) (by decide) (by decide) ?_
    show Steps p.tables e below (T2.setTop (mkF m 63 #[.val (.int vi0), .val (.int vi1), .val (.int (((vi0.toUInt32 >>> ((1 : Int32) &&& 31).toUInt32).toInt32) % (11 : Int32))), .val (.ref w_JUNETEENTH), .val (.int (2022 : Int32)), .val (.int vi1), .unset] [(.int (1 : Int32))])) _
    refine XS.istore X2.here hx rfl (hb hby at_63) rfl (l' := #[.val (.int vi0), .val (.int vi1), .val (.int (((vi0.toUInt32 >>> ((1 : Int32) &&& 31).toUInt32).toInt32) % (11 : Int32))), .val (.ref w_JUNETEENTH), .val (.int (2022 : Int32)), .val (.int vi1), .val (.int (1 : Int32))]) rfl ?_
    show Steps p.tables e below (T2.setTop (mkF m 65 #[.val (.int vi0), .val (.int vi1), .val (.int (((vi0.toUInt32 >>> ((1 : Int32) &&& 31).toUInt32).toInt32) % (11 : Int32))), .val (.ref w_JUNETEENTH), .val (.int (2022 : Int32)), .val (.int vi1), .val (.int (1 : Int32))] [])) _
    refine XS.aloadN X2.here hx rfl (hb hby at_65) rfl rfl ?_
    show Steps p.tables e below (T2.setTop (mkF m 66 #[.val (.int vi0), .val (.int vi1), .val (.int (((vi0.toUInt32 >>> ((1 : Int32) &&& 31).toUInt32).toInt32) % (11 : Int32))), .val (.ref w_JUNETEENTH), .val (.int (2022 : Int32)), .val (.int vi1), .val (.int (1 : Int32))] [(.ref w_JUNETEENTH)])) _
    refine XS.iload X2.here hx rfl (hb hby at_66) rfl ?_
    show Steps p.tables e below (T2.setTop (mkF m 68 #[.val (.int vi0), .val (.int vi1), .val (.int (((vi0.toUInt32 >>> ((1 : Int32) &&& 31).toUInt32).toInt32) % (11 : Int32))), .val (.ref w_JUNETEENTH), .val (.int (2022 : Int32)), .val (.int vi1), .val (.int (1 : Int32))] [(.int vi1), (.ref w_JUNETEENTH)])) _
    refine st3.trans ?_
    show Steps p.tables e below (T3.setTop (mkF m 71 #[.val (.int vi0), .val (.int vi1), .val (.int (((vi0.toUInt32 >>> ((1 : Int32) &&& 31).toUInt32).toInt32) % (11 : Int32))), .val (.ref w_JUNETEENTH), .val (.int (2022 : Int32)), .val (.int vi1), .val (.int (1 : Int32))] [(.int (1 : Int32))])) _
    refine XS.iload X3.here hx rfl (hb hby at_71) rfl ?_
    show Steps p.tables e below (T3.setTop (mkF m 73 #[.val (.int vi0), .val (.int vi1), .val (.int (((vi0.toUInt32 >>> ((1 : Int32) &&& 31).toUInt32).toInt32) % (11 : Int32))), .val (.ref w_JUNETEENTH), .val (.int (2022 : Int32)), .val (.int vi1), .val (.int (1 : Int32))] [(.int (1 : Int32)), (.int (1 : Int32))])) _
    refine XS.icmpNo X3.here hx rfl (hb hby at_73) rfl (teq (rfl : (1 : Int32) = (1 : Int32))).2 ?_
    show Steps p.tables e below (T3.setTop (mkF m 76 #[.val (.int vi0), .val (.int vi1), .val (.int (((vi0.toUInt32 >>> ((1 : Int32) &&& 31).toUInt32).toInt32) % (11 : Int32))), .val (.ref w_JUNETEENTH), .val (.int (2022 : Int32)), .val (.int vi1), .val (.int (1 : Int32))] [])) _
    refine XS.iconst X3.here hx rfl (hb hby at_76) ?_
    show Steps p.tables e below (T3.setTop (mkF m 77 #[.val (.int vi0), .val (.int vi1), .val (.int (((vi0.toUInt32 >>> ((1 : Int32) &&& 31).toUInt32).toInt32) % (11 : Int32))), .val (.ref w_JUNETEENTH), .val (.int (2022 : Int32)), .val (.int vi1), .val (.int (1 : Int32))] [(.int (1 : Int32))])) _
    refine XS.goto X3.here hx rfl (pc0 := 77) (pc' := 81) rfl (hb hby at_77) (by decide) (by decide) ?_
    show Steps p.tables e below (T3.setTop (mkF m 81 #[.val (.int vi0), .val (.int vi1), .val (.int (((vi0.toUInt32 >>> ((1 : Int32) &&& 31).toUInt32).toInt32) % (11 : Int32))), .val (.ref w_JUNETEENTH), .val (.int (2022 : Int32)), .val (.int vi1), .val (.int (1 : Int32))] [(.int (1 : Int32))])) _
    exact retN X3 hx (t := .boolean) Bd.returns (by simp) (hb hby at_81) hr
  · show Q0_Jff Z vi0 vi1 w_JUNETEENTH h0 n0 _ T3.heap _
    rw [e3]
    exact ⟨rfl, N3⟩
theorem ef_0_Jft (m : MethodId) (x0 : Int32) (x1 : Int32) : entryFrame m #[(.int x0), (.int x1)] maxLocals = mkF m 0 #[.val (.int x0), .val (.int x1), .unset, .unset, .unset, .unset, .unset] [] := by first | (simp [entryFrame, mkF, argsToLocals, Value.category, maxLocals]; done) | rfl
def Q0_Jft (Z : State) (vi0 : Int32) (vi1 : Int32) (w_JUNETEENTH : Addr) (h0 : Heap) (n0 : Nat) (v : Option Value) (h : Heap) (L : List Loc) : Prop := v = some (.int (1 : Int32)) ∧ Fr n0 L
set_option maxRecDepth 65536 in
set_option maxHeartbeats 40000000 in
theorem rm0_Jft (l : Launch) (Z : State) (a0 : Array Value) (hw : ∀ d ∈ tables_1, d.before a0 Z = true) (ws : List Jvm.Cond) (vi0 : Int32) (vi1 : Int32) (w_JUNETEENTH : Addr) (h0 : Heap) (n0 : Nat) (Z0 : n0 ≤ h0.size) (E_w_JUNETEENTH : Exa Z Z.heap w_JUNETEENTH "com/example/lintel/lintel/calendar/FederalHoliday") (F_firstYear_w_JUNETEENTH : Fld Z Z.heap w_JUNETEENTH "com/example/lintel/lintel/calendar/FederalHoliday" "firstYear" "I" (.int (2022 : Int32))) (O0 : Old Z n0 h0) (c8_hJ : (((vi0.toUInt32 >>> ((1 : Int32) &&& 31).toUInt32).toInt32) % (11 : Int32)) = (4 : Int32)) (S_JUNETEENTH : Sta Z Z.heap "com/example/lintel/lintel/calendar/FederalHoliday" "JUNETEENTH" "Lcom/example/lintel/lintel/calendar/FederalHoliday;" (.ref w_JUNETEENTH)) (hc33 : (vi0 &&& (1 : Int32)) = (0 : Int32)) (hc55 : vi1 < (2022 : Int32)) :
    MetFree l x (head1 (Jvm.Cond.code x code maxLocals ret :: ws) room_1) (fun a U => a = #[(.int vi0), (.int vi1)] ∧ Z.Warmed39 U.vm ∧ U.heap = h0) (fun _ _ _ _ _ => True) (fun _ U o U' => ∃ v L, o = .returned v ∧ Q0_Jft Z vi0 vi1 w_JUNETEENTH h0 n0 v U'.heap L ∧ FrameEnd U o U' L room_1.cells room_1.slots) := by
  refine MetFree.of_bodySF (plainFor_of_name pn_com_example_lintel_lintel_calendar_FederalHolidayKeptInPinLaw) hisR ?_
  intro p e s m args below meth c s₁ Bd hml0 hP hK
  obtain ⟨rfl, hZ, hh⟩ := hP
  have hx := Bd.exec
  have hby := Bd.bytes
  have hml : c.maxLocals = 7 := hml0
  have hown : s.vm.findClass "com/example/lintel/lintel/calendar/FederalHolidayKeptInPinLaw" = some m.cls := findClass_of_methodNamed Bd.named
  have hnm := (name_of_methodNamed Bd.named Bd.method).1
  have X0 : Stand p l e room_1 s m #[(.int vi0), (.int vi1)] below meth c s₁ [] 0 0 := Stand.of_body Bd
  have e0 : s₁.heap = h0 := by rw [← hh, Bd.state]; rfl
  have N0 := Fr.nil n0
  have pre0 : ∀ t, Steps p.tables e below (s₁.setTop (mkF m 0 #[.val (.int vi0), .val (.int vi1), .unset, .unset, .unset, .unset, .unset] [])) t → Steps p.tables e below (s₁.setTop (entryFrame m #[(.int vi0), (.int vi1)] maxLocals)) t := fun t k => castTop (ef_0_Jft m vi0 vi1) k
  obtain ⟨_, _, ⟨T1, L1, k1, n1⟩, -, X1, ⟨Lc1, hQ1, l1, y1, z1⟩, st1⟩ := Jvm.LawKit.callS X0 hx (y := (⟨"com/example/lintel/lintel/calendar/FederalHolidayKeptInPinLaw", "pick", "(I)Lcom/example/lintel/lintel/calendar/FederalHoliday;"⟩ : MethodName)) hown (mvT hZ (wd_0 hw)) (mvT hZ (wd_1 hw)) (mvT hZ (wd_2 hw)) (mvT hZ (wd_3 hw)) (by decide) (backOf (W := 0) (rmP_J l Z a0 hw [] (((vi0.toUInt32 >>> ((1 : Int32) &&& 31).toUInt32).toInt32) % (11 : Int32)) w_JUNETEENTH h0 n0 Z0 c8_hJ S_JUNETEENTH O0) hZ (wd_3 hw) (wd_2 hw) (by decide) (by decide)) (g := (mkF m 8 #[.val (.int vi0), .val (.int vi1), .val (.int (((vi0.toUInt32 >>> ((1 : Int32) &&& 31).toUInt32).toInt32) % (11 : Int32))), .unset, .unset, .unset, .unset] [(.int (((vi0.toUInt32 >>> ((1 : Int32) &&& 31).toUInt32).toInt32) % (11 : Int32)))])) rfl (by rw [hml]; rfl) (argsL := [(.int (((vi0.toUInt32 >>> ((1 : Int32) &&& 31).toUInt32).toInt32) % (11 : Int32)))]) (rest := []) (lenOf pd_0 rfl) rfl (by show 2 * 0 + _ ≤ _; exact Nat.le_of_eq rfl) (hb hby at_8) (fun _ _ => ⟨rfl, e0, (by decide : 0 + 0 ≤ _), (by decide : 0 + 0 ≤ _)⟩)
  dsimp only [Pt.U, Pt.locs, Pt.cells, Pt.slots] at X1 l1 y1 z1 st1 hQ1
  subst l1 y1 z1
  obtain ⟨rfl, N1q, p1_0⟩ := hQ1
  have N1 := Fr.app N0 N1q
  have e1 : T1.heap = h0 := p1_0
  obtain ⟨T2, X2, e2, st2⟩ := getS2 X1 hx hZ hown (host := "") (Or.inl (wd_7 hw)) Via.refl e1 (S_JUNETEENTH.ext O0.2) (g := (mkF m 13 #[.val (.int vi0), .val (.int vi1), .val (.int (((vi0.toUInt32 >>> ((1 : Int32) &&& 31).toUInt32).toInt32) % (11 : Int32))), .val (.ref w_JUNETEENTH), .unset, .unset, .unset] [(.ref w_JUNETEENTH)])) rfl (hb hby at_13)
  obtain ⟨cq3, kq3, q3a, q3b, q3c⟩ := isOf hZ e2 (E_w_JUNETEENTH.ext O0.2)
  obtain ⟨_, _, ⟨T3, L3, k3, n3⟩, -, X3, ⟨Lc3, hQ3, l3, y3, z3⟩, st3⟩ := X2.virtualBack hx (y := (⟨"com/example/lintel/lintel/calendar/FederalHoliday", "keptIn", "(I)Z"⟩ : MethodName)) (z := (⟨"com/example/lintel/lintel/calendar/FederalHoliday", "keptIn", "(I)Z"⟩ : MethodName)) hown (mvT hZ (wd_9 hw)) (mvT hZ (wd_10 hw)) (notFace_of_selects (args := #[]) (mvT hZ (wd_12 hw))) (mvT hZ (wd_12 hw)) (mvT hZ (wd_11 hw)) (by decide) (backOf (W := 0) (rm2_t l Z a0 hw [] w_JUNETEENTH vi1 (2022 : Int32) h0 n0 Z0 (F_firstYear_w_JUNETEENTH.ext O0.2) hc55) hZ (wd_13 hw) (wd_5 hw) (by decide) (by decide)) q3a q3c (g := (mkF m 68 #[.val (.int vi0), .val (.int vi1), .val (.int (((vi0.toUInt32 >>> ((1 : Int32) &&& 31).toUInt32).toInt32) % (11 : Int32))), .val (.ref w_JUNETEENTH), .val (.int (2022 : Int32)), .val (.int vi1), .val (.int (0 : Int32))] [(.int vi1), (.ref w_JUNETEENTH)])) rfl (by rw [hml]; rfl) (Steps.refl _) (argsL := [(.int vi1)]) (rest := []) (lenOf pd_1 rfl) rfl (by show 2 * 0 + _ ≤ _; exact Nat.le_of_eq rfl) (hb hby at_68) (fun _ _ => ⟨rfl, e2, (by decide : 0 + 0 ≤ _), (by decide : 0 + 0 ≤ _)⟩)
  dsimp only [Pt.U, Pt.locs, Pt.cells, Pt.slots] at X3 l3 y3 z3 st3 hQ3
  subst l3 y3 z3
  obtain ⟨rfl, N3q, p3_0⟩ := hQ3
  have N3 := Fr.app N1 N3q
  have e3 : T3.heap = h0 := p3_0
  obtain ⟨fs, hr, hrun, hended, hW, hsame⟩ := X3.leave (v := some (.int (1 : Int32))) (fun h => by rw [Bd.returns] at h; cases h)
  refine ⟨_, _, pre0 _ ?_, hrun, hended, _, _, rfl, ?_, ⟨_, rfl⟩, hW, hsame.mono (by decide) (by decide)⟩
  · show Steps p.tables e below (s₁.setTop (mkF m 0 #[.val (.int vi0), .val (.int vi1), .unset, .unset, .unset, .unset, .unset] [])) _
    refine XS.iloadN X0.here hx rfl (hb hby at_0) rfl ?_
    show Steps p.tables e below (s₁.setTop (mkF m 1 #[.val (.int vi0), .val (.int vi1), .unset, .unset, .unset, .unset, .unset] [(.int vi0)])) _
    refine XS.iconst X0.here hx rfl (hb hby at_1) ?_
    show Steps p.tables e below (s₁.setTop (mkF m 2 #[.val (.int vi0), .val (.int vi1), .unset, .unset, .unset, .unset, .unset] [(.int (1 : Int32)), (.int vi0)])) _
    refine XS.iushr X0.here hx rfl (hb hby at_2) rfl ?_
    show Steps p.tables e below (s₁.setTop (mkF m 3 #[.val (.int vi0), .val (.int vi1), .unset, .unset, .unset, .unset, .unset] [(.int ((vi0.toUInt32 >>> ((1 : Int32) &&& 31).toUInt32).toInt32))])) _
    refine XS.bipush X0.here hx rfl (hb hby at_3) ?_
    show Steps p.tables e below (s₁.setTop (mkF m 5 #[.val (.int vi0), .val (.int vi1), .unset, .unset, .unset, .unset, .unset] [(.int (11 : Int32)), (.int ((vi0.toUInt32 >>> ((1 : Int32) &&& 31).toUInt32).toInt32))])) _
    refine iremM X0 hx rfl (hb hby at_5) rfl (by decide) ?_
    show Steps p.tables e below (s₁.setTop (mkF m 6 #[.val (.int vi0), .val (.int vi1), .unset, .unset, .unset, .unset, .unset] [(.int (((vi0.toUInt32 >>> ((1 : Int32) &&& 31).toUInt32).toInt32) % (11 : Int32)))])) _
    refine XS.istoreN X0.here hx rfl (hb hby at_6) rfl (l' := #[.val (.int vi0), .val (.int vi1), .val (.int (((vi0.toUInt32 >>> ((1 : Int32) &&& 31).toUInt32).toInt32) % (11 : Int32))), .unset, .unset, .unset, .unset]) rfl ?_
    show Steps p.tables e below (s₁.setTop (mkF m 7 #[.val (.int vi0), .val (.int vi1), .val (.int (((vi0.toUInt32 >>> ((1 : Int32) &&& 31).toUInt32).toInt32) % (11 : Int32))), .unset, .unset, .unset, .unset] [])) _
    refine XS.iloadN X0.here hx rfl (hb hby at_7) rfl ?_
    show Steps p.tables e below (s₁.setTop (mkF m 8 #[.val (.int vi0), .val (.int vi1), .val (.int (((vi0.toUInt32 >>> ((1 : Int32) &&& 31).toUInt32).toInt32) % (11 : Int32))), .unset, .unset, .unset, .unset] [(.int (((vi0.toUInt32 >>> ((1 : Int32) &&& 31).toUInt32).toInt32) % (11 : Int32)))])) _
    refine st1 _ ?_
    show Steps p.tables e below (T1.setTop (mkF m 11 #[.val (.int vi0), .val (.int vi1), .val (.int (((vi0.toUInt32 >>> ((1 : Int32) &&& 31).toUInt32).toInt32) % (11 : Int32))), .unset, .unset, .unset, .unset] [(.ref w_JUNETEENTH)])) _
    refine XS.astoreN X1.here hx rfl (hb hby at_11) rfl rfl (l' := #[.val (.int vi0), .val (.int vi1), .val (.int (((vi0.toUInt32 >>> ((1 : Int32) &&& 31).toUInt32).toInt32) % (11 : Int32))), .val (.ref w_JUNETEENTH), .unset, .unset, .unset]) rfl ?_
    show Steps p.tables e below (T1.setTop (mkF m 12 #[.val (.int vi0), .val (.int vi1), .val (.int (((vi0.toUInt32 >>> ((1 : Int32) &&& 31).toUInt32).toInt32) % (11 : Int32))), .val (.ref w_JUNETEENTH), .unset, .unset, .unset] [])) _
    refine XS.aloadN X1.here hx rfl (hb hby at_12) rfl rfl ?_
    show Steps p.tables e below (T1.setTop (mkF m 13 #[.val (.int vi0), .val (.int vi1), .val (.int (((vi0.toUInt32 >>> ((1 : Int32) &&& 31).toUInt32).toInt32) % (11 : Int32))), .val (.ref w_JUNETEENTH), .unset, .unset, .unset] [(.ref w_JUNETEENTH)])) _
    refine st2 _ ?_
    show Steps p.tables e below (T2.setTop (mkF m 16 #[.val (.int vi0), .val (.int vi1), .val (.int (((vi0.toUInt32 >>> ((1 : Int32) &&& 31).toUInt32).toInt32) % (11 : Int32))), .val (.ref w_JUNETEENTH), .unset, .unset, .unset] [(.ref w_JUNETEENTH), (.ref w_JUNETEENTH)])) _
    refine Jvm.RoadKit.acmp (g := (mkF m 16 #[.val (.int vi0), .val (.int vi1), .val (.int (((vi0.toUInt32 >>> ((1 : Int32) &&& 31).toUInt32).toInt32) % (11 : Int32))), .val (.ref w_JUNETEENTH), .unset, .unset, .unset] [(.ref w_JUNETEENTH), (.ref w_JUNETEENTH)])) X2 hx rfl rfl rfl (pc0 := 16) (pc' := 19) (same := true) rfl (hb hby at_16) rfl (decide_eq_true rfl) (by decide) (by decide) ?_
    show Steps p.tables e below (T2.setTop (mkF m 19 #[.val (.int vi0), .val (.int vi1), .val (.int (((vi0.toUInt32 >>> ((1 : Int32) &&& 31).toUInt32).toInt32) % (11 : Int32))), .val (.ref w_JUNETEENTH), .unset, .unset, .unset] [])) _
    refine XS.sipush X2.here hx rfl (hb hby at_19) ?_
    show Steps p.tables e below (T2.setTop (mkF m 22 #[.val (.int vi0), .val (.int vi1), .val (.int (((vi0.toUInt32 >>> ((1 : Int32) &&& 31).toUInt32).toInt32) % (11 : Int32))), .val (.ref w_JUNETEENTH), .unset, .unset, .unset] [(.int (2022 : Int32))])) _
    refine XS.goto X2.here hx rfl (pc0 := 22) (pc' := 28) rfl (hb hby at_22) (by decide) (by decide) ?_
    show Steps p.tables e below (T2.setTop (mkF m 28 #[.val (.int vi0), .val (.int vi1), .val (.int (((vi0.toUInt32 >>> ((1 : Int32) &&& 31).toUInt32).toInt32) % (11 : Int32))), .val (.ref w_JUNETEENTH), .unset, .unset, .unset] [(.int (2022 : Int32))])) _
    refine XS.istore X2.here hx rfl (hb hby at_28) rfl (l' := #[.val (.int vi0), .val (.int vi1), .val (.int (((vi0.toUInt32 >>> ((1 : Int32) &&& 31).toUInt32).toInt32) % (11 : Int32))), .val (.ref w_JUNETEENTH), .val (.int (2022 : Int32)), .unset, .unset]) rfl ?_
    show Steps p.tables e below (T2.setTop (mkF m 30 #[.val (.int vi0), .val (.int vi1), .val (.int (((vi0.toUInt32 >>> ((1 : Int32) &&& 31).toUInt32).toInt32) % (11 : Int32))), .val (.ref w_JUNETEENTH), .val (.int (2022 : Int32)), .unset, .unset] [])) _
    refine XS.iloadN X2.here hx rfl (hb hby at_30) rfl ?_
    show Steps p.tables e below (T2.setTop (mkF m 31 #[.val (.int vi0), .val (.int vi1), .val (.int (((vi0.toUInt32 >>> ((1 : Int32) &&& 31).toUInt32).toInt32) % (11 : Int32))), .val (.ref w_JUNETEENTH), .val (.int (2022 : Int32)), .unset, .unset] [(.int vi0)])) _
    refine XS.iconst X2.here hx rfl (hb hby at_31) ?_
    show Steps p.tables e below (T2.setTop (mkF m 32 #[.val (.int vi0), .val (.int vi1), .val (.int (((vi0.toUInt32 >>> ((1 : Int32) &&& 31).toUInt32).toInt32) % (11 : Int32))), .val (.ref w_JUNETEENTH), .val (.int (2022 : Int32)), .unset, .unset] [(.int (1 : Int32)), (.int vi0)])) _
    refine XS.iand X2.here hx rfl (hb hby at_32) rfl ?_
    show Steps p.tables e below (T2.setTop (mkF m 33 #[.val (.int vi0), .val (.int vi1), .val (.int (((vi0.toUInt32 >>> ((1 : Int32) &&& 31).toUInt32).toInt32) % (11 : Int32))), .val (.ref w_JUNETEENTH), .val (.int (2022 : Int32)), .unset, .unset] [(.int (vi0 &&& (1 : Int32)))])) _
    refine XS.ifNo X2.here hx rfl (hb hby at_33) rfl ((if0 _ _).trans (teq hc33).2) ?_
    show Steps p.tables e below (T2.setTop (mkF m 36 #[.val (.int vi0), .val (.int vi1), .val (.int (((vi0.toUInt32 >>> ((1 : Int32) &&& 31).toUInt32).toInt32) % (11 : Int32))), .val (.ref w_JUNETEENTH), .val (.int (2022 : Int32)), .unset, .unset] [])) _
    refine XS.iloadN X2.here hx rfl (hb hby at_36) rfl ?_
    show Steps p.tables e below (T2.setTop (mkF m 37 #[.val (.int vi0), .val (.int vi1), .val (.int (((vi0.toUInt32 >>> ((1 : Int32) &&& 31).toUInt32).toInt32) % (11 : Int32))), .val (.ref w_JUNETEENTH), .val (.int (2022 : Int32)), .unset, .unset] [(.int vi1)])) _
    refine XS.goto X2.here hx rfl (pc0 := 37) (pc' := 49) rfl (hb hby at_37) (by decide) (by decide) ?_
    show Steps p.tables e below (T2.setTop (mkF m 49 #[.val (.int vi0), .val (.int vi1), .val (.int (((vi0.toUInt32 >>> ((1 : Int32) &&& 31).toUInt32).toInt32) % (11 : Int32))), .val (.ref w_JUNETEENTH), .val (.int (2022 : Int32)), .unset, .unset] [(.int vi1)])) _
    refine XS.istore X2.here hx rfl (hb hby at_49) rfl (l' := #[.val (.int vi0), .val (.int vi1), .val (.int (((vi0.toUInt32 >>> ((1 : Int32) &&& 31).toUInt32).toInt32) % (11 : Int32))), .val (.ref w_JUNETEENTH), .val (.int (2022 : Int32)), .val (.int vi1), .unset]) rfl ?_
    show Steps p.tables e below (T2.setTop (mkF m 51 #[.val (.int vi0), .val (.int vi1), .val (.int (((vi0.toUInt32 >>> ((1 : Int32) &&& 31).toUInt32).toInt32) % (11 : Int32))), .val (.ref w_JUNETEENTH), .val (.int (2022 : Int32)), .val (.int vi1), .unset] [])) _
    refine XS.iload X2.here hx rfl (hb hby at_51) rfl ?_
    show Steps p.tables e below (T2.setTop (mkF m 53 #[.val (.int vi0), .val (.int vi1), .val (.int (((vi0.toUInt32 >>> ((1 : Int32) &&& 31).toUInt32).toInt32) % (11 : Int32))), .val (.ref w_JUNETEENTH), .val (.int (2022 : Int32)), .val (.int vi1), .unset] [(.int vi1)])) _
    refine XS.iload X2.here hx rfl (hb hby at_53) rfl ?_
    show Steps p.tables e below (T2.setTop (mkF m 55 #[.val (.int vi0), .val (.int vi1), .val (.int (((vi0.toUInt32 >>> ((1 : Int32) &&& 31).toUInt32).toInt32) % (11 : Int32))), .val (.ref w_JUNETEENTH), .val (.int (2022 : Int32)), .val (.int vi1), .unset] [(.int (2022 : Int32)), (.int vi1)])) _
    refine XS.icmpYes X2.here hx rfl (pc0 := 55) (pc' := 62) rfl (hb hby at_55) rfl (tlt hc55).1 (by decide) (by decide) ?_
    show Steps p.tables e below (T2.setTop (mkF m 62 #[.val (.int vi0), .val (.int vi1), .val (.int (((vi0.toUInt32 >>> ((1 : Int32) &&& 31).toUInt32).toInt32) % (11 : Int32))), .val (.ref w_JUNETEENTH), .val (.int (2022 : Int32)), .val (.int vi1), .unset] [])) _
    refine XS.iconst X2.here hx rfl (hb hby at_62) ?_
    show Steps p.tables e below (T2.setTop (mkF m 63 #[.val (.int vi0), .val (.int vi1), .val (.int (((vi0.toUInt32 >>> ((1 : Int32) &&& 31).toUInt32).toInt32) % (11 : Int32))), .val (.ref w_JUNETEENTH), .val (.int (2022 : Int32)), .val (.int vi1), .unset] [(.int (0 : Int32))])) _
    refine XS.istore X2.here hx rfl (hb hby at_63) rfl (l' := #[.val (.int vi0), .val (.int vi1), .val (.int (((vi0.toUInt32 >>> ((1 : Int32) &&& 31).toUInt32).toInt32) % (11 : Int32))), .val (.ref w_JUNETEENTH), .val (.int (2022 : Int32)), .val (.int vi1), .val (.int (0 : Int32))]) rfl ?_
    show Steps p.tables e below (T2.setTop (mkF m 65 #[.val (.int vi0), .val (.int vi1), .val (.int (((vi0.toUInt32 >>> ((1 : Int32) &&& 31).toUInt32).toInt32) % (11 : Int32))), .val (.ref w_JUNETEENTH), .val (.int (2022 : Int32)), .val (.int vi1), .val (.int (0 : Int32))] [])) _
    refine XS.aloadN X2.here hx rfl (hb hby at_65) rfl rfl ?_
    show Steps p.tables e below (T2.setTop (mkF m 66 #[.val (.int vi0), .val (.int vi1), .val (.int (((vi0.toUInt32 >>> ((1 : Int32) &&& 31).toUInt32).toInt32) % (11 : Int32))), .val (.ref w_JUNETEENTH), .val (.int (2022 : Int32)), .val (.int vi1), .val (.int (0 : Int32))] [(.ref w_JUNETEENTH)])) _
    refine XS.iload X2.here hx rfl (hb hby at_66) rfl ?_
    show Steps p.tables e below (T2.setTop (mkF m 68 #[.val (.int vi0), .val (.int vi1), .val (.int (((vi0.toUInt32 >>> ((1 : Int32) &&& 31).toUInt32).toInt32) % (11 : Int32))), .val (.ref w_JUNETEENTH), .val (.int (2022 : Int32)), .val (.int vi1), .val (.int (0 : Int32))] [(.int vi1), (.ref w_JUNETEENTH)])) _
    refine st3.trans ?_
    show Steps p.tables e below (T3.setTop (mkF m 71 #[.val (.int vi0), .val (.int vi1), .val (.int (((vi0.toUInt32 >>> ((1 : Int32) &&& 31).toUInt32).toInt32) % (11 : Int32))), .val (.ref w_JUNETEENTH), .val (.int (2022 : Int32)), .val (.int vi1), .val (.int (0 : Int32))] [(.int (0 : Int32))])) _
    refine XS.iload X3.here hx rfl (hb hby at_71) rfl ?_
    show Steps p.tables e below (T3.setTop (mkF m 73 #[.val (.int vi0), .val (.int vi1), .val (.int (((vi0.toUInt32 >>> ((1 : Int32) &&& 31).toUInt32).toInt32) % (11 : Int32))), .val (.ref w_JUNETEENTH), .val (.int (2022 : Int32)), .val (.int vi1), .val (.int (0 : Int32))] [(.int (0 : Int32)), (.int (0 : Int32))])) _
    refine XS.icmpNo X3.here hx rfl (hb hby at_73) rfl (teq (rfl : (0 : Int32) = (0 : Int32))).2 ?_
    show Steps p.tables e below (T3.setTop (mkF m 76 #[.val (.int vi0), .val (.int vi1), .val (.int (((vi0.toUInt32 >>> ((1 : Int32) &&& 31).toUInt32).toInt32) % (11 : Int32))), .val (.ref w_JUNETEENTH), .val (.int (2022 : Int32)), .val (.int vi1), .val (.int (0 : Int32))] [])) _
    refine XS.iconst X3.here hx rfl (hb hby at_76) ?_
    show Steps p.tables e below (T3.setTop (mkF m 77 #[.val (.int vi0), .val (.int vi1), .val (.int (((vi0.toUInt32 >>> ((1 : Int32) &&& 31).toUInt32).toInt32) % (11 : Int32))), .val (.ref w_JUNETEENTH), .val (.int (2022 : Int32)), .val (.int vi1), .val (.int (0 : Int32))] [(.int (1 : Int32))])) _
    refine XS.goto X3.here hx rfl (pc0 := 77) (pc' := 81) rfl (hb hby at_77) (by decide) (by decide) ?_
    show Steps p.tables e below (T3.setTop (mkF m 81 #[.val (.int vi0), .val (.int vi1), .val (.int (((vi0.toUInt32 >>> ((1 : Int32) &&& 31).toUInt32).toInt32) % (11 : Int32))), .val (.ref w_JUNETEENTH), .val (.int (2022 : Int32)), .val (.int vi1), .val (.int (0 : Int32))] [(.int (1 : Int32))])) _
    exact retN X3 hx (t := .boolean) Bd.returns (by simp) (hb hby at_81) hr
  · show Q0_Jft Z vi0 vi1 w_JUNETEENTH h0 n0 _ T3.heap _
    rw [e3]
    exact ⟨rfl, N3⟩
theorem ef_0_Jtf (m : MethodId) (x0 : Int32) (x1 : Int32) : entryFrame m #[(.int x0), (.int x1)] maxLocals = mkF m 0 #[.val (.int x0), .val (.int x1), .unset, .unset, .unset, .unset, .unset] [] := by first | (simp [entryFrame, mkF, argsToLocals, Value.category, maxLocals]; done) | rfl
def Q0_Jtf (Z : State) (vi0 : Int32) (vi1 : Int32) (w_JUNETEENTH : Addr) (h0 : Heap) (n0 : Nat) (v : Option Value) (h : Heap) (L : List Loc) : Prop := v = some (.int (1 : Int32)) ∧ Fr n0 L
set_option maxRecDepth 65536 in
set_option maxHeartbeats 40000000 in
theorem rm0_Jtf (l : Launch) (Z : State) (a0 : Array Value) (hw : ∀ d ∈ tables_1, d.before a0 Z = true) (ws : List Jvm.Cond) (vi0 : Int32) (vi1 : Int32) (w_JUNETEENTH : Addr) (h0 : Heap) (n0 : Nat) (Z0 : n0 ≤ h0.size) (E_w_JUNETEENTH : Exa Z Z.heap w_JUNETEENTH "com/example/lintel/lintel/calendar/FederalHoliday") (F_firstYear_w_JUNETEENTH : Fld Z Z.heap w_JUNETEENTH "com/example/lintel/lintel/calendar/FederalHoliday" "firstYear" "I" (.int (2022 : Int32))) (O0 : Old Z n0 h0) (c8_hJ : (((vi0.toUInt32 >>> ((1 : Int32) &&& 31).toUInt32).toInt32) % (11 : Int32)) = (4 : Int32)) (S_JUNETEENTH : Sta Z Z.heap "com/example/lintel/lintel/calendar/FederalHoliday" "JUNETEENTH" "Lcom/example/lintel/lintel/calendar/FederalHoliday;" (.ref w_JUNETEENTH)) (hc33 : ¬ ((vi0 &&& (1 : Int32)) = (0 : Int32))) (hc55 : ¬ (((2022 : Int32) + ((vi1 &&& (7 : Int32)) - (4 : Int32))) < (2022 : Int32))) :
    MetFree l x (head1 (Jvm.Cond.code x code maxLocals ret :: ws) room_1) (fun a U => a = #[(.int vi0), (.int vi1)] ∧ Z.Warmed39 U.vm ∧ U.heap = h0) (fun _ _ _ _ _ => True) (fun _ U o U' => ∃ v L, o = .returned v ∧ Q0_Jtf Z vi0 vi1 w_JUNETEENTH h0 n0 v U'.heap L ∧ FrameEnd U o U' L room_1.cells room_1.slots) := by
  refine MetFree.of_bodySF (plainFor_of_name pn_com_example_lintel_lintel_calendar_FederalHolidayKeptInPinLaw) hisR ?_
  intro p e s m args below meth c s₁ Bd hml0 hP hK
  obtain ⟨rfl, hZ, hh⟩ := hP
  have hx := Bd.exec
  have hby := Bd.bytes
  have hml : c.maxLocals = 7 := hml0
  have hown : s.vm.findClass "com/example/lintel/lintel/calendar/FederalHolidayKeptInPinLaw" = some m.cls := findClass_of_methodNamed Bd.named
  have hnm := (name_of_methodNamed Bd.named Bd.method).1
  have X0 : Stand p l e room_1 s m #[(.int vi0), (.int vi1)] below meth c s₁ [] 0 0 := Stand.of_body Bd
  have e0 : s₁.heap = h0 := by rw [← hh, Bd.state]; rfl
  have N0 := Fr.nil n0
  have pre0 : ∀ t, Steps p.tables e below (s₁.setTop (mkF m 0 #[.val (.int vi0), .val (.int vi1), .unset, .unset, .unset, .unset, .unset] [])) t → Steps p.tables e below (s₁.setTop (entryFrame m #[(.int vi0), (.int vi1)] maxLocals)) t := fun t k => castTop (ef_0_Jtf m vi0 vi1) k
  obtain ⟨_, _, ⟨T1, L1, k1, n1⟩, -, X1, ⟨Lc1, hQ1, l1, y1, z1⟩, st1⟩ := Jvm.LawKit.callS X0 hx (y := (⟨"com/example/lintel/lintel/calendar/FederalHolidayKeptInPinLaw", "pick", "(I)Lcom/example/lintel/lintel/calendar/FederalHoliday;"⟩ : MethodName)) hown (mvT hZ (wd_0 hw)) (mvT hZ (wd_1 hw)) (mvT hZ (wd_2 hw)) (mvT hZ (wd_3 hw)) (by decide) (backOf (W := 0) (rmP_J l Z a0 hw [] (((vi0.toUInt32 >>> ((1 : Int32) &&& 31).toUInt32).toInt32) % (11 : Int32)) w_JUNETEENTH h0 n0 Z0 c8_hJ S_JUNETEENTH O0) hZ (wd_3 hw) (wd_2 hw) (by decide) (by decide)) (g := (mkF m 8 #[.val (.int vi0), .val (.int vi1), .val (.int (((vi0.toUInt32 >>> ((1 : Int32) &&& 31).toUInt32).toInt32) % (11 : Int32))), .unset, .unset, .unset, .unset] [(.int (((vi0.toUInt32 >>> ((1 : Int32) &&& 31).toUInt32).toInt32) % (11 : Int32)))])) rfl (by rw [hml]; rfl) (argsL := [(.int (((vi0.toUInt32 >>> ((1 : Int32) &&& 31).toUInt32).toInt32) % (11 : Int32)))]) (rest := []) (lenOf pd_0 rfl) rfl (by show 2 * 0 + _ ≤ _; exact Nat.le_of_eq rfl) (hb hby at_8) (fun _ _ => ⟨rfl, e0, (by decide : 0 + 0 ≤ _), (by decide : 0 + 0 ≤ _)⟩)
  dsimp only [Pt.U, Pt.locs, Pt.cells, Pt.slots] at X1 l1 y1 z1 st1 hQ1
  subst l1 y1 z1
  obtain ⟨rfl, N1q, p1_0⟩ := hQ1
  have N1 := Fr.app N0 N1q
  have e1 : T1.heap = h0 := p1_0
  obtain ⟨T2, X2, e2, st2⟩ := getS2 X1 hx hZ hown (host := "") (Or.inl (wd_7 hw)) Via.refl e1 (S_JUNETEENTH.ext O0.2) (g := (mkF m 13 #[.val (.int vi0), .val (.int vi1), .val (.int (((vi0.toUInt32 >>> ((1 : Int32) &&& 31).toUInt32).toInt32) % (11 : Int32))), .val (.ref w_JUNETEENTH), .unset, .unset, .unset] [(.ref w_JUNETEENTH)])) rfl (hb hby at_13)
  obtain ⟨cq3, kq3, q3a, q3b, q3c⟩ := isOf hZ e2 (E_w_JUNETEENTH.ext O0.2)
  obtain ⟨_, _, ⟨T3, L3, k3, n3⟩, -, X3, ⟨Lc3, hQ3, l3, y3, z3⟩, st3⟩ := X2.virtualBack hx (y := (⟨"com/example/lintel/lintel/calendar/FederalHoliday", "keptIn", "(I)Z"⟩ : MethodName)) (z := (⟨"com/example/lintel/lintel/calendar/FederalHoliday", "keptIn", "(I)Z"⟩ : MethodName)) hown (mvT hZ (wd_9 hw)) (mvT hZ (wd_10 hw)) (notFace_of_selects (args := #[]) (mvT hZ (wd_12 hw))) (mvT hZ (wd_12 hw)) (mvT hZ (wd_11 hw)) (by decide) (backOf (W := 0) (rm2_f l Z a0 hw [] w_JUNETEENTH ((2022 : Int32) + ((vi1 &&& (7 : Int32)) - (4 : Int32))) (2022 : Int32) h0 n0 Z0 (F_firstYear_w_JUNETEENTH.ext O0.2) hc55) hZ (wd_13 hw) (wd_5 hw) (by decide) (by decide)) q3a q3c (g := (mkF m 68 #[.val (.int vi0), .val (.int vi1), .val (.int (((vi0.toUInt32 >>> ((1 : Int32) &&& 31).toUInt32).toInt32) % (11 : Int32))), .val (.ref w_JUNETEENTH), .val (.int (2022 : Int32)), .val (.int ((2022 : Int32) + ((vi1 &&& (7 : Int32)) - (4 : Int32)))), .val (.int (1 : Int32))] [(.int ((2022 : Int32) + ((vi1 &&& (7 : Int32)) - (4 : Int32)))), (.ref w_JUNETEENTH)])) rfl (by rw [hml]; rfl) (Steps.refl _) (argsL := [(.int ((2022 : Int32) + ((vi1 &&& (7 : Int32)) - (4 : Int32))))]) (rest := []) (lenOf pd_1 rfl) rfl (by show 2 * 0 + _ ≤ _; exact Nat.le_of_eq rfl) (hb hby at_68) (fun _ _ => ⟨rfl, e2, (by decide : 0 + 0 ≤ _), (by decide : 0 + 0 ≤ _)⟩)
  dsimp only [Pt.U, Pt.locs, Pt.cells, Pt.slots] at X3 l3 y3 z3 st3 hQ3
  subst l3 y3 z3
  obtain ⟨rfl, N3q, p3_0⟩ := hQ3
  have N3 := Fr.app N1 N3q
  have e3 : T3.heap = h0 := p3_0
  obtain ⟨fs, hr, hrun, hended, hW, hsame⟩ := X3.leave (v := some (.int (1 : Int32))) (fun h => by rw [Bd.returns] at h; cases h)
  refine ⟨_, _, pre0 _ ?_, hrun, hended, _, _, rfl, ?_, ⟨_, rfl⟩, hW, hsame.mono (by decide) (by decide)⟩
  · show Steps p.tables e below (s₁.setTop (mkF m 0 #[.val (.int vi0), .val (.int vi1), .unset, .unset, .unset, .unset, .unset] [])) _
    refine XS.iloadN X0.here hx rfl (hb hby at_0) rfl ?_
    show Steps p.tables e below (s₁.setTop (mkF m 1 #[.val (.int vi0), .val (.int vi1), .unset, .unset, .unset, .unset, .unset] [(.int vi0)])) _
    refine XS.iconst X0.here hx rfl (hb hby at_1) ?_
    show Steps p.tables e below (s₁.setTop (mkF m 2 #[.val (.int vi0), .val (.int vi1), .unset, .unset, .unset, .unset, .unset] [(.int (1 : Int32)), (.int vi0)])) _
    refine XS.iushr X0.here hx rfl (hb hby at_2) rfl ?_
    show Steps p.tables e below (s₁.setTop (mkF m 3 #[.val (.int vi0), .val (.int vi1), .unset, .unset, .unset, .unset, .unset] [(.int ((vi0.toUInt32 >>> ((1 : Int32) &&& 31).toUInt32).toInt32))])) _
    refine XS.bipush X0.here hx rfl (hb hby at_3) ?_
    show Steps p.tables e below (s₁.setTop (mkF m 5 #[.val (.int vi0), .val (.int vi1), .unset, .unset, .unset, .unset, .unset] [(.int (11 : Int32)), (.int ((vi0.toUInt32 >>> ((1 : Int32) &&& 31).toUInt32).toInt32))])) _
    refine iremM X0 hx rfl (hb hby at_5) rfl (by decide) ?_
    show Steps p.tables e below (s₁.setTop (mkF m 6 #[.val (.int vi0), .val (.int vi1), .unset, .unset, .unset, .unset, .unset] [(.int (((vi0.toUInt32 >>> ((1 : Int32) &&& 31).toUInt32).toInt32) % (11 : Int32)))])) _
    refine XS.istoreN X0.here hx rfl (hb hby at_6) rfl (l' := #[.val (.int vi0), .val (.int vi1), .val (.int (((vi0.toUInt32 >>> ((1 : Int32) &&& 31).toUInt32).toInt32) % (11 : Int32))), .unset, .unset, .unset, .unset]) rfl ?_
    show Steps p.tables e below (s₁.setTop (mkF m 7 #[.val (.int vi0), .val (.int vi1), .val (.int (((vi0.toUInt32 >>> ((1 : Int32) &&& 31).toUInt32).toInt32) % (11 : Int32))), .unset, .unset, .unset, .unset] [])) _
    refine XS.iloadN X0.here hx rfl (hb hby at_7) rfl ?_
    show Steps p.tables e below (s₁.setTop (mkF m 8 #[.val (.int vi0), .val (.int vi1), .val (.int (((vi0.toUInt32 >>> ((1 : Int32) &&& 31).toUInt32).toInt32) % (11 : Int32))), .unset, .unset, .unset, .unset] [(.int (((vi0.toUInt32 >>> ((1 : Int32) &&& 31).toUInt32).toInt32) % (11 : Int32)))])) _
    refine st1 _ ?_
    show Steps p.tables e below (T1.setTop (mkF m 11 #[.val (.int vi0), .val (.int vi1), .val (.int (((vi0.toUInt32 >>> ((1 : Int32) &&& 31).toUInt32).toInt32) % (11 : Int32))), .unset, .unset, .unset, .unset] [(.ref w_JUNETEENTH)])) _
    refine XS.astoreN X1.here hx rfl (hb hby at_11) rfl rfl (l' := #[.val (.int vi0), .val (.int vi1), .val (.int (((vi0.toUInt32 >>> ((1 : Int32) &&& 31).toUInt32).toInt32) % (11 : Int32))), .val (.ref w_JUNETEENTH), .unset, .unset, .unset]) rfl ?_
    show Steps p.tables e below (T1.setTop (mkF m 12 #[.val (.int vi0), .val (.int vi1), .val (.int (((vi0.toUInt32 >>> ((1 : Int32) &&& 31).toUInt32).toInt32) % (11 : Int32))), .val (.ref w_JUNETEENTH), .unset, .unset, .unset] [])) _
    refine XS.aloadN X1.here hx rfl (hb hby at_12) rfl rfl ?_
    show Steps p.tables e below (T1.setTop (mkF m 13 #[.val (.int vi0), .val (.int vi1), .val (.int (((vi0.toUInt32 >>> ((1 : Int32) &&& 31).toUInt32).toInt32) % (11 : Int32))), .val (.ref w_JUNETEENTH), .unset, .unset, .unset] [(.ref w_JUNETEENTH)])) _
    refine st2 _ ?_
    show Steps p.tables e below (T2.setTop (mkF m 16 #[.val (.int vi0), .val (.int vi1), .val (.int (((vi0.toUInt32 >>> ((1 : Int32) &&& 31).toUInt32).toInt32) % (11 : Int32))), .val (.ref w_JUNETEENTH), .unset, .unset, .unset] [(.ref w_JUNETEENTH), (.ref w_JUNETEENTH)])) _
    refine Jvm.RoadKit.acmp (g := (mkF m 16 #[.val (.int vi0), .val (.int vi1), .val (.int (((vi0.toUInt32 >>> ((1 : Int32) &&& 31).toUInt32).toInt32) % (11 : Int32))), .val (.ref w_JUNETEENTH), .unset, .unset, .unset] [(.ref w_JUNETEENTH), (.ref w_JUNETEENTH)])) X2 hx rfl rfl rfl (pc0 := 16) (pc' := 19) (same := true) rfl (hb hby at_16) rfl (decide_eq_true rfl) (by decide) (by decide) ?_
    show Steps p.tables e below (T2.setTop (mkF m 19 #[.val (.int vi0), .val (.int vi1), .val (.int (((vi0.toUInt32 >>> ((1 : Int32) &&& 31).toUInt32).toInt32) % (11 : Int32))), .val (.ref w_JUNETEENTH), .unset, .unset, .unset] [])) _
    refine XS.sipush X2.here hx rfl (hb hby at_19) ?_
    show Steps p.tables e below (T2.setTop (mkF m 22 #[.val (.int vi0), .val (.int vi1), .val (.int (((vi0.toUInt32 >>> ((1 : Int32) &&& 31).toUInt32).toInt32) % (11 : Int32))), .val (.ref w_JUNETEENTH), .unset, .unset, .unset] [(.int (2022 : Int32))])) _
    refine XS.goto X2.here hx rfl (pc0 := 22) (pc' := 28) rfl (hb hby at_22) (by decide) (by decide) ?_
    show Steps p.tables e below (T2.setTop (mkF m 28 #[.val (.int vi0), .val (.int vi1), .val (.int (((vi0.toUInt32 >>> ((1 : Int32) &&& 31).toUInt32).toInt32) % (11 : Int32))), .val (.ref w_JUNETEENTH), .unset, .unset, .unset] [(.int (2022 : Int32))])) _
    refine XS.istore X2.here hx rfl (hb hby at_28) rfl (l' := #[.val (.int vi0), .val (.int vi1), .val (.int (((vi0.toUInt32 >>> ((1 : Int32) &&& 31).toUInt32).toInt32) % (11 : Int32))), .val (.ref w_JUNETEENTH), .val (.int (2022 : Int32)), .unset, .unset]) rfl ?_
    show Steps p.tables e below (T2.setTop (mkF m 30 #[.val (.int vi0), .val (.int vi1), .val (.int (((vi0.toUInt32 >>> ((1 : Int32) &&& 31).toUInt32).toInt32) % (11 : Int32))), .val (.ref w_JUNETEENTH), .val (.int (2022 : Int32)), .unset, .unset] [])) _
    refine XS.iloadN X2.here hx rfl (hb hby at_30) rfl ?_
    show Steps p.tables e below (T2.setTop (mkF m 31 #[.val (.int vi0), .val (.int vi1), .val (.int (((vi0.toUInt32 >>> ((1 : Int32) &&& 31).toUInt32).toInt32) % (11 : Int32))), .val (.ref w_JUNETEENTH), .val (.int (2022 : Int32)), .unset, .unset] [(.int vi0)])) _
    refine XS.iconst X2.here hx rfl (hb hby at_31) ?_
    show Steps p.tables e below (T2.setTop (mkF m 32 #[.val (.int vi0), .val (.int vi1), .val (.int (((vi0.toUInt32 >>> ((1 : Int32) &&& 31).toUInt32).toInt32) % (11 : Int32))), .val (.ref w_JUNETEENTH), .val (.int (2022 : Int32)), .unset, .unset] [(.int (1 : Int32)), (.int vi0)])) _
    refine XS.iand X2.here hx rfl (hb hby at_32) rfl ?_
    show Steps p.tables e below (T2.setTop (mkF m 33 #[.val (.int vi0), .val (.int vi1), .val (.int (((vi0.toUInt32 >>> ((1 : Int32) &&& 31).toUInt32).toInt32) % (11 : Int32))), .val (.ref w_JUNETEENTH), .val (.int (2022 : Int32)), .unset, .unset] [(.int (vi0 &&& (1 : Int32)))])) _
    refine XS.ifYes X2.here hx rfl (pc0 := 33) (pc' := 40) rfl (hb hby at_33) rfl ((if0 _ _).trans (feq hc33).2) (by decide) (by decide) ?_
    show Steps p.tables e below (T2.setTop (mkF m 40 #[.val (.int vi0), .val (.int vi1), .val (.int (((vi0.toUInt32 >>> ((1 : Int32) &&& 31).toUInt32).toInt32) % (11 : Int32))), .val (.ref w_JUNETEENTH), .val (.int (2022 : Int32)), .unset, .unset] [])) _
    refine XS.iload X2.here hx rfl (hb hby at_40) rfl ?_
    show Steps p.tables e below (T2.setTop (mkF m 42 #[.val (.int vi0), .val (.int vi1), .val (.int (((vi0.toUInt32 >>> ((1 : Int32) &&& 31).toUInt32).toInt32) % (11 : Int32))), .val (.ref w_JUNETEENTH), .val (.int (2022 : Int32)), .unset, .unset] [(.int (2022 : Int32))])) _
    refine XS.iloadN X2.here hx rfl (hb hby at_42) rfl ?_
    show Steps p.tables e below (T2.setTop (mkF m 43 #[.val (.int vi0), .val (.int vi1), .val (.int (((vi0.toUInt32 >>> ((1 : Int32) &&& 31).toUInt32).toInt32) % (11 : Int32))), .val (.ref w_JUNETEENTH), .val (.int (2022 : Int32)), .unset, .unset] [(.int vi1), (.int (2022 : Int32))])) _
    refine XS.bipush X2.here hx rfl (hb hby at_43) ?_
    show Steps p.tables e below (T2.setTop (mkF m 45 #[.val (.int vi0), .val (.int vi1), .val (.int (((vi0.toUInt32 >>> ((1 : Int32) &&& 31).toUInt32).toInt32) % (11 : Int32))), .val (.ref w_JUNETEENTH), .val (.int (2022 : Int32)), .unset, .unset] [(.int (7 : Int32)), (.int vi1), (.int (2022 : Int32))])) _
    refine XS.iand X2.here hx rfl (hb hby at_45) rfl ?_
    show Steps p.tables e below (T2.setTop (mkF m 46 #[.val (.int vi0), .val (.int vi1), .val (.int (((vi0.toUInt32 >>> ((1 : Int32) &&& 31).toUInt32).toInt32) % (11 : Int32))), .val (.ref w_JUNETEENTH), .val (.int (2022 : Int32)), .unset, .unset] [(.int (vi1 &&& (7 : Int32))), (.int (2022 : Int32))])) _
    refine XS.iconst X2.here hx rfl (hb hby at_46) ?_
    show Steps p.tables e below (T2.setTop (mkF m 47 #[.val (.int vi0), .val (.int vi1), .val (.int (((vi0.toUInt32 >>> ((1 : Int32) &&& 31).toUInt32).toInt32) % (11 : Int32))), .val (.ref w_JUNETEENTH), .val (.int (2022 : Int32)), .unset, .unset] [(.int (4 : Int32)), (.int (vi1 &&& (7 : Int32))), (.int (2022 : Int32))])) _
    refine XS.isub X2.here hx rfl (hb hby at_47) rfl ?_
    show Steps p.tables e below (T2.setTop (mkF m 48 #[.val (.int vi0), .val (.int vi1), .val (.int (((vi0.toUInt32 >>> ((1 : Int32) &&& 31).toUInt32).toInt32) % (11 : Int32))), .val (.ref w_JUNETEENTH), .val (.int (2022 : Int32)), .unset, .unset] [(.int ((vi1 &&& (7 : Int32)) - (4 : Int32))), (.int (2022 : Int32))])) _
    refine XS.iadd X2.here hx rfl (hb hby at_48) rfl ?_
    show Steps p.tables e below (T2.setTop (mkF m 49 #[.val (.int vi0), .val (.int vi1), .val (.int (((vi0.toUInt32 >>> ((1 : Int32) &&& 31).toUInt32).toInt32) % (11 : Int32))), .val (.ref w_JUNETEENTH), .val (.int (2022 : Int32)), .unset, .unset] [(.int ((2022 : Int32) + ((vi1 &&& (7 : Int32)) - (4 : Int32))))])) _
    refine XS.istore X2.here hx rfl (hb hby at_49) rfl (l' := #[.val (.int vi0), .val (.int vi1), .val (.int (((vi0.toUInt32 >>> ((1 : Int32) &&& 31).toUInt32).toInt32) % (11 : Int32))), .val (.ref w_JUNETEENTH), .val (.int (2022 : Int32)), .val (.int ((2022 : Int32) + ((vi1 &&& (7 : Int32)) - (4 : Int32)))), .unset]) rfl ?_
    show Steps p.tables e below (T2.setTop (mkF m 51 #[.val (.int vi0), .val (.int vi1), .val (.int (((vi0.toUInt32 >>> ((1 : Int32) &&& 31).toUInt32).toInt32) % (11 : Int32))), .val (.ref w_JUNETEENTH), .val (.int (2022 : Int32)), .val (.int ((2022 : Int32) + ((vi1 &&& (7 : Int32)) - (4 : Int32)))), .unset] [])) _
    refine XS.iload X2.here hx rfl (hb hby at_51) rfl ?_
    show Steps p.tables e below (T2.setTop (mkF m 53 #[.val (.int vi0), .val (.int vi1), .val (.int (((vi0.toUInt32 >>> ((1 : Int32) &&& 31).toUInt32).toInt32) % (11 : Int32))), .val (.ref w_JUNETEENTH), .val (.int (2022 : Int32)), .val (.int ((2022 : Int32) + ((vi1 &&& (7 : Int32)) - (4 : Int32)))), .unset] [(.int ((2022 : Int32) + ((vi1 &&& (7 : Int32)) - (4 : Int32))))])) _
    refine XS.iload X2.here hx rfl (hb hby at_53) rfl ?_
    show Steps p.tables e below (T2.setTop (mkF m 55 #[.val (.int vi0), .val (.int vi1), .val (.int (((vi0.toUInt32 >>> ((1 : Int32) &&& 31).toUInt32).toInt32) % (11 : Int32))), .val (.ref w_JUNETEENTH), .val (.int (2022 : Int32)), .val (.int ((2022 : Int32) + ((vi1 &&& (7 : Int32)) - (4 : Int32)))), .unset] [(.int (2022 : Int32)), (.int ((2022 : Int32) + ((vi1 &&& (7 : Int32)) - (4 : Int32))))])) _
    refine XS.icmpNo X2.here hx rfl (hb hby at_55) rfl (flt hc55).1 ?_
    show Steps p.tables e below (T2.setTop (mkF m 58 #[.val (.int vi0), .val (.int vi1), .val (.int (((vi0.toUInt32 >>> ((1 : Int32) &&& 31).toUInt32).toInt32) % (11 : Int32))), .val (.ref w_JUNETEENTH), .val (.int (2022 : Int32)), .val (.int ((2022 : Int32) + ((vi1 &&& (7 : Int32)) - (4 : Int32)))), .unset] [])) _
    refine XS.iconst X2.here hx rfl (hb hby at_58) ?_
    show Steps p.tables e below (T2.setTop (mkF m 59 #[.val (.int vi0), .val (.int vi1), .val (.int (((vi0.toUInt32 >>> ((1 : Int32) &&& 31).toUInt32).toInt32) % (11 : Int32))), .val (.ref w_JUNETEENTH), .val (.int (2022 : Int32)), .val (.int ((2022 : Int32) + ((vi1 &&& (7 : Int32)) - (4 : Int32)))), .unset] [(.int (1 : Int32))])) _
    refine XS.goto X2.here hx rfl (pc0 := 59) (pc' := 63) rfl (hb hby at_59) (by decide) (by decide) ?_
    show Steps p.tables e below (T2.setTop (mkF m 63 #[.val (.int vi0), .val (.int vi1), .val (.int (((vi0.toUInt32 >>> ((1 : Int32) &&& 31).toUInt32).toInt32) % (11 : Int32))), .val (.ref w_JUNETEENTH), .val (.int (2022 : Int32)), .val (.int ((2022 : Int32) + ((vi1 &&& (7 : Int32)) - (4 : Int32)))), .unset] [(.int (1 : Int32))])) _
    refine XS.istore X2.here hx rfl (hb hby at_63) rfl (l' := #[.val (.int vi0), .val (.int vi1), .val (.int (((vi0.toUInt32 >>> ((1 : Int32) &&& 31).toUInt32).toInt32) % (11 : Int32))), .val (.ref w_JUNETEENTH), .val (.int (2022 : Int32)), .val (.int ((2022 : Int32) + ((vi1 &&& (7 : Int32)) - (4 : Int32)))), .val (.int (1 : Int32))]) rfl ?_
    show Steps p.tables e below (T2.setTop (mkF m 65 #[.val (.int vi0), .val (.int vi1), .val (.int (((vi0.toUInt32 >>> ((1 : Int32) &&& 31).toUInt32).toInt32) % (11 : Int32))), .val (.ref w_JUNETEENTH), .val (.int (2022 : Int32)), .val (.int ((2022 : Int32) + ((vi1 &&& (7 : Int32)) - (4 : Int32)))), .val (.int (1 : Int32))] [])) _
    refine XS.aloadN X2.here hx rfl (hb hby at_65) rfl rfl ?_
    show Steps p.tables e below (T2.setTop (mkF m 66 #[.val (.int vi0), .val (.int vi1), .val (.int (((vi0.toUInt32 >>> ((1 : Int32) &&& 31).toUInt32).toInt32) % (11 : Int32))), .val (.ref w_JUNETEENTH), .val (.int (2022 : Int32)), .val (.int ((2022 : Int32) + ((vi1 &&& (7 : Int32)) - (4 : Int32)))), .val (.int (1 : Int32))] [(.ref w_JUNETEENTH)])) _
    refine XS.iload X2.here hx rfl (hb hby at_66) rfl ?_
    show Steps p.tables e below (T2.setTop (mkF m 68 #[.val (.int vi0), .val (.int vi1), .val (.int (((vi0.toUInt32 >>> ((1 : Int32) &&& 31).toUInt32).toInt32) % (11 : Int32))), .val (.ref w_JUNETEENTH), .val (.int (2022 : Int32)), .val (.int ((2022 : Int32) + ((vi1 &&& (7 : Int32)) - (4 : Int32)))), .val (.int (1 : Int32))] [(.int ((2022 : Int32) + ((vi1 &&& (7 : Int32)) - (4 : Int32)))), (.ref w_JUNETEENTH)])) _
    refine st3.trans ?_
    show Steps p.tables e below (T3.setTop (mkF m 71 #[.val (.int vi0), .val (.int vi1), .val (.int (((vi0.toUInt32 >>> ((1 : Int32) &&& 31).toUInt32).toInt32) % (11 : Int32))), .val (.ref w_JUNETEENTH), .val (.int (2022 : Int32)), .val (.int ((2022 : Int32) + ((vi1 &&& (7 : Int32)) - (4 : Int32)))), .val (.int (1 : Int32))] [(.int (1 : Int32))])) _
    refine XS.iload X3.here hx rfl (hb hby at_71) rfl ?_
    show Steps p.tables e below (T3.setTop (mkF m 73 #[.val (.int vi0), .val (.int vi1), .val (.int (((vi0.toUInt32 >>> ((1 : Int32) &&& 31).toUInt32).toInt32) % (11 : Int32))), .val (.ref w_JUNETEENTH), .val (.int (2022 : Int32)), .val (.int ((2022 : Int32) + ((vi1 &&& (7 : Int32)) - (4 : Int32)))), .val (.int (1 : Int32))] [(.int (1 : Int32)), (.int (1 : Int32))])) _
    refine XS.icmpNo X3.here hx rfl (hb hby at_73) rfl (teq (rfl : (1 : Int32) = (1 : Int32))).2 ?_
    show Steps p.tables e below (T3.setTop (mkF m 76 #[.val (.int vi0), .val (.int vi1), .val (.int (((vi0.toUInt32 >>> ((1 : Int32) &&& 31).toUInt32).toInt32) % (11 : Int32))), .val (.ref w_JUNETEENTH), .val (.int (2022 : Int32)), .val (.int ((2022 : Int32) + ((vi1 &&& (7 : Int32)) - (4 : Int32)))), .val (.int (1 : Int32))] [])) _
    refine XS.iconst X3.here hx rfl (hb hby at_76) ?_
    show Steps p.tables e below (T3.setTop (mkF m 77 #[.val (.int vi0), .val (.int vi1), .val (.int (((vi0.toUInt32 >>> ((1 : Int32) &&& 31).toUInt32).toInt32) % (11 : Int32))), .val (.ref w_JUNETEENTH), .val (.int (2022 : Int32)), .val (.int ((2022 : Int32) + ((vi1 &&& (7 : Int32)) - (4 : Int32)))), .val (.int (1 : Int32))] [(.int (1 : Int32))])) _
    refine XS.goto X3.here hx rfl (pc0 := 77) (pc' := 81) rfl (hb hby at_77) (by decide) (by decide) ?_
    show Steps p.tables e below (T3.setTop (mkF m 81 #[.val (.int vi0), .val (.int vi1), .val (.int (((vi0.toUInt32 >>> ((1 : Int32) &&& 31).toUInt32).toInt32) % (11 : Int32))), .val (.ref w_JUNETEENTH), .val (.int (2022 : Int32)), .val (.int ((2022 : Int32) + ((vi1 &&& (7 : Int32)) - (4 : Int32)))), .val (.int (1 : Int32))] [(.int (1 : Int32))])) _
    exact retN X3 hx (t := .boolean) Bd.returns (by simp) (hb hby at_81) hr
  · show Q0_Jtf Z vi0 vi1 w_JUNETEENTH h0 n0 _ T3.heap _
    rw [e3]
    exact ⟨rfl, N3⟩
theorem ef_0_Jtt (m : MethodId) (x0 : Int32) (x1 : Int32) : entryFrame m #[(.int x0), (.int x1)] maxLocals = mkF m 0 #[.val (.int x0), .val (.int x1), .unset, .unset, .unset, .unset, .unset] [] := by first | (simp [entryFrame, mkF, argsToLocals, Value.category, maxLocals]; done) | rfl
def Q0_Jtt (Z : State) (vi0 : Int32) (vi1 : Int32) (w_JUNETEENTH : Addr) (h0 : Heap) (n0 : Nat) (v : Option Value) (h : Heap) (L : List Loc) : Prop := v = some (.int (1 : Int32)) ∧ Fr n0 L
set_option maxRecDepth 65536 in
set_option maxHeartbeats 40000000 in
theorem rm0_Jtt (l : Launch) (Z : State) (a0 : Array Value) (hw : ∀ d ∈ tables_1, d.before a0 Z = true) (ws : List Jvm.Cond) (vi0 : Int32) (vi1 : Int32) (w_JUNETEENTH : Addr) (h0 : Heap) (n0 : Nat) (Z0 : n0 ≤ h0.size) (E_w_JUNETEENTH : Exa Z Z.heap w_JUNETEENTH "com/example/lintel/lintel/calendar/FederalHoliday") (F_firstYear_w_JUNETEENTH : Fld Z Z.heap w_JUNETEENTH "com/example/lintel/lintel/calendar/FederalHoliday" "firstYear" "I" (.int (2022 : Int32))) (O0 : Old Z n0 h0) (c8_hJ : (((vi0.toUInt32 >>> ((1 : Int32) &&& 31).toUInt32).toInt32) % (11 : Int32)) = (4 : Int32)) (S_JUNETEENTH : Sta Z Z.heap "com/example/lintel/lintel/calendar/FederalHoliday" "JUNETEENTH" "Lcom/example/lintel/lintel/calendar/FederalHoliday;" (.ref w_JUNETEENTH)) (hc33 : ¬ ((vi0 &&& (1 : Int32)) = (0 : Int32))) (hc55 : ((2022 : Int32) + ((vi1 &&& (7 : Int32)) - (4 : Int32))) < (2022 : Int32)) :
    MetFree l x (head1 (Jvm.Cond.code x code maxLocals ret :: ws) room_1) (fun a U => a = #[(.int vi0), (.int vi1)] ∧ Z.Warmed39 U.vm ∧ U.heap = h0) (fun _ _ _ _ _ => True) (fun _ U o U' => ∃ v L, o = .returned v ∧ Q0_Jtt Z vi0 vi1 w_JUNETEENTH h0 n0 v U'.heap L ∧ FrameEnd U o U' L room_1.cells room_1.slots) := by
  refine MetFree.of_bodySF (plainFor_of_name pn_com_example_lintel_lintel_calendar_FederalHolidayKeptInPinLaw) hisR ?_
  intro p e s m args below meth c s₁ Bd hml0 hP hK
  obtain ⟨rfl, hZ, hh⟩ := hP
  have hx := Bd.exec
  have hby := Bd.bytes
  have hml : c.maxLocals = 7 := hml0
  have hown : s.vm.findClass "com/example/lintel/lintel/calendar/FederalHolidayKeptInPinLaw" = some m.cls := findClass_of_methodNamed Bd.named
  have hnm := (name_of_methodNamed Bd.named Bd.method).1
  have X0 : Stand p l e room_1 s m #[(.int vi0), (.int vi1)] below meth c s₁ [] 0 0 := Stand.of_body Bd
  have e0 : s₁.heap = h0 := by rw [← hh, Bd.state]; rfl
  have N0 := Fr.nil n0
  have pre0 : ∀ t, Steps p.tables e below (s₁.setTop (mkF m 0 #[.val (.int vi0), .val (.int vi1), .unset, .unset, .unset, .unset, .unset] [])) t → Steps p.tables e below (s₁.setTop (entryFrame m #[(.int vi0), (.int vi1)] maxLocals)) t := fun t k => castTop (ef_0_Jtt m vi0 vi1) k
  obtain ⟨_, _, ⟨T1, L1, k1, n1⟩, -, X1, ⟨Lc1, hQ1, l1, y1, z1⟩, st1⟩ := Jvm.LawKit.callS X0 hx (y := (⟨"com/example/lintel/lintel/calendar/FederalHolidayKeptInPinLaw", "pick", "(I)Lcom/example/lintel/lintel/calendar/FederalHoliday;"⟩ : MethodName)) hown (mvT hZ (wd_0 hw)) (mvT hZ (wd_1 hw)) (mvT hZ (wd_2 hw)) (mvT hZ (wd_3 hw)) (by decide) (backOf (W := 0) (rmP_J l Z a0 hw [] (((vi0.toUInt32 >>> ((1 : Int32) &&& 31).toUInt32).toInt32) % (11 : Int32)) w_JUNETEENTH h0 n0 Z0 c8_hJ S_JUNETEENTH O0) hZ (wd_3 hw) (wd_2 hw) (by decide) (by decide)) (g := (mkF m 8 #[.val (.int vi0), .val (.int vi1), .val (.int (((vi0.toUInt32 >>> ((1 : Int32) &&& 31).toUInt32).toInt32) % (11 : Int32))), .unset, .unset, .unset, .unset] [(.int (((vi0.toUInt32 >>> ((1 : Int32) &&& 31).toUInt32).toInt32) % (11 : Int32)))])) rfl (by rw [hml]; rfl) (argsL := [(.int (((vi0.toUInt32 >>> ((1 : Int32) &&& 31).toUInt32).toInt32) % (11 : Int32)))]) (rest := []) (lenOf pd_0 rfl) rfl (by show 2 * 0 + _ ≤ _; exact Nat.le_of_eq rfl) (hb hby at_8) (fun _ _ => ⟨rfl, e0, (by decide : 0 + 0 ≤ _), (by decide : 0 + 0 ≤ _)⟩)
  dsimp only [Pt.U, Pt.locs, Pt.cells, Pt.slots] at X1 l1 y1 z1 st1 hQ1
  subst l1 y1 z1
  obtain ⟨rfl, N1q, p1_0⟩ := hQ1
  have N1 := Fr.app N0 N1q
  have e1 : T1.heap = h0 := p1_0
  obtain ⟨T2, X2, e2, st2⟩ := getS2 X1 hx hZ hown (host := "") (Or.inl (wd_7 hw)) Via.refl e1 (S_JUNETEENTH.ext O0.2) (g := (mkF m 13 #[.val (.int vi0), .val (.int vi1), .val (.int (((vi0.toUInt32 >>> ((1 : Int32) &&& 31).toUInt32).toInt32) % (11 : Int32))), .val (.ref w_JUNETEENTH), .unset, .unset, .unset] [(.ref w_JUNETEENTH)])) rfl (hb hby at_13)
  obtain ⟨cq3, kq3, q3a, q3b, q3c⟩ := isOf hZ e2 (E_w_JUNETEENTH.ext O0.2)
  obtain ⟨_, _, ⟨T3, L3, k3, n3⟩, -, X3, ⟨Lc3, hQ3, l3, y3, z3⟩, st3⟩ := X2.virtualBack hx (y := (⟨"com/example/lintel/lintel/calendar/FederalHoliday", "keptIn", "(I)Z"⟩ : MethodName)) (z := (⟨"com/example/lintel/lintel/calendar/FederalHoliday", "keptIn", "(I)Z"⟩ : MethodName)) hown (mvT hZ (wd_9 hw)) (mvT hZ (wd_10 hw)) (notFace_of_selects (args := #[]) (mvT hZ (wd_12 hw))) (mvT hZ (wd_12 hw)) (mvT hZ (wd_11 hw)) (by decide) (backOf (W := 0) (rm2_t l Z a0 hw [] w_JUNETEENTH ((2022 : Int32) + ((vi1 &&& (7 : Int32)) - (4 : Int32))) (2022 : Int32) h0 n0 Z0 (F_firstYear_w_JUNETEENTH.ext O0.2) hc55) hZ (wd_13 hw) (wd_5 hw) (by decide) (by decide)) q3a q3c (g := (mkF m 68 #[.val (.int vi0), .val (.int vi1), .val (.int (((vi0.toUInt32 >>> ((1 : Int32) &&& 31).toUInt32).toInt32) % (11 : Int32))), .val (.ref w_JUNETEENTH), .val (.int (2022 : Int32)), .val (.int ((2022 : Int32) + ((vi1 &&& (7 : Int32)) - (4 : Int32)))), .val (.int (0 : Int32))] [(.int ((2022 : Int32) + ((vi1 &&& (7 : Int32)) - (4 : Int32)))), (.ref w_JUNETEENTH)])) rfl (by rw [hml]; rfl) (Steps.refl _) (argsL := [(.int ((2022 : Int32) + ((vi1 &&& (7 : Int32)) - (4 : Int32))))]) (rest := []) (lenOf pd_1 rfl) rfl (by show 2 * 0 + _ ≤ _; exact Nat.le_of_eq rfl) (hb hby at_68) (fun _ _ => ⟨rfl, e2, (by decide : 0 + 0 ≤ _), (by decide : 0 + 0 ≤ _)⟩)
  dsimp only [Pt.U, Pt.locs, Pt.cells, Pt.slots] at X3 l3 y3 z3 st3 hQ3
  subst l3 y3 z3
  obtain ⟨rfl, N3q, p3_0⟩ := hQ3
  have N3 := Fr.app N1 N3q
  have e3 : T3.heap = h0 := p3_0
  obtain ⟨fs, hr, hrun, hended, hW, hsame⟩ := X3.leave (v := some (.int (1 : Int32))) (fun h => by rw [Bd.returns] at h; cases h)
  refine ⟨_, _, pre0 _ ?_, hrun, hended, _, _, rfl, ?_, ⟨_, rfl⟩, hW, hsame.mono (by decide) (by decide)⟩
  · show Steps p.tables e below (s₁.setTop (mkF m 0 #[.val (.int vi0), .val (.int vi1), .unset, .unset, .unset, .unset, .unset] [])) _
    refine XS.iloadN X0.here hx rfl (hb hby at_0) rfl ?_
    show Steps p.tables e below (s₁.setTop (mkF m 1 #[.val (.int vi0), .val (.int vi1), .unset, .unset, .unset, .unset, .unset] [(.int vi0)])) _
    refine XS.iconst X0.here hx rfl (hb hby at_1) ?_
    show Steps p.tables e below (s₁.setTop (mkF m 2 #[.val (.int vi0), .val (.int vi1), .unset, .unset, .unset, .unset, .unset] [(.int (1 : Int32)), (.int vi0)])) _
    refine XS.iushr X0.here hx rfl (hb hby at_2) rfl ?_
    show Steps p.tables e below (s₁.setTop (mkF m 3 #[.val (.int vi0), .val (.int vi1), .unset, .unset, .unset, .unset, .unset] [(.int ((vi0.toUInt32 >>> ((1 : Int32) &&& 31).toUInt32).toInt32))])) _
    refine XS.bipush X0.here hx rfl (hb hby at_3) ?_
    show Steps p.tables e below (s₁.setTop (mkF m 5 #[.val (.int vi0), .val (.int vi1), .unset, .unset, .unset, .unset, .unset] [(.int (11 : Int32)), (.int ((vi0.toUInt32 >>> ((1 : Int32) &&& 31).toUInt32).toInt32))])) _
    refine iremM X0 hx rfl (hb hby at_5) rfl (by decide) ?_
    show Steps p.tables e below (s₁.setTop (mkF m 6 #[.val (.int vi0), .val (.int vi1), .unset, .unset, .unset, .unset, .unset] [(.int (((vi0.toUInt32 >>> ((1 : Int32) &&& 31).toUInt32).toInt32) % (11 : Int32)))])) _
    refine XS.istoreN X0.here hx rfl (hb hby at_6) rfl (l' := #[.val (.int vi0), .val (.int vi1), .val (.int (((vi0.toUInt32 >>> ((1 : Int32) &&& 31).toUInt32).toInt32) % (11 : Int32))), .unset, .unset, .unset, .unset]) rfl ?_
    show Steps p.tables e below (s₁.setTop (mkF m 7 #[.val (.int vi0), .val (.int vi1), .val (.int (((vi0.toUInt32 >>> ((1 : Int32) &&& 31).toUInt32).toInt32) % (11 : Int32))), .unset, .unset, .unset, .unset] [])) _
    refine XS.iloadN X0.here hx rfl (hb hby at_7) rfl ?_
    show Steps p.tables e below (s₁.setTop (mkF m 8 #[.val (.int vi0), .val (.int vi1), .val (.int (((vi0.toUInt32 >>> ((1 : Int32) &&& 31).toUInt32).toInt32) % (11 : Int32))), .unset, .unset, .unset, .unset] [(.int (((vi0.toUInt32 >>> ((1 : Int32) &&& 31).toUInt32).toInt32) % (11 : Int32)))])) _
    refine st1 _ ?_
    show Steps p.tables e below (T1.setTop (mkF m 11 #[.val (.int vi0), .val (.int vi1), .val (.int (((vi0.toUInt32 >>> ((1 : Int32) &&& 31).toUInt32).toInt32) % (11 : Int32))), .unset, .unset, .unset, .unset] [(.ref w_JUNETEENTH)])) _
    refine XS.astoreN X1.here hx rfl (hb hby at_11) rfl rfl (l' := #[.val (.int vi0), .val (.int vi1), .val (.int (((vi0.toUInt32 >>> ((1 : Int32) &&& 31).toUInt32).toInt32) % (11 : Int32))), .val (.ref w_JUNETEENTH), .unset, .unset, .unset]) rfl ?_
    show Steps p.tables e below (T1.setTop (mkF m 12 #[.val (.int vi0), .val (.int vi1), .val (.int (((vi0.toUInt32 >>> ((1 : Int32) &&& 31).toUInt32).toInt32) % (11 : Int32))), .val (.ref w_JUNETEENTH), .unset, .unset, .unset] [])) _
    refine XS.aloadN X1.here hx rfl (hb hby at_12) rfl rfl ?_
    show Steps p.tables e below (T1.setTop (mkF m 13 #[.val (.int vi0), .val (.int vi1), .val (.int (((vi0.toUInt32 >>> ((1 : Int32) &&& 31).toUInt32).toInt32) % (11 : Int32))), .val (.ref w_JUNETEENTH), .unset, .unset, .unset] [(.ref w_JUNETEENTH)])) _
    refine st2 _ ?_
    show Steps p.tables e below (T2.setTop (mkF m 16 #[.val (.int vi0), .val (.int vi1), .val (.int (((vi0.toUInt32 >>> ((1 : Int32) &&& 31).toUInt32).toInt32) % (11 : Int32))), .val (.ref w_JUNETEENTH), .unset, .unset, .unset] [(.ref w_JUNETEENTH), (.ref w_JUNETEENTH)])) _
    refine Jvm.RoadKit.acmp (g := (mkF m 16 #[.val (.int vi0), .val (.int vi1), .val (.int (((vi0.toUInt32 >>> ((1 : Int32) &&& 31).toUInt32).toInt32) % (11 : Int32))), .val (.ref w_JUNETEENTH), .unset, .unset, .unset] [(.ref w_JUNETEENTH), (.ref w_JUNETEENTH)])) X2 hx rfl rfl rfl (pc0 := 16) (pc' := 19) (same := true) rfl (hb hby at_16) rfl (decide_eq_true rfl) (by decide) (by decide) ?_
    show Steps p.tables e below (T2.setTop (mkF m 19 #[.val (.int vi0), .val (.int vi1), .val (.int (((vi0.toUInt32 >>> ((1 : Int32) &&& 31).toUInt32).toInt32) % (11 : Int32))), .val (.ref w_JUNETEENTH), .unset, .unset, .unset] [])) _
    refine XS.sipush X2.here hx rfl (hb hby at_19) ?_
    show Steps p.tables e below (T2.setTop (mkF m 22 #[.val (.int vi0), .val (.int vi1), .val (.int (((vi0.toUInt32 >>> ((1 : Int32) &&& 31).toUInt32).toInt32) % (11 : Int32))), .val (.ref w_JUNETEENTH), .unset, .unset, .unset] [(.int (2022 : Int32))])) _
    refine XS.goto X2.here hx rfl (pc0 := 22) (pc' := 28) rfl (hb hby at_22) (by decide) (by decide) ?_
    show Steps p.tables e below (T2.setTop (mkF m 28 #[.val (.int vi0), .val (.int vi1), .val (.int (((vi0.toUInt32 >>> ((1 : Int32) &&& 31).toUInt32).toInt32) % (11 : Int32))), .val (.ref w_JUNETEENTH), .unset, .unset, .unset] [(.int (2022 : Int32))])) _
    refine XS.istore X2.here hx rfl (hb hby at_28) rfl (l' := #[.val (.int vi0), .val (.int vi1), .val (.int (((vi0.toUInt32 >>> ((1 : Int32) &&& 31).toUInt32).toInt32) % (11 : Int32))), .val (.ref w_JUNETEENTH), .val (.int (2022 : Int32)), .unset, .unset]) rfl ?_
    show Steps p.tables e below (T2.setTop (mkF m 30 #[.val (.int vi0), .val (.int vi1), .val (.int (((vi0.toUInt32 >>> ((1 : Int32) &&& 31).toUInt32).toInt32) % (11 : Int32))), .val (.ref w_JUNETEENTH), .val (.int (2022 : Int32)), .unset, .unset] [])) _
    refine XS.iloadN X2.here hx rfl (hb hby at_30) rfl ?_
    show Steps p.tables e below (T2.setTop (mkF m 31 #[.val (.int vi0), .val (.int vi1), .val (.int (((vi0.toUInt32 >>> ((1 : Int32) &&& 31).toUInt32).toInt32) % (11 : Int32))), .val (.ref w_JUNETEENTH), .val (.int (2022 : Int32)), .unset, .unset] [(.int vi0)])) _
    refine XS.iconst X2.here hx rfl (hb hby at_31) ?_
    show Steps p.tables e below (T2.setTop (mkF m 32 #[.val (.int vi0), .val (.int vi1), .val (.int (((vi0.toUInt32 >>> ((1 : Int32) &&& 31).toUInt32).toInt32) % (11 : Int32))), .val (.ref w_JUNETEENTH), .val (.int (2022 : Int32)), .unset, .unset] [(.int (1 : Int32)), (.int vi0)])) _
    refine XS.iand X2.here hx rfl (hb hby at_32) rfl ?_
    show Steps p.tables e below (T2.setTop (mkF m 33 #[.val (.int vi0), .val (.int vi1), .val (.int (((vi0.toUInt32 >>> ((1 : Int32) &&& 31).toUInt32).toInt32) % (11 : Int32))), .val (.ref w_JUNETEENTH), .val (.int (2022 : Int32)), .unset, .unset] [(.int (vi0 &&& (1 : Int32)))])) _
    refine XS.ifYes X2.here hx rfl (pc0 := 33) (pc' := 40) rfl (hb hby at_33) rfl ((if0 _ _).trans (feq hc33).2) (by decide) (by decide) ?_
    show Steps p.tables e below (T2.setTop (mkF m 40 #[.val (.int vi0), .val (.int vi1), .val (.int (((vi0.toUInt32 >>> ((1 : Int32) &&& 31).toUInt32).toInt32) % (11 : Int32))), .val (.ref w_JUNETEENTH), .val (.int (2022 : Int32)), .unset, .unset] [])) _
    refine XS.iload X2.here hx rfl (hb hby at_40) rfl ?_
    show Steps p.tables e below (T2.setTop (mkF m 42 #[.val (.int vi0), .val (.int vi1), .val (.int (((vi0.toUInt32 >>> ((1 : Int32) &&& 31).toUInt32).toInt32) % (11 : Int32))), .val (.ref w_JUNETEENTH), .val (.int (2022 : Int32)), .unset, .unset] [(.int (2022 : Int32))])) _
    refine XS.iloadN X2.here hx rfl (hb hby at_42) rfl ?_
    show Steps p.tables e below (T2.setTop (mkF m 43 #[.val (.int vi0), .val (.int vi1), .val (.int (((vi0.toUInt32 >>> ((1 : Int32) &&& 31).toUInt32).toInt32) % (11 : Int32))), .val (.ref w_JUNETEENTH), .val (.int (2022 : Int32)), .unset, .unset] [(.int vi1), (.int (2022 : Int32))])) _
    refine XS.bipush X2.here hx rfl (hb hby at_43) ?_
    show Steps p.tables e below (T2.setTop (mkF m 45 #[.val (.int vi0), .val (.int vi1), .val (.int (((vi0.toUInt32 >>> ((1 : Int32) &&& 31).toUInt32).toInt32) % (11 : Int32))), .val (.ref w_JUNETEENTH), .val (.int (2022 : Int32)), .unset, .unset] [(.int (7 : Int32)), (.int vi1), (.int (2022 : Int32))])) _
    refine XS.iand X2.here hx rfl (hb hby at_45) rfl ?_
    show Steps p.tables e below (T2.setTop (mkF m 46 #[.val (.int vi0), .val (.int vi1), .val (.int (((vi0.toUInt32 >>> ((1 : Int32) &&& 31).toUInt32).toInt32) % (11 : Int32))), .val (.ref w_JUNETEENTH), .val (.int (2022 : Int32)), .unset, .unset] [(.int (vi1 &&& (7 : Int32))), (.int (2022 : Int32))])) _
    refine XS.iconst X2.here hx rfl (hb hby at_46) ?_
    show Steps p.tables e below (T2.setTop (mkF m 47 #[.val (.int vi0), .val (.int vi1), .val (.int (((vi0.toUInt32 >>> ((1 : Int32) &&& 31).toUInt32).toInt32) % (11 : Int32))), .val (.ref w_JUNETEENTH), .val (.int (2022 : Int32)), .unset, .unset] [(.int (4 : Int32)), (.int (vi1 &&& (7 : Int32))), (.int (2022 : Int32))])) _
    refine XS.isub X2.here hx rfl (hb hby at_47) rfl ?_
    show Steps p.tables e below (T2.setTop (mkF m 48 #[.val (.int vi0), .val (.int vi1), .val (.int (((vi0.toUInt32 >>> ((1 : Int32) &&& 31).toUInt32).toInt32) % (11 : Int32))), .val (.ref w_JUNETEENTH), .val (.int (2022 : Int32)), .unset, .unset] [(.int ((vi1 &&& (7 : Int32)) - (4 : Int32))), (.int (2022 : Int32))])) _
    refine XS.iadd X2.here hx rfl (hb hby at_48) rfl ?_
    show Steps p.tables e below (T2.setTop (mkF m 49 #[.val (.int vi0), .val (.int vi1), .val (.int (((vi0.toUInt32 >>> ((1 : Int32) &&& 31).toUInt32).toInt32) % (11 : Int32))), .val (.ref w_JUNETEENTH), .val (.int (2022 : Int32)), .unset, .unset] [(.int ((2022 : Int32) + ((vi1 &&& (7 : Int32)) - (4 : Int32))))])) _
    refine XS.istore X2.here hx rfl (hb hby at_49) rfl (l' := #[.val (.int vi0), .val (.int vi1), .val (.int (((vi0.toUInt32 >>> ((1 : Int32) &&& 31).toUInt32).toInt32) % (11 : Int32))), .val (.ref w_JUNETEENTH), .val (.int (2022 : Int32)), .val (.int ((2022 : Int32) + ((vi1 &&& (7 : Int32)) - (4 : Int32)))), .unset]) rfl ?_
    show Steps p.tables e below (T2.setTop (mkF m 51 #[.val (.int vi0), .val (.int vi1), .val (.int (((vi0.toUInt32 >>> ((1 : Int32) &&& 31).toUInt32).toInt32) % (11 : Int32))), .val (.ref w_JUNETEENTH), .val (.int (2022 : Int32)), .val (.int ((2022 : Int32) + ((vi1 &&& (7 : Int32)) - (4 : Int32)))), .unset] [])) _
    refine XS.iload X2.here hx rfl (hb hby at_51) rfl ?_
    show Steps p.tables e below (T2.setTop (mkF m 53 #[.val (.int vi0), .val (.int vi1), .val (.int (((vi0.toUInt32 >>> ((1 : Int32) &&& 31).toUInt32).toInt32) % (11 : Int32))), .val (.ref w_JUNETEENTH), .val (.int (2022 : Int32)), .val (.int ((2022 : Int32) + ((vi1 &&& (7 : Int32)) - (4 : Int32)))), .unset] [(.int ((2022 : Int32) + ((vi1 &&& (7 : Int32)) - (4 : Int32))))])) _
    refine XS.iload X2.here hx rfl (hb hby at_53) rfl ?_
    show Steps p.tables e below (T2.setTop (mkF m 55 #[.val (.int vi0), .val (.int vi1), .val (.int (((vi0.toUInt32 >>> ((1 : Int32) &&& 31).toUInt32).toInt32) % (11 : Int32))), .val (.ref w_JUNETEENTH), .val (.int (2022 : Int32)), .val (.int ((2022 : Int32) + ((vi1 &&& (7 : Int32)) - (4 : Int32)))), .unset] [(.int (2022 : Int32)), (.int ((2022 : Int32) + ((vi1 &&& (7 : Int32)) - (4 : Int32))))])) _
    refine XS.icmpYes X2.here hx rfl (pc0 := 55) (pc' := 62) rfl (hb hby at_55) rfl (tlt hc55).1 (by decide) (by decide) ?_
    show Steps p.tables e below (T2.setTop (mkF m 62 #[.val (.int vi0), .val (.int vi1), .val (.int (((vi0.toUInt32 >>> ((1 : Int32) &&& 31).toUInt32).toInt32) % (11 : Int32))), .val (.ref w_JUNETEENTH), .val (.int (2022 : Int32)), .val (.int ((2022 : Int32) + ((vi1 &&& (7 : Int32)) - (4 : Int32)))), .unset] [])) _
    refine XS.iconst X2.here hx rfl (hb hby at_62) ?_
    show Steps p.tables e below (T2.setTop (mkF m 63 #[.val (.int vi0), .val (.int vi1), .val (.int (((vi0.toUInt32 >>> ((1 : Int32) &&& 31).toUInt32).toInt32) % (11 : Int32))), .val (.ref w_JUNETEENTH), .val (.int (2022 : Int32)), .val (.int ((2022 : Int32) + ((vi1 &&& (7 : Int32)) - (4 : Int32)))), .unset] [(.int (0 : Int32))])) _
    refine XS.istore X2.here hx rfl (hb hby at_63) rfl (l' := #[.val (.int vi0), .val (.int vi1), .val (.int (((vi0.toUInt32 >>> ((1 : Int32) &&& 31).toUInt32).toInt32) % (11 : Int32))), .val (.ref w_JUNETEENTH), .val (.int (2022 : Int32)), .val (.int ((2022 : Int32) + ((vi1 &&& (7 : Int32)) - (4 : Int32)))), .val (.int (0 : Int32))]) rfl ?_
    show Steps p.tables e below (T2.setTop (mkF m 65 #[.val (.int vi0), .val (.int vi1), .val (.int (((vi0.toUInt32 >>> ((1 : Int32) &&& 31).toUInt32).toInt32) % (11 : Int32))), .val (.ref w_JUNETEENTH), .val (.int (2022 : Int32)), .val (.int ((2022 : Int32) + ((vi1 &&& (7 : Int32)) - (4 : Int32)))), .val (.int (0 : Int32))] [])) _
    refine XS.aloadN X2.here hx rfl (hb hby at_65) rfl rfl ?_
    show Steps p.tables e below (T2.setTop (mkF m 66 #[.val (.int vi0), .val (.int vi1), .val (.int (((vi0.toUInt32 >>> ((1 : Int32) &&& 31).toUInt32).toInt32) % (11 : Int32))), .val (.ref w_JUNETEENTH), .val (.int (2022 : Int32)), .val (.int ((2022 : Int32) + ((vi1 &&& (7 : Int32)) - (4 : Int32)))), .val (.int (0 : Int32))] [(.ref w_JUNETEENTH)])) _
    refine XS.iload X2.here hx rfl (hb hby at_66) rfl ?_
    show Steps p.tables e below (T2.setTop (mkF m 68 #[.val (.int vi0), .val (.int vi1), .val (.int (((vi0.toUInt32 >>> ((1 : Int32) &&& 31).toUInt32).toInt32) % (11 : Int32))), .val (.ref w_JUNETEENTH), .val (.int (2022 : Int32)), .val (.int ((2022 : Int32) + ((vi1 &&& (7 : Int32)) - (4 : Int32)))), .val (.int (0 : Int32))] [(.int ((2022 : Int32) + ((vi1 &&& (7 : Int32)) - (4 : Int32)))), (.ref w_JUNETEENTH)])) _
    refine st3.trans ?_
    show Steps p.tables e below (T3.setTop (mkF m 71 #[.val (.int vi0), .val (.int vi1), .val (.int (((vi0.toUInt32 >>> ((1 : Int32) &&& 31).toUInt32).toInt32) % (11 : Int32))), .val (.ref w_JUNETEENTH), .val (.int (2022 : Int32)), .val (.int ((2022 : Int32) + ((vi1 &&& (7 : Int32)) - (4 : Int32)))), .val (.int (0 : Int32))] [(.int (0 : Int32))])) _
    refine XS.iload X3.here hx rfl (hb hby at_71) rfl ?_
    show Steps p.tables e below (T3.setTop (mkF m 73 #[.val (.int vi0), .val (.int vi1), .val (.int (((vi0.toUInt32 >>> ((1 : Int32) &&& 31).toUInt32).toInt32) % (11 : Int32))), .val (.ref w_JUNETEENTH), .val (.int (2022 : Int32)), .val (.int ((2022 : Int32) + ((vi1 &&& (7 : Int32)) - (4 : Int32)))), .val (.int (0 : Int32))] [(.int (0 : Int32)), (.int (0 : Int32))])) _
    refine XS.icmpNo X3.here hx rfl (hb hby at_73) rfl (teq (rfl : (0 : Int32) = (0 : Int32))).2 ?_
    show Steps p.tables e below (T3.setTop (mkF m 76 #[.val (.int vi0), .val (.int vi1), .val (.int (((vi0.toUInt32 >>> ((1 : Int32) &&& 31).toUInt32).toInt32) % (11 : Int32))), .val (.ref w_JUNETEENTH), .val (.int (2022 : Int32)), .val (.int ((2022 : Int32) + ((vi1 &&& (7 : Int32)) - (4 : Int32)))), .val (.int (0 : Int32))] [])) _
    refine XS.iconst X3.here hx rfl (hb hby at_76) ?_
    show Steps p.tables e below (T3.setTop (mkF m 77 #[.val (.int vi0), .val (.int vi1), .val (.int (((vi0.toUInt32 >>> ((1 : Int32) &&& 31).toUInt32).toInt32) % (11 : Int32))), .val (.ref w_JUNETEENTH), .val (.int (2022 : Int32)), .val (.int ((2022 : Int32) + ((vi1 &&& (7 : Int32)) - (4 : Int32)))), .val (.int (0 : Int32))] [(.int (1 : Int32))])) _
    refine XS.goto X3.here hx rfl (pc0 := 77) (pc' := 81) rfl (hb hby at_77) (by decide) (by decide) ?_
    show Steps p.tables e below (T3.setTop (mkF m 81 #[.val (.int vi0), .val (.int vi1), .val (.int (((vi0.toUInt32 >>> ((1 : Int32) &&& 31).toUInt32).toInt32) % (11 : Int32))), .val (.ref w_JUNETEENTH), .val (.int (2022 : Int32)), .val (.int ((2022 : Int32) + ((vi1 &&& (7 : Int32)) - (4 : Int32)))), .val (.int (0 : Int32))] [(.int (1 : Int32))])) _
    exact retN X3 hx (t := .boolean) Bd.returns (by simp) (hb hby at_81) hr
  · show Q0_Jtt Z vi0 vi1 w_JUNETEENTH h0 n0 _ T3.heap _
    rw [e3]
    exact ⟨rfl, N3⟩
theorem ef_0_Off (m : MethodId) (x0 : Int32) (x1 : Int32) : entryFrame m #[(.int x0), (.int x1)] maxLocals = mkF m 0 #[.val (.int x0), .val (.int x1), .unset, .unset, .unset, .unset, .unset] [] := by first | (simp [entryFrame, mkF, argsToLocals, Value.category, maxLocals]; done) | rfl
def Q0_Off (Z : State) (vi0 : Int32) (vi1 : Int32) (w_NEW_YEARS_DAY : Addr) (w_BIRTHDAY_OF_MARTIN_LUTHER_KING_JR : Addr) (w_WASHINGTONS_BIRTHDAY : Addr) (w_MEMORIAL_DAY : Addr) (w_INDEPENDENCE_DAY : Addr) (w_LABOR_DAY : Addr) (w_COLUMBUS_DAY : Addr) (w_VETERANS_DAY : Addr) (w_THANKSGIVING_DAY : Addr) (w_CHRISTMAS_DAY : Addr) (w_JUNETEENTH : Addr) (h0 : Heap) (n0 : Nat) (v : Option Value) (h : Heap) (L : List Loc) : Prop := v = some (.int (1 : Int32)) ∧ Fr n0 L
set_option maxRecDepth 65536 in
set_option maxHeartbeats 40000000 in
theorem rm0_Off (l : Launch) (Z : State) (a0 : Array Value) (hw : ∀ d ∈ tables_1, d.before a0 Z = true) (ws : List Jvm.Cond) (vi0 : Int32) (vi1 : Int32) (w_NEW_YEARS_DAY : Addr) (w_BIRTHDAY_OF_MARTIN_LUTHER_KING_JR : Addr) (w_WASHINGTONS_BIRTHDAY : Addr) (w_MEMORIAL_DAY : Addr) (w_INDEPENDENCE_DAY : Addr) (w_LABOR_DAY : Addr) (w_COLUMBUS_DAY : Addr) (w_VETERANS_DAY : Addr) (w_THANKSGIVING_DAY : Addr) (w_CHRISTMAS_DAY : Addr) (w_JUNETEENTH : Addr) (h0 : Heap) (n0 : Nat) (Z0 : n0 ≤ h0.size) (c8_hO : ¬ ((((vi0.toUInt32 >>> ((1 : Int32) &&& 31).toUInt32).toInt32) % (11 : Int32)) = (4 : Int32))) (E_w_NEW_YEARS_DAY : Exa Z Z.heap w_NEW_YEARS_DAY "com/example/lintel/lintel/calendar/FederalHoliday") (F_firstYear_w_NEW_YEARS_DAY : Fld Z Z.heap w_NEW_YEARS_DAY "com/example/lintel/lintel/calendar/FederalHoliday" "firstYear" "I" (.int (1986 : Int32))) (nJ_w_NEW_YEARS_DAY : ¬ (w_NEW_YEARS_DAY = w_JUNETEENTH)) (S_NEW_YEARS_DAY : Sta Z Z.heap "com/example/lintel/lintel/calendar/FederalHoliday" "NEW_YEARS_DAY" "Lcom/example/lintel/lintel/calendar/FederalHoliday;" (.ref w_NEW_YEARS_DAY)) (O0 : Old Z n0 h0) (E_w_BIRTHDAY_OF_MARTIN_LUTHER_KING_JR : Exa Z Z.heap w_BIRTHDAY_OF_MARTIN_LUTHER_KING_JR "com/example/lintel/lintel/calendar/FederalHoliday") (F_firstYear_w_BIRTHDAY_OF_MARTIN_LUTHER_KING_JR : Fld Z Z.heap w_BIRTHDAY_OF_MARTIN_LUTHER_KING_JR "com/example/lintel/lintel/calendar/FederalHoliday" "firstYear" "I" (.int (1986 : Int32))) (nJ_w_BIRTHDAY_OF_MARTIN_LUTHER_KING_JR : ¬ (w_BIRTHDAY_OF_MARTIN_LUTHER_KING_JR = w_JUNETEENTH)) (S_BIRTHDAY_OF_MARTIN_LUTHER_KING_JR : Sta Z Z.heap "com/example/lintel/lintel/calendar/FederalHoliday" "BIRTHDAY_OF_MARTIN_LUTHER_KING_JR" "Lcom/example/lintel/lintel/calendar/FederalHoliday;" (.ref w_BIRTHDAY_OF_MARTIN_LUTHER_KING_JR)) (E_w_WASHINGTONS_BIRTHDAY : Exa Z Z.heap w_WASHINGTONS_BIRTHDAY "com/example/lintel/lintel/calendar/FederalHoliday") (F_firstYear_w_WASHINGTONS_BIRTHDAY : Fld Z Z.heap w_WASHINGTONS_BIRTHDAY "com/example/lintel/lintel/calendar/FederalHoliday" "firstYear" "I" (.int (1986 : Int32))) (nJ_w_WASHINGTONS_BIRTHDAY : ¬ (w_WASHINGTONS_BIRTHDAY = w_JUNETEENTH)) (S_WASHINGTONS_BIRTHDAY : Sta Z Z.heap "com/example/lintel/lintel/calendar/FederalHoliday" "WASHINGTONS_BIRTHDAY" "Lcom/example/lintel/lintel/calendar/FederalHoliday;" (.ref w_WASHINGTONS_BIRTHDAY)) (E_w_MEMORIAL_DAY : Exa Z Z.heap w_MEMORIAL_DAY "com/example/lintel/lintel/calendar/FederalHoliday") (F_firstYear_w_MEMORIAL_DAY : Fld Z Z.heap w_MEMORIAL_DAY "com/example/lintel/lintel/calendar/FederalHoliday" "firstYear" "I" (.int (1986 : Int32))) (nJ_w_MEMORIAL_DAY : ¬ (w_MEMORIAL_DAY = w_JUNETEENTH)) (S_MEMORIAL_DAY : Sta Z Z.heap "com/example/lintel/lintel/calendar/FederalHoliday" "MEMORIAL_DAY" "Lcom/example/lintel/lintel/calendar/FederalHoliday;" (.ref w_MEMORIAL_DAY)) (E_w_INDEPENDENCE_DAY : Exa Z Z.heap w_INDEPENDENCE_DAY "com/example/lintel/lintel/calendar/FederalHoliday") (F_firstYear_w_INDEPENDENCE_DAY : Fld Z Z.heap w_INDEPENDENCE_DAY "com/example/lintel/lintel/calendar/FederalHoliday" "firstYear" "I" (.int (1986 : Int32))) (nJ_w_INDEPENDENCE_DAY : ¬ (w_INDEPENDENCE_DAY = w_JUNETEENTH)) (S_INDEPENDENCE_DAY : Sta Z Z.heap "com/example/lintel/lintel/calendar/FederalHoliday" "INDEPENDENCE_DAY" "Lcom/example/lintel/lintel/calendar/FederalHoliday;" (.ref w_INDEPENDENCE_DAY)) (E_w_LABOR_DAY : Exa Z Z.heap w_LABOR_DAY "com/example/lintel/lintel/calendar/FederalHoliday") (F_firstYear_w_LABOR_DAY : Fld Z Z.heap w_LABOR_DAY "com/example/lintel/lintel/calendar/FederalHoliday" "firstYear" "I" (.int (1986 : Int32))) (nJ_w_LABOR_DAY : ¬ (w_LABOR_DAY = w_JUNETEENTH)) (S_LABOR_DAY : Sta Z Z.heap "com/example/lintel/lintel/calendar/FederalHoliday" "LABOR_DAY" "Lcom/example/lintel/lintel/calendar/FederalHoliday;" (.ref w_LABOR_DAY)) (E_w_COLUMBUS_DAY : Exa Z Z.heap w_COLUMBUS_DAY "com/example/lintel/lintel/calendar/FederalHoliday") (F_firstYear_w_COLUMBUS_DAY : Fld Z Z.heap w_COLUMBUS_DAY "com/example/lintel/lintel/calendar/FederalHoliday" "firstYear" "I" (.int (1986 : Int32))) (nJ_w_COLUMBUS_DAY : ¬ (w_COLUMBUS_DAY = w_JUNETEENTH)) (S_COLUMBUS_DAY : Sta Z Z.heap "com/example/lintel/lintel/calendar/FederalHoliday" "COLUMBUS_DAY" "Lcom/example/lintel/lintel/calendar/FederalHoliday;" (.ref w_COLUMBUS_DAY)) (E_w_VETERANS_DAY : Exa Z Z.heap w_VETERANS_DAY "com/example/lintel/lintel/calendar/FederalHoliday") (F_firstYear_w_VETERANS_DAY : Fld Z Z.heap w_VETERANS_DAY "com/example/lintel/lintel/calendar/FederalHoliday" "firstYear" "I" (.int (1986 : Int32))) (nJ_w_VETERANS_DAY : ¬ (w_VETERANS_DAY = w_JUNETEENTH)) (S_VETERANS_DAY : Sta Z Z.heap "com/example/lintel/lintel/calendar/FederalHoliday" "VETERANS_DAY" "Lcom/example/lintel/lintel/calendar/FederalHoliday;" (.ref w_VETERANS_DAY)) (E_w_THANKSGIVING_DAY : Exa Z Z.heap w_THANKSGIVING_DAY "com/example/lintel/lintel/calendar/FederalHoliday") (F_firstYear_w_THANKSGIVING_DAY : Fld Z Z.heap w_THANKSGIVING_DAY "com/example/lintel/lintel/calendar/FederalHoliday" "firstYear" "I" (.int (1986 : Int32))) (nJ_w_THANKSGIVING_DAY : ¬ (w_THANKSGIVING_DAY = w_JUNETEENTH)) (S_THANKSGIVING_DAY : Sta Z Z.heap "com/example/lintel/lintel/calendar/FederalHoliday" "THANKSGIVING_DAY" "Lcom/example/lintel/lintel/calendar/FederalHoliday;" (.ref w_THANKSGIVING_DAY)) (E_w_CHRISTMAS_DAY : Exa Z Z.heap w_CHRISTMAS_DAY "com/example/lintel/lintel/calendar/FederalHoliday") (F_firstYear_w_CHRISTMAS_DAY : Fld Z Z.heap w_CHRISTMAS_DAY "com/example/lintel/lintel/calendar/FederalHoliday" "firstYear" "I" (.int (1986 : Int32))) (nJ_w_CHRISTMAS_DAY : ¬ (w_CHRISTMAS_DAY = w_JUNETEENTH)) (S_CHRISTMAS_DAY : Sta Z Z.heap "com/example/lintel/lintel/calendar/FederalHoliday" "CHRISTMAS_DAY" "Lcom/example/lintel/lintel/calendar/FederalHoliday;" (.ref w_CHRISTMAS_DAY)) (S_JUNETEENTH : Sta Z Z.heap "com/example/lintel/lintel/calendar/FederalHoliday" "JUNETEENTH" "Lcom/example/lintel/lintel/calendar/FederalHoliday;" (.ref w_JUNETEENTH)) (hc33 : (vi0 &&& (1 : Int32)) = (0 : Int32)) (hc55 : ¬ (vi1 < (1986 : Int32))) :
    MetFree l x (head1 (Jvm.Cond.code x code maxLocals ret :: ws) room_1) (fun a U => a = #[(.int vi0), (.int vi1)] ∧ Z.Warmed39 U.vm ∧ U.heap = h0) (fun _ _ _ _ _ => True) (fun _ U o U' => ∃ v L, o = .returned v ∧ Q0_Off Z vi0 vi1 w_NEW_YEARS_DAY w_BIRTHDAY_OF_MARTIN_LUTHER_KING_JR w_WASHINGTONS_BIRTHDAY w_MEMORIAL_DAY w_INDEPENDENCE_DAY w_LABOR_DAY w_COLUMBUS_DAY w_VETERANS_DAY w_THANKSGIVING_DAY w_CHRISTMAS_DAY w_JUNETEENTH h0 n0 v U'.heap L ∧ FrameEnd U o U' L room_1.cells room_1.slots) := by
  refine MetFree.of_bodySF (plainFor_of_name pn_com_example_lintel_lintel_calendar_FederalHolidayKeptInPinLaw) hisR ?_
  intro p e s m args below meth c s₁ Bd hml0 hP hK
  obtain ⟨rfl, hZ, hh⟩ := hP
  have hx := Bd.exec
  have hby := Bd.bytes
  have hml : c.maxLocals = 7 := hml0
  have hown : s.vm.findClass "com/example/lintel/lintel/calendar/FederalHolidayKeptInPinLaw" = some m.cls := findClass_of_methodNamed Bd.named
  have hnm := (name_of_methodNamed Bd.named Bd.method).1
  have X0 : Stand p l e room_1 s m #[(.int vi0), (.int vi1)] below meth c s₁ [] 0 0 := Stand.of_body Bd
  have e0 : s₁.heap = h0 := by rw [← hh, Bd.state]; rfl
  have N0 := Fr.nil n0
  have pre0 : ∀ t, Steps p.tables e below (s₁.setTop (mkF m 0 #[.val (.int vi0), .val (.int vi1), .unset, .unset, .unset, .unset, .unset] [])) t → Steps p.tables e below (s₁.setTop (entryFrame m #[(.int vi0), (.int vi1)] maxLocals)) t := fun t k => castTop (ef_0_Off m vi0 vi1) k
  obtain ⟨_, _, ⟨T1, L1, k1, n1⟩, -, X1, ⟨Lc1, hQ1, l1, y1, z1⟩, st1⟩ := Jvm.LawKit.callS X0 hx (y := (⟨"com/example/lintel/lintel/calendar/FederalHolidayKeptInPinLaw", "pick", "(I)Lcom/example/lintel/lintel/calendar/FederalHoliday;"⟩ : MethodName)) hown (mvT hZ (wd_0 hw)) (mvT hZ (wd_1 hw)) (mvT hZ (wd_2 hw)) (mvT hZ (wd_3 hw)) (by decide) (backOf (W := 0) (rmP_O l Z a0 hw [] (((vi0.toUInt32 >>> ((1 : Int32) &&& 31).toUInt32).toInt32) % (11 : Int32)) w_JUNETEENTH w_NEW_YEARS_DAY w_BIRTHDAY_OF_MARTIN_LUTHER_KING_JR w_WASHINGTONS_BIRTHDAY w_MEMORIAL_DAY w_INDEPENDENCE_DAY w_LABOR_DAY w_COLUMBUS_DAY w_VETERANS_DAY w_THANKSGIVING_DAY w_CHRISTMAS_DAY h0 n0 Z0 c8_hO E_w_NEW_YEARS_DAY F_firstYear_w_NEW_YEARS_DAY nJ_w_NEW_YEARS_DAY S_NEW_YEARS_DAY O0 E_w_BIRTHDAY_OF_MARTIN_LUTHER_KING_JR F_firstYear_w_BIRTHDAY_OF_MARTIN_LUTHER_KING_JR nJ_w_BIRTHDAY_OF_MARTIN_LUTHER_KING_JR S_BIRTHDAY_OF_MARTIN_LUTHER_KING_JR E_w_WASHINGTONS_BIRTHDAY F_firstYear_w_WASHINGTONS_BIRTHDAY nJ_w_WASHINGTONS_BIRTHDAY S_WASHINGTONS_BIRTHDAY E_w_MEMORIAL_DAY F_firstYear_w_MEMORIAL_DAY nJ_w_MEMORIAL_DAY S_MEMORIAL_DAY E_w_INDEPENDENCE_DAY F_firstYear_w_INDEPENDENCE_DAY nJ_w_INDEPENDENCE_DAY S_INDEPENDENCE_DAY E_w_LABOR_DAY F_firstYear_w_LABOR_DAY nJ_w_LABOR_DAY S_LABOR_DAY E_w_COLUMBUS_DAY F_firstYear_w_COLUMBUS_DAY nJ_w_COLUMBUS_DAY S_COLUMBUS_DAY E_w_VETERANS_DAY F_firstYear_w_VETERANS_DAY nJ_w_VETERANS_DAY S_VETERANS_DAY E_w_THANKSGIVING_DAY F_firstYear_w_THANKSGIVING_DAY nJ_w_THANKSGIVING_DAY S_THANKSGIVING_DAY E_w_CHRISTMAS_DAY F_firstYear_w_CHRISTMAS_DAY nJ_w_CHRISTMAS_DAY S_CHRISTMAS_DAY) hZ (wd_3 hw) (wd_2 hw) (by decide) (by decide)) (g := (mkF m 8 #[.val (.int vi0), .val (.int vi1), .val (.int (((vi0.toUInt32 >>> ((1 : Int32) &&& 31).toUInt32).toInt32) % (11 : Int32))), .unset, .unset, .unset, .unset] [(.int (((vi0.toUInt32 >>> ((1 : Int32) &&& 31).toUInt32).toInt32) % (11 : Int32)))])) rfl (by rw [hml]; rfl) (argsL := [(.int (((vi0.toUInt32 >>> ((1 : Int32) &&& 31).toUInt32).toInt32) % (11 : Int32)))]) (rest := []) (lenOf pd_0 rfl) rfl (by show 2 * 0 + _ ≤ _; exact Nat.le_of_eq rfl) (hb hby at_8) (fun _ _ => ⟨rfl, e0, (by decide : 0 + 0 ≤ _), (by decide : 0 + 0 ≤ _)⟩)
  dsimp only [Pt.U, Pt.locs, Pt.cells, Pt.slots] at X1 l1 y1 z1 st1 hQ1
  subst l1 y1 z1
  obtain ⟨w1, rfl, N1q, p1_0, p1_1, p1_2, p1_3⟩ := hQ1
  have N1 := Fr.app N0 N1q
  have e1 : T1.heap = h0 := p1_0
  obtain ⟨T2, X2, e2, st2⟩ := getS2 X1 hx hZ hown (host := "") (Or.inl (wd_7 hw)) Via.refl e1 (S_JUNETEENTH.ext O0.2) (g := (mkF m 13 #[.val (.int vi0), .val (.int vi1), .val (.int (((vi0.toUInt32 >>> ((1 : Int32) &&& 31).toUInt32).toInt32) % (11 : Int32))), .val (.ref w1), .unset, .unset, .unset] [(.ref w1)])) rfl (hb hby at_13)
  obtain ⟨cq3, kq3, q3a, q3b, q3c⟩ := isOf hZ e2 (p1_1.ext O0.2)
  obtain ⟨_, _, ⟨T3, L3, k3, n3⟩, -, X3, ⟨Lc3, hQ3, l3, y3, z3⟩, st3⟩ := X2.virtualBack hx (y := (⟨"com/example/lintel/lintel/calendar/FederalHoliday", "keptIn", "(I)Z"⟩ : MethodName)) (z := (⟨"com/example/lintel/lintel/calendar/FederalHoliday", "keptIn", "(I)Z"⟩ : MethodName)) hown (mvT hZ (wd_9 hw)) (mvT hZ (wd_10 hw)) (notFace_of_selects (args := #[]) (mvT hZ (wd_12 hw))) (mvT hZ (wd_12 hw)) (mvT hZ (wd_11 hw)) (by decide) (backOf (W := 0) (rm2_f l Z a0 hw [] w1 vi1 (1986 : Int32) h0 n0 Z0 (p1_2.ext O0.2) hc55) hZ (wd_13 hw) (wd_5 hw) (by decide) (by decide)) q3a q3c (g := (mkF m 68 #[.val (.int vi0), .val (.int vi1), .val (.int (((vi0.toUInt32 >>> ((1 : Int32) &&& 31).toUInt32).toInt32) % (11 : Int32))), .val (.ref w1), .val (.int (1986 : Int32)), .val (.int vi1), .val (.int (1 : Int32))] [(.int vi1), (.ref w1)])) rfl (by rw [hml]; rfl) (Steps.refl _) (argsL := [(.int vi1)]) (rest := []) (lenOf pd_1 rfl) rfl (by show 2 * 0 + _ ≤ _; exact Nat.le_of_eq rfl) (hb hby at_68) (fun _ _ => ⟨rfl, e2, (by decide : 0 + 0 ≤ _), (by decide : 0 + 0 ≤ _)⟩)
  dsimp only [Pt.U, Pt.locs, Pt.cells, Pt.slots] at X3 l3 y3 z3 st3 hQ3
  subst l3 y3 z3
  obtain ⟨rfl, N3q, p3_0⟩ := hQ3
  have N3 := Fr.app N1 N3q
  have e3 : T3.heap = h0 := p3_0
  obtain ⟨fs, hr, hrun, hended, hW, hsame⟩ := X3.leave (v := some (.int (1 : Int32))) (fun h => by rw [Bd.returns] at h; cases h)
  refine ⟨_, _, pre0 _ ?_, hrun, hended, _, _, rfl, ?_, ⟨_, rfl⟩, hW, hsame.mono (by decide) (by decide)⟩
  · show Steps p.tables e below (s₁.setTop (mkF m 0 #[.val (.int vi0), .val (.int vi1), .unset, .unset, .unset, .unset, .unset] [])) _
    refine XS.iloadN X0.here hx rfl (hb hby at_0) rfl ?_
    show Steps p.tables e below (s₁.setTop (mkF m 1 #[.val (.int vi0), .val (.int vi1), .unset, .unset, .unset, .unset, .unset] [(.int vi0)])) _
    refine XS.iconst X0.here hx rfl (hb hby at_1) ?_
    show Steps p.tables e below (s₁.setTop (mkF m 2 #[.val (.int vi0), .val (.int vi1), .unset, .unset, .unset, .unset, .unset] [(.int (1 : Int32)), (.int vi0)])) _
    refine XS.iushr X0.here hx rfl (hb hby at_2) rfl ?_
    show Steps p.tables e below (s₁.setTop (mkF m 3 #[.val (.int vi0), .val (.int vi1), .unset, .unset, .unset, .unset, .unset] [(.int ((vi0.toUInt32 >>> ((1 : Int32) &&& 31).toUInt32).toInt32))])) _
    refine XS.bipush X0.here hx rfl (hb hby at_3) ?_
    show Steps p.tables e below (s₁.setTop (mkF m 5 #[.val (.int vi0), .val (.int vi1), .unset, .unset, .unset, .unset, .unset] [(.int (11 : Int32)), (.int ((vi0.toUInt32 >>> ((1 : Int32) &&& 31).toUInt32).toInt32))])) _
    refine iremM X0 hx rfl (hb hby at_5) rfl (by decide) ?_
    show Steps p.tables e below (s₁.setTop (mkF m 6 #[.val (.int vi0), .val (.int vi1), .unset, .unset, .unset, .unset, .unset] [(.int (((vi0.toUInt32 >>> ((1 : Int32) &&& 31).toUInt32).toInt32) % (11 : Int32)))])) _
    refine XS.istoreN X0.here hx rfl (hb hby at_6) rfl (l' := #[.val (.int vi0), .val (.int vi1), .val (.int (((vi0.toUInt32 >>> ((1 : Int32) &&& 31).toUInt32).toInt32) % (11 : Int32))), .unset, .unset, .unset, .unset]) rfl ?_
    show Steps p.tables e below (s₁.setTop (mkF m 7 #[.val (.int vi0), .val (.int vi1), .val (.int (((vi0.toUInt32 >>> ((1 : Int32) &&& 31).toUInt32).toInt32) % (11 : Int32))), .unset, .unset, .unset, .unset] [])) _
    refine XS.iloadN X0.here hx rfl (hb hby at_7) rfl ?_
    show Steps p.tables e below (s₁.setTop (mkF m 8 #[.val (.int vi0), .val (.int vi1), .val (.int (((vi0.toUInt32 >>> ((1 : Int32) &&& 31).toUInt32).toInt32) % (11 : Int32))), .unset, .unset, .unset, .unset] [(.int (((vi0.toUInt32 >>> ((1 : Int32) &&& 31).toUInt32).toInt32) % (11 : Int32)))])) _
    refine st1 _ ?_
    show Steps p.tables e below (T1.setTop (mkF m 11 #[.val (.int vi0), .val (.int vi1), .val (.int (((vi0.toUInt32 >>> ((1 : Int32) &&& 31).toUInt32).toInt32) % (11 : Int32))), .unset, .unset, .unset, .unset] [(.ref w1)])) _
    refine XS.astoreN X1.here hx rfl (hb hby at_11) rfl rfl (l' := #[.val (.int vi0), .val (.int vi1), .val (.int (((vi0.toUInt32 >>> ((1 : Int32) &&& 31).toUInt32).toInt32) % (11 : Int32))), .val (.ref w1), .unset, .unset, .unset]) rfl ?_
    show Steps p.tables e below (T1.setTop (mkF m 12 #[.val (.int vi0), .val (.int vi1), .val (.int (((vi0.toUInt32 >>> ((1 : Int32) &&& 31).toUInt32).toInt32) % (11 : Int32))), .val (.ref w1), .unset, .unset, .unset] [])) _
    refine XS.aloadN X1.here hx rfl (hb hby at_12) rfl rfl ?_
    show Steps p.tables e below (T1.setTop (mkF m 13 #[.val (.int vi0), .val (.int vi1), .val (.int (((vi0.toUInt32 >>> ((1 : Int32) &&& 31).toUInt32).toInt32) % (11 : Int32))), .val (.ref w1), .unset, .unset, .unset] [(.ref w1)])) _
    refine st2 _ ?_
    show Steps p.tables e below (T2.setTop (mkF m 16 #[.val (.int vi0), .val (.int vi1), .val (.int (((vi0.toUInt32 >>> ((1 : Int32) &&& 31).toUInt32).toInt32) % (11 : Int32))), .val (.ref w1), .unset, .unset, .unset] [(.ref w_JUNETEENTH), (.ref w1)])) _
    refine Jvm.RoadKit.acmp (g := (mkF m 16 #[.val (.int vi0), .val (.int vi1), .val (.int (((vi0.toUInt32 >>> ((1 : Int32) &&& 31).toUInt32).toInt32) % (11 : Int32))), .val (.ref w1), .unset, .unset, .unset] [(.ref w_JUNETEENTH), (.ref w1)])) X2 hx rfl rfl rfl (pc0 := 16) (pc' := 25) (same := false) rfl (hb hby at_16) rfl (decide_eq_false fun q => p1_3 (Value.ref.inj q)) (by decide) (by decide) ?_
    show Steps p.tables e below (T2.setTop (mkF m 25 #[.val (.int vi0), .val (.int vi1), .val (.int (((vi0.toUInt32 >>> ((1 : Int32) &&& 31).toUInt32).toInt32) % (11 : Int32))), .val (.ref w1), .unset, .unset, .unset] [])) _
    refine XS.sipush X2.here hx rfl (hb hby at_25) ?_
    show Steps p.tables e below (T2.setTop (mkF m 28 #[.val (.int vi0), .val (.int vi1), .val (.int (((vi0.toUInt32 >>> ((1 : Int32) &&& 31).toUInt32).toInt32) % (11 : Int32))), .val (.ref w1), .unset, .unset, .unset] [(.int (1986 : Int32))])) _
    refine XS.istore X2.here hx rfl (hb hby at_28) rfl (l' := #[.val (.int vi0), .val (.int vi1), .val (.int (((vi0.toUInt32 >>> ((1 : Int32) &&& 31).toUInt32).toInt32) % (11 : Int32))), .val (.ref w1), .val (.int (1986 : Int32)), .unset, .unset]) rfl ?_
    show Steps p.tables e below (T2.setTop (mkF m 30 #[.val (.int vi0), .val (.int vi1), .val (.int (((vi0.toUInt32 >>> ((1 : Int32) &&& 31).toUInt32).toInt32) % (11 : Int32))), .val (.ref w1), .val (.int (1986 : Int32)), .unset, .unset] [])) _
    refine XS.iloadN X2.here hx rfl (hb hby at_30) rfl ?_
    show Steps p.tables e below (T2.setTop (mkF m 31 #[.val (.int vi0), .val (.int vi1), .val (.int (((vi0.toUInt32 >>> ((1 : Int32) &&& 31).toUInt32).toInt32) % (11 : Int32))), .val (.ref w1), .val (.int (1986 : Int32)), .unset, .unset] [(.int vi0)])) _
    refine XS.iconst X2.here hx rfl (hb hby at_31) ?_
    show Steps p.tables e below (T2.setTop (mkF m 32 #[.val (.int vi0), .val (.int vi1), .val (.int (((vi0.toUInt32 >>> ((1 : Int32) &&& 31).toUInt32).toInt32) % (11 : Int32))), .val (.ref w1), .val (.int (1986 : Int32)), .unset, .unset] [(.int (1 : Int32)), (.int vi0)])) _
    refine XS.iand X2.here hx rfl (hb hby at_32) rfl ?_
    show Steps p.tables e below (T2.setTop (mkF m 33 #[.val (.int vi0), .val (.int vi1), .val (.int (((vi0.toUInt32 >>> ((1 : Int32) &&& 31).toUInt32).toInt32) % (11 : Int32))), .val (.ref w1), .val (.int (1986 : Int32)), .unset, .unset] [(.int (vi0 &&& (1 : Int32)))])) _
    refine XS.ifNo X2.here hx rfl (hb hby at_33) rfl ((if0 _ _).trans (teq hc33).2) ?_
    show Steps p.tables e below (T2.setTop (mkF m 36 #[.val (.int vi0), .val (.int vi1), .val (.int (((vi0.toUInt32 >>> ((1 : Int32) &&& 31).toUInt32).toInt32) % (11 : Int32))), .val (.ref w1), .val (.int (1986 : Int32)), .unset, .unset] [])) _
    refine XS.iloadN X2.here hx rfl (hb hby at_36) rfl ?_
    show Steps p.tables e below (T2.setTop (mkF m 37 #[.val (.int vi0), .val (.int vi1), .val (.int (((vi0.toUInt32 >>> ((1 : Int32) &&& 31).toUInt32).toInt32) % (11 : Int32))), .val (.ref w1), .val (.int (1986 : Int32)), .unset, .unset] [(.int vi1)])) _
    refine XS.goto X2.here hx rfl (pc0 := 37) (pc' := 49) rfl (hb hby at_37) (by decide) (by decide) ?_
    show Steps p.tables e below (T2.setTop (mkF m 49 #[.val (.int vi0), .val (.int vi1), .val (.int (((vi0.toUInt32 >>> ((1 : Int32) &&& 31).toUInt32).toInt32) % (11 : Int32))), .val (.ref w1), .val (.int (1986 : Int32)), .unset, .unset] [(.int vi1)])) _
    refine XS.istore X2.here hx rfl (hb hby at_49) rfl (l' := #[.val (.int vi0), .val (.int vi1), .val (.int (((vi0.toUInt32 >>> ((1 : Int32) &&& 31).toUInt32).toInt32) % (11 : Int32))), .val (.ref w1), .val (.int (1986 : Int32)), .val (.int vi1), .unset]) rfl ?_
    show Steps p.tables e below (T2.setTop (mkF m 51 #[.val (.int vi0), .val (.int vi1), .val (.int (((vi0.toUInt32 >>> ((1 : Int32) &&& 31).toUInt32).toInt32) % (11 : Int32))), .val (.ref w1), .val (.int (1986 : Int32)), .val (.int vi1), .unset] [])) _
    refine XS.iload X2.here hx rfl (hb hby at_51) rfl ?_
    show Steps p.tables e below (T2.setTop (mkF m 53 #[.val (.int vi0), .val (.int vi1), .val (.int (((vi0.toUInt32 >>> ((1 : Int32) &&& 31).toUInt32).toInt32) % (11 : Int32))), .val (.ref w1), .val (.int (1986 : Int32)), .val (.int vi1), .unset] [(.int vi1)])) _
    refine XS.iload X2.here hx rfl (hb hby at_53) rfl ?_
    show Steps p.tables e below (T2.setTop (mkF m 55 #[.val (.int vi0), .val (.int vi1), .val (.int (((vi0.toUInt32 >>> ((1 : Int32) &&& 31).toUInt32).toInt32) % (11 : Int32))), .val (.ref w1), .val (.int (1986 : Int32)), .val (.int vi1), .unset] [(.int (1986 : Int32)), (.int vi1)])) _
    refine XS.icmpNo X2.here hx rfl (hb hby at_55) rfl (flt hc55).1 ?_
    show Steps p.tables e below (T2.setTop (mkF m 58 #[.val (.int vi0), .val (.int vi1), .val (.int (((vi0.toUInt32 >>> ((1 : Int32) &&& 31).toUInt32).toInt32) % (11 : Int32))), .val (.ref w1), .val (.int (1986 : Int32)), .val (.int vi1), .unset] [])) _
    refine XS.iconst X2.here hx rfl (hb hby at_58) ?_
    show Steps p.tables e below (T2.setTop (mkF m 59 #[.val (.int vi0), .val (.int vi1), .val (.int (((vi0.toUInt32 >>> ((1 : Int32) &&& 31).toUInt32).toInt32) % (11 : Int32))), .val (.ref w1), .val (.int (1986 : Int32)), .val (.int vi1), .unset] [(.int (1 : Int32))])) _
    refine XS.goto X2.here hx rfl (pc0 := 59) (pc' := 63) rfl (hb hby at_59) (by decide) (by decide) ?_
    show Steps p.tables e below (T2.setTop (mkF m 63 #[.val (.int vi0), .val (.int vi1), .val (.int (((vi0.toUInt32 >>> ((1 : Int32) &&& 31).toUInt32).toInt32) % (11 : Int32))), .val (.ref w1), .val (.int (1986 : Int32)), .val (.int vi1), .unset] [(.int (1 : Int32))])) _
    refine XS.istore X2.here hx rfl (hb hby at_63) rfl (l' := #[.val (.int vi0), .val (.int vi1), .val (.int (((vi0.toUInt32 >>> ((1 : Int32) &&& 31).toUInt32).toInt32) % (11 : Int32))), .val (.ref w1), .val (.int (1986 : Int32)), .val (.int vi1), .val (.int (1 : Int32))]) rfl ?_
    show Steps p.tables e below (T2.setTop (mkF m 65 #[.val (.int vi0), .val (.int vi1), .val (.int (((vi0.toUInt32 >>> ((1 : Int32) &&& 31).toUInt32).toInt32) % (11 : Int32))), .val (.ref w1), .val (.int (1986 : Int32)), .val (.int vi1), .val (.int (1 : Int32))] [])) _
    refine XS.aloadN X2.here hx rfl (hb hby at_65) rfl rfl ?_
    show Steps p.tables e below (T2.setTop (mkF m 66 #[.val (.int vi0), .val (.int vi1), .val (.int (((vi0.toUInt32 >>> ((1 : Int32) &&& 31).toUInt32).toInt32) % (11 : Int32))), .val (.ref w1), .val (.int (1986 : Int32)), .val (.int vi1), .val (.int (1 : Int32))] [(.ref w1)])) _
    refine XS.iload X2.here hx rfl (hb hby at_66) rfl ?_
    show Steps p.tables e below (T2.setTop (mkF m 68 #[.val (.int vi0), .val (.int vi1), .val (.int (((vi0.toUInt32 >>> ((1 : Int32) &&& 31).toUInt32).toInt32) % (11 : Int32))), .val (.ref w1), .val (.int (1986 : Int32)), .val (.int vi1), .val (.int (1 : Int32))] [(.int vi1), (.ref w1)])) _
    refine st3.trans ?_
    show Steps p.tables e below (T3.setTop (mkF m 71 #[.val (.int vi0), .val (.int vi1), .val (.int (((vi0.toUInt32 >>> ((1 : Int32) &&& 31).toUInt32).toInt32) % (11 : Int32))), .val (.ref w1), .val (.int (1986 : Int32)), .val (.int vi1), .val (.int (1 : Int32))] [(.int (1 : Int32))])) _
    refine XS.iload X3.here hx rfl (hb hby at_71) rfl ?_
    show Steps p.tables e below (T3.setTop (mkF m 73 #[.val (.int vi0), .val (.int vi1), .val (.int (((vi0.toUInt32 >>> ((1 : Int32) &&& 31).toUInt32).toInt32) % (11 : Int32))), .val (.ref w1), .val (.int (1986 : Int32)), .val (.int vi1), .val (.int (1 : Int32))] [(.int (1 : Int32)), (.int (1 : Int32))])) _
    refine XS.icmpNo X3.here hx rfl (hb hby at_73) rfl (teq (rfl : (1 : Int32) = (1 : Int32))).2 ?_
    show Steps p.tables e below (T3.setTop (mkF m 76 #[.val (.int vi0), .val (.int vi1), .val (.int (((vi0.toUInt32 >>> ((1 : Int32) &&& 31).toUInt32).toInt32) % (11 : Int32))), .val (.ref w1), .val (.int (1986 : Int32)), .val (.int vi1), .val (.int (1 : Int32))] [])) _
    refine XS.iconst X3.here hx rfl (hb hby at_76) ?_
    show Steps p.tables e below (T3.setTop (mkF m 77 #[.val (.int vi0), .val (.int vi1), .val (.int (((vi0.toUInt32 >>> ((1 : Int32) &&& 31).toUInt32).toInt32) % (11 : Int32))), .val (.ref w1), .val (.int (1986 : Int32)), .val (.int vi1), .val (.int (1 : Int32))] [(.int (1 : Int32))])) _
    refine XS.goto X3.here hx rfl (pc0 := 77) (pc' := 81) rfl (hb hby at_77) (by decide) (by decide) ?_
    show Steps p.tables e below (T3.setTop (mkF m 81 #[.val (.int vi0), .val (.int vi1), .val (.int (((vi0.toUInt32 >>> ((1 : Int32) &&& 31).toUInt32).toInt32) % (11 : Int32))), .val (.ref w1), .val (.int (1986 : Int32)), .val (.int vi1), .val (.int (1 : Int32))] [(.int (1 : Int32))])) _
    exact retN X3 hx (t := .boolean) Bd.returns (by simp) (hb hby at_81) hr
  · show Q0_Off Z vi0 vi1 w_NEW_YEARS_DAY w_BIRTHDAY_OF_MARTIN_LUTHER_KING_JR w_WASHINGTONS_BIRTHDAY w_MEMORIAL_DAY w_INDEPENDENCE_DAY w_LABOR_DAY w_COLUMBUS_DAY w_VETERANS_DAY w_THANKSGIVING_DAY w_CHRISTMAS_DAY w_JUNETEENTH h0 n0 _ T3.heap _
    rw [e3]
    exact ⟨rfl, N3⟩
theorem ef_0_Oft (m : MethodId) (x0 : Int32) (x1 : Int32) : entryFrame m #[(.int x0), (.int x1)] maxLocals = mkF m 0 #[.val (.int x0), .val (.int x1), .unset, .unset, .unset, .unset, .unset] [] := by first | (simp [entryFrame, mkF, argsToLocals, Value.category, maxLocals]; done) | rfl
def Q0_Oft (Z : State) (vi0 : Int32) (vi1 : Int32) (w_NEW_YEARS_DAY : Addr) (w_BIRTHDAY_OF_MARTIN_LUTHER_KING_JR : Addr) (w_WASHINGTONS_BIRTHDAY : Addr) (w_MEMORIAL_DAY : Addr) (w_INDEPENDENCE_DAY : Addr) (w_LABOR_DAY : Addr) (w_COLUMBUS_DAY : Addr) (w_VETERANS_DAY : Addr) (w_THANKSGIVING_DAY : Addr) (w_CHRISTMAS_DAY : Addr) (w_JUNETEENTH : Addr) (h0 : Heap) (n0 : Nat) (v : Option Value) (h : Heap) (L : List Loc) : Prop := v = some (.int (1 : Int32)) ∧ Fr n0 L
set_option maxRecDepth 65536 in
set_option maxHeartbeats 40000000 in
theorem rm0_Oft (l : Launch) (Z : State) (a0 : Array Value) (hw : ∀ d ∈ tables_1, d.before a0 Z = true) (ws : List Jvm.Cond) (vi0 : Int32) (vi1 : Int32) (w_NEW_YEARS_DAY : Addr) (w_BIRTHDAY_OF_MARTIN_LUTHER_KING_JR : Addr) (w_WASHINGTONS_BIRTHDAY : Addr) (w_MEMORIAL_DAY : Addr) (w_INDEPENDENCE_DAY : Addr) (w_LABOR_DAY : Addr) (w_COLUMBUS_DAY : Addr) (w_VETERANS_DAY : Addr) (w_THANKSGIVING_DAY : Addr) (w_CHRISTMAS_DAY : Addr) (w_JUNETEENTH : Addr) (h0 : Heap) (n0 : Nat) (Z0 : n0 ≤ h0.size) (c8_hO : ¬ ((((vi0.toUInt32 >>> ((1 : Int32) &&& 31).toUInt32).toInt32) % (11 : Int32)) = (4 : Int32))) (E_w_NEW_YEARS_DAY : Exa Z Z.heap w_NEW_YEARS_DAY "com/example/lintel/lintel/calendar/FederalHoliday") (F_firstYear_w_NEW_YEARS_DAY : Fld Z Z.heap w_NEW_YEARS_DAY "com/example/lintel/lintel/calendar/FederalHoliday" "firstYear" "I" (.int (1986 : Int32))) (nJ_w_NEW_YEARS_DAY : ¬ (w_NEW_YEARS_DAY = w_JUNETEENTH)) (S_NEW_YEARS_DAY : Sta Z Z.heap "com/example/lintel/lintel/calendar/FederalHoliday" "NEW_YEARS_DAY" "Lcom/example/lintel/lintel/calendar/FederalHoliday;" (.ref w_NEW_YEARS_DAY)) (O0 : Old Z n0 h0) (E_w_BIRTHDAY_OF_MARTIN_LUTHER_KING_JR : Exa Z Z.heap w_BIRTHDAY_OF_MARTIN_LUTHER_KING_JR "com/example/lintel/lintel/calendar/FederalHoliday") (F_firstYear_w_BIRTHDAY_OF_MARTIN_LUTHER_KING_JR : Fld Z Z.heap w_BIRTHDAY_OF_MARTIN_LUTHER_KING_JR "com/example/lintel/lintel/calendar/FederalHoliday" "firstYear" "I" (.int (1986 : Int32))) (nJ_w_BIRTHDAY_OF_MARTIN_LUTHER_KING_JR : ¬ (w_BIRTHDAY_OF_MARTIN_LUTHER_KING_JR = w_JUNETEENTH)) (S_BIRTHDAY_OF_MARTIN_LUTHER_KING_JR : Sta Z Z.heap "com/example/lintel/lintel/calendar/FederalHoliday" "BIRTHDAY_OF_MARTIN_LUTHER_KING_JR" "Lcom/example/lintel/lintel/calendar/FederalHoliday;" (.ref w_BIRTHDAY_OF_MARTIN_LUTHER_KING_JR)) (E_w_WASHINGTONS_BIRTHDAY : Exa Z Z.heap w_WASHINGTONS_BIRTHDAY "com/example/lintel/lintel/calendar/FederalHoliday") (F_firstYear_w_WASHINGTONS_BIRTHDAY : Fld Z Z.heap w_WASHINGTONS_BIRTHDAY "com/example/lintel/lintel/calendar/FederalHoliday" "firstYear" "I" (.int (1986 : Int32))) (nJ_w_WASHINGTONS_BIRTHDAY : ¬ (w_WASHINGTONS_BIRTHDAY = w_JUNETEENTH)) (S_WASHINGTONS_BIRTHDAY : Sta Z Z.heap "com/example/lintel/lintel/calendar/FederalHoliday" "WASHINGTONS_BIRTHDAY" "Lcom/example/lintel/lintel/calendar/FederalHoliday;" (.ref w_WASHINGTONS_BIRTHDAY)) (E_w_MEMORIAL_DAY : Exa Z Z.heap w_MEMORIAL_DAY "com/example/lintel/lintel/calendar/FederalHoliday") (F_firstYear_w_MEMORIAL_DAY : Fld Z Z.heap w_MEMORIAL_DAY "com/example/lintel/lintel/calendar/FederalHoliday" "firstYear" "I" (.int (1986 : Int32))) (nJ_w_MEMORIAL_DAY : ¬ (w_MEMORIAL_DAY = w_JUNETEENTH)) (S_MEMORIAL_DAY : Sta Z Z.heap "com/example/lintel/lintel/calendar/FederalHoliday" "MEMORIAL_DAY" "Lcom/example/lintel/lintel/calendar/FederalHoliday;" (.ref w_MEMORIAL_DAY)) (E_w_INDEPENDENCE_DAY : Exa Z Z.heap w_INDEPENDENCE_DAY "com/example/lintel/lintel/calendar/FederalHoliday") (F_firstYear_w_INDEPENDENCE_DAY : Fld Z Z.heap w_INDEPENDENCE_DAY "com/example/lintel/lintel/calendar/FederalHoliday" "firstYear" "I" (.int (1986 : Int32))) (nJ_w_INDEPENDENCE_DAY : ¬ (w_INDEPENDENCE_DAY = w_JUNETEENTH)) (S_INDEPENDENCE_DAY : Sta Z Z.heap "com/example/lintel/lintel/calendar/FederalHoliday" "INDEPENDENCE_DAY" "Lcom/example/lintel/lintel/calendar/FederalHoliday;" (.ref w_INDEPENDENCE_DAY)) (E_w_LABOR_DAY : Exa Z Z.heap w_LABOR_DAY "com/example/lintel/lintel/calendar/FederalHoliday") (F_firstYear_w_LABOR_DAY : Fld Z Z.heap w_LABOR_DAY "com/example/lintel/lintel/calendar/FederalHoliday" "firstYear" "I" (.int (1986 : Int32))) (nJ_w_LABOR_DAY : ¬ (w_LABOR_DAY = w_JUNETEENTH)) (S_LABOR_DAY : Sta Z Z.heap "com/example/lintel/lintel/calendar/FederalHoliday" "LABOR_DAY" "Lcom/example/lintel/lintel/calendar/FederalHoliday;" (.ref w_LABOR_DAY)) (E_w_COLUMBUS_DAY : Exa Z Z.heap w_COLUMBUS_DAY "com/example/lintel/lintel/calendar/FederalHoliday") (F_firstYear_w_COLUMBUS_DAY : Fld Z Z.heap w_COLUMBUS_DAY "com/example/lintel/lintel/calendar/FederalHoliday" "firstYear" "I" (.int (1986 : Int32))) (nJ_w_COLUMBUS_DAY : ¬ (w_COLUMBUS_DAY = w_JUNETEENTH)) (S_COLUMBUS_DAY : Sta Z Z.heap "com/example/lintel/lintel/calendar/FederalHoliday" "COLUMBUS_DAY" "Lcom/example/lintel/lintel/calendar/FederalHoliday;" (.ref w_COLUMBUS_DAY)) (E_w_VETERANS_DAY : Exa Z Z.heap w_VETERANS_DAY "com/example/lintel/lintel/calendar/FederalHoliday") (F_firstYear_w_VETERANS_DAY : Fld Z Z.heap w_VETERANS_DAY "com/example/lintel/lintel/calendar/FederalHoliday" "firstYear" "I" (.int (1986 : Int32))) (nJ_w_VETERANS_DAY : ¬ (w_VETERANS_DAY = w_JUNETEENTH)) (S_VETERANS_DAY : Sta Z Z.heap "com/example/lintel/lintel/calendar/FederalHoliday" "VETERANS_DAY" "Lcom/example/lintel/lintel/calendar/FederalHoliday;" (.ref w_VETERANS_DAY)) (E_w_THANKSGIVING_DAY : Exa Z Z.heap w_THANKSGIVING_DAY "com/example/lintel/lintel/calendar/FederalHoliday") (F_firstYear_w_THANKSGIVING_DAY : Fld Z Z.heap w_THANKSGIVING_DAY "com/example/lintel/lintel/calendar/FederalHoliday" "firstYear" "I" (.int (1986 : Int32))) (nJ_w_THANKSGIVING_DAY : ¬ (w_THANKSGIVING_DAY = w_JUNETEENTH)) (S_THANKSGIVING_DAY : Sta Z Z.heap "com/example/lintel/lintel/calendar/FederalHoliday" "THANKSGIVING_DAY" "Lcom/example/lintel/lintel/calendar/FederalHoliday;" (.ref w_THANKSGIVING_DAY)) (E_w_CHRISTMAS_DAY : Exa Z Z.heap w_CHRISTMAS_DAY "com/example/lintel/lintel/calendar/FederalHoliday") (F_firstYear_w_CHRISTMAS_DAY : Fld Z Z.heap w_CHRISTMAS_DAY "com/example/lintel/lintel/calendar/FederalHoliday" "firstYear" "I" (.int (1986 : Int32))) (nJ_w_CHRISTMAS_DAY : ¬ (w_CHRISTMAS_DAY = w_JUNETEENTH)) (S_CHRISTMAS_DAY : Sta Z Z.heap "com/example/lintel/lintel/calendar/FederalHoliday" "CHRISTMAS_DAY" "Lcom/example/lintel/lintel/calendar/FederalHoliday;" (.ref w_CHRISTMAS_DAY)) (S_JUNETEENTH : Sta Z Z.heap "com/example/lintel/lintel/calendar/FederalHoliday" "JUNETEENTH" "Lcom/example/lintel/lintel/calendar/FederalHoliday;" (.ref w_JUNETEENTH)) (hc33 : (vi0 &&& (1 : Int32)) = (0 : Int32)) (hc55 : vi1 < (1986 : Int32)) :
    MetFree l x (head1 (Jvm.Cond.code x code maxLocals ret :: ws) room_1) (fun a U => a = #[(.int vi0), (.int vi1)] ∧ Z.Warmed39 U.vm ∧ U.heap = h0) (fun _ _ _ _ _ => True) (fun _ U o U' => ∃ v L, o = .returned v ∧ Q0_Oft Z vi0 vi1 w_NEW_YEARS_DAY w_BIRTHDAY_OF_MARTIN_LUTHER_KING_JR w_WASHINGTONS_BIRTHDAY w_MEMORIAL_DAY w_INDEPENDENCE_DAY w_LABOR_DAY w_COLUMBUS_DAY w_VETERANS_DAY w_THANKSGIVING_DAY w_CHRISTMAS_DAY w_JUNETEENTH h0 n0 v U'.heap L ∧ FrameEnd U o U' L room_1.cells room_1.slots) := by
  refine MetFree.of_bodySF (plainFor_of_name pn_com_example_lintel_lintel_calendar_FederalHolidayKeptInPinLaw) hisR ?_
  intro p e s m args below meth c s₁ Bd hml0 hP hK
  obtain ⟨rfl, hZ, hh⟩ := hP
  have hx := Bd.exec
  have hby := Bd.bytes
  have hml : c.maxLocals = 7 := hml0
  have hown : s.vm.findClass "com/example/lintel/lintel/calendar/FederalHolidayKeptInPinLaw" = some m.cls := findClass_of_methodNamed Bd.named
  have hnm := (name_of_methodNamed Bd.named Bd.method).1
  have X0 : Stand p l e room_1 s m #[(.int vi0), (.int vi1)] below meth c s₁ [] 0 0 := Stand.of_body Bd
  have e0 : s₁.heap = h0 := by rw [← hh, Bd.state]; rfl
  have N0 := Fr.nil n0
  have pre0 : ∀ t, Steps p.tables e below (s₁.setTop (mkF m 0 #[.val (.int vi0), .val (.int vi1), .unset, .unset, .unset, .unset, .unset] [])) t → Steps p.tables e below (s₁.setTop (entryFrame m #[(.int vi0), (.int vi1)] maxLocals)) t := fun t k => castTop (ef_0_Oft m vi0 vi1) k
  obtain ⟨_, _, ⟨T1, L1, k1, n1⟩, -, X1, ⟨Lc1, hQ1, l1, y1, z1⟩, st1⟩ := Jvm.LawKit.callS X0 hx (y := (⟨"com/example/lintel/lintel/calendar/FederalHolidayKeptInPinLaw", "pick", "(I)Lcom/example/lintel/lintel/calendar/FederalHoliday;"⟩ : MethodName)) hown (mvT hZ (wd_0 hw)) (mvT hZ (wd_1 hw)) (mvT hZ (wd_2 hw)) (mvT hZ (wd_3 hw)) (by decide) (backOf (W := 0) (rmP_O l Z a0 hw [] (((vi0.toUInt32 >>> ((1 : Int32) &&& 31).toUInt32).toInt32) % (11 : Int32)) w_JUNETEENTH w_NEW_YEARS_DAY w_BIRTHDAY_OF_MARTIN_LUTHER_KING_JR w_WASHINGTONS_BIRTHDAY w_MEMORIAL_DAY w_INDEPENDENCE_DAY w_LABOR_DAY w_COLUMBUS_DAY w_VETERANS_DAY w_THANKSGIVING_DAY w_CHRISTMAS_DAY h0 n0 Z0 c8_hO E_w_NEW_YEARS_DAY F_firstYear_w_NEW_YEARS_DAY nJ_w_NEW_YEARS_DAY S_NEW_YEARS_DAY O0 E_w_BIRTHDAY_OF_MARTIN_LUTHER_KING_JR F_firstYear_w_BIRTHDAY_OF_MARTIN_LUTHER_KING_JR nJ_w_BIRTHDAY_OF_MARTIN_LUTHER_KING_JR S_BIRTHDAY_OF_MARTIN_LUTHER_KING_JR E_w_WASHINGTONS_BIRTHDAY F_firstYear_w_WASHINGTONS_BIRTHDAY nJ_w_WASHINGTONS_BIRTHDAY S_WASHINGTONS_BIRTHDAY E_w_MEMORIAL_DAY F_firstYear_w_MEMORIAL_DAY nJ_w_MEMORIAL_DAY S_MEMORIAL_DAY E_w_INDEPENDENCE_DAY F_firstYear_w_INDEPENDENCE_DAY nJ_w_INDEPENDENCE_DAY S_INDEPENDENCE_DAY E_w_LABOR_DAY F_firstYear_w_LABOR_DAY nJ_w_LABOR_DAY S_LABOR_DAY E_w_COLUMBUS_DAY F_firstYear_w_COLUMBUS_DAY nJ_w_COLUMBUS_DAY S_COLUMBUS_DAY E_w_VETERANS_DAY F_firstYear_w_VETERANS_DAY nJ_w_VETERANS_DAY S_VETERANS_DAY E_w_THANKSGIVING_DAY F_firstYear_w_THANKSGIVING_DAY nJ_w_THANKSGIVING_DAY S_THANKSGIVING_DAY E_w_CHRISTMAS_DAY F_firstYear_w_CHRISTMAS_DAY nJ_w_CHRISTMAS_DAY S_CHRISTMAS_DAY) hZ (wd_3 hw) (wd_2 hw) (by decide) (by decide)) (g := (mkF m 8 #[.val (.int vi0), .val (.int vi1), .val (.int (((vi0.toUInt32 >>> ((1 : Int32) &&& 31).toUInt32).toInt32) % (11 : Int32))), .unset, .unset, .unset, .unset] [(.int (((vi0.toUInt32 >>> ((1 : Int32) &&& 31).toUInt32).toInt32) % (11 : Int32)))])) rfl (by rw [hml]; rfl) (argsL := [(.int (((vi0.toUInt32 >>> ((1 : Int32) &&& 31).toUInt32).toInt32) % (11 : Int32)))]) (rest := []) (lenOf pd_0 rfl) rfl (by show 2 * 0 + _ ≤ _; exact Nat.le_of_eq rfl) (hb hby at_8) (fun _ _ => ⟨rfl, e0, (by decide : 0 + 0 ≤ _), (by decide : 0 + 0 ≤ _)⟩)
  dsimp only [Pt.U, Pt.locs, Pt.cells, Pt.slots] at X1 l1 y1 z1 st1 hQ1
  subst l1 y1 z1
  obtain ⟨w1, rfl, N1q, p1_0, p1_1, p1_2, p1_3⟩ := hQ1
  have N1 := Fr.app N0 N1q
  have e1 : T1.heap = h0 := p1_0
  obtain ⟨T2, X2, e2, st2⟩ := getS2 X1 hx hZ hown (host := "") (Or.inl (wd_7 hw)) Via.refl e1 (S_JUNETEENTH.ext O0.2) (g := (mkF m 13 #[.val (.int vi0), .val (.int vi1), .val (.int (((vi0.toUInt32 >>> ((1 : Int32) &&& 31).toUInt32).toInt32) % (11 : Int32))), .val (.ref w1), .unset, .unset, .unset] [(.ref w1)])) rfl (hb hby at_13)
  obtain ⟨cq3, kq3, q3a, q3b, q3c⟩ := isOf hZ e2 (p1_1.ext O0.2)
  obtain ⟨_, _, ⟨T3, L3, k3, n3⟩, -, X3, ⟨Lc3, hQ3, l3, y3, z3⟩, st3⟩ := X2.virtualBack hx (y := (⟨"com/example/lintel/lintel/calendar/FederalHoliday", "keptIn", "(I)Z"⟩ : MethodName)) (z := (⟨"com/example/lintel/lintel/calendar/FederalHoliday", "keptIn", "(I)Z"⟩ : MethodName)) hown (mvT hZ (wd_9 hw)) (mvT hZ (wd_10 hw)) (notFace_of_selects (args := #[]) (mvT hZ (wd_12 hw))) (mvT hZ (wd_12 hw)) (mvT hZ (wd_11 hw)) (by decide) (backOf (W := 0) (rm2_t l Z a0 hw [] w1 vi1 (1986 : Int32) h0 n0 Z0 (p1_2.ext O0.2) hc55) hZ (wd_13 hw) (wd_5 hw) (by decide) (by decide)) q3a q3c (g := (mkF m 68 #[.val (.int vi0), .val (.int vi1), .val (.int (((vi0.toUInt32 >>> ((1 : Int32) &&& 31).toUInt32).toInt32) % (11 : Int32))), .val (.ref w1), .val (.int (1986 : Int32)), .val (.int vi1), .val (.int (0 : Int32))] [(.int vi1), (.ref w1)])) rfl (by rw [hml]; rfl) (Steps.refl _) (argsL := [(.int vi1)]) (rest := []) (lenOf pd_1 rfl) rfl (by show 2 * 0 + _ ≤ _; exact Nat.le_of_eq rfl) (hb hby at_68) (fun _ _ => ⟨rfl, e2, (by decide : 0 + 0 ≤ _), (by decide : 0 + 0 ≤ _)⟩)
  dsimp only [Pt.U, Pt.locs, Pt.cells, Pt.slots] at X3 l3 y3 z3 st3 hQ3
  subst l3 y3 z3
  obtain ⟨rfl, N3q, p3_0⟩ := hQ3
  have N3 := Fr.app N1 N3q
  have e3 : T3.heap = h0 := p3_0
  obtain ⟨fs, hr, hrun, hended, hW, hsame⟩ := X3.leave (v := some (.int (1 : Int32))) (fun h => by rw [Bd.returns] at h; cases h)
  refine ⟨_, _, pre0 _ ?_, hrun, hended, _, _, rfl, ?_, ⟨_, rfl⟩, hW, hsame.mono (by decide) (by decide)⟩
  · show Steps p.tables e below (s₁.setTop (mkF m 0 #[.val (.int vi0), .val (.int vi1), .unset, .unset, .unset, .unset, .unset] [])) _
    refine XS.iloadN X0.here hx rfl (hb hby at_0) rfl ?_
    show Steps p.tables e below (s₁.setTop (mkF m 1 #[.val (.int vi0), .val (.int vi1), .unset, .unset, .unset, .unset, .unset] [(.int vi0)])) _
    refine XS.iconst X0.here hx rfl (hb hby at_1) ?_
    show Steps p.tables e below (s₁.setTop (mkF m 2 #[.val (.int vi0), .val (.int vi1), .unset, .unset, .unset, .unset, .unset] [(.int (1 : Int32)), (.int vi0)])) _
    refine XS.iushr X0.here hx rfl (hb hby at_2) rfl ?_
    show Steps p.tables e below (s₁.setTop (mkF m 3 #[.val (.int vi0), .val (.int vi1), .unset, .unset, .unset, .unset, .unset] [(.int ((vi0.toUInt32 >>> ((1 : Int32) &&& 31).toUInt32).toInt32))])) _
    refine XS.bipush X0.here hx rfl (hb hby at_3) ?_
    show Steps p.tables e below (s₁.setTop (mkF m 5 #[.val (.int vi0), .val (.int vi1), .unset, .unset, .unset, .unset, .unset] [(.int (11 : Int32)), (.int ((vi0.toUInt32 >>> ((1 : Int32) &&& 31).toUInt32).toInt32))])) _
    refine iremM X0 hx rfl (hb hby at_5) rfl (by decide) ?_
    show Steps p.tables e below (s₁.setTop (mkF m 6 #[.val (.int vi0), .val (.int vi1), .unset, .unset, .unset, .unset, .unset] [(.int (((vi0.toUInt32 >>> ((1 : Int32) &&& 31).toUInt32).toInt32) % (11 : Int32)))])) _
    refine XS.istoreN X0.here hx rfl (hb hby at_6) rfl (l' := #[.val (.int vi0), .val (.int vi1), .val (.int (((vi0.toUInt32 >>> ((1 : Int32) &&& 31).toUInt32).toInt32) % (11 : Int32))), .unset, .unset, .unset, .unset]) rfl ?_
    show Steps p.tables e below (s₁.setTop (mkF m 7 #[.val (.int vi0), .val (.int vi1), .val (.int (((vi0.toUInt32 >>> ((1 : Int32) &&& 31).toUInt32).toInt32) % (11 : Int32))), .unset, .unset, .unset, .unset] [])) _
    refine XS.iloadN X0.here hx rfl (hb hby at_7) rfl ?_
    show Steps p.tables e below (s₁.setTop (mkF m 8 #[.val (.int vi0), .val (.int vi1), .val (.int (((vi0.toUInt32 >>> ((1 : Int32) &&& 31).toUInt32).toInt32) % (11 : Int32))), .unset, .unset, .unset, .unset] [(.int (((vi0.toUInt32 >>> ((1 : Int32) &&& 31).toUInt32).toInt32) % (11 : Int32)))])) _
    refine st1 _ ?_
    show Steps p.tables e below (T1.setTop (mkF m 11 #[.val (.int vi0), .val (.int vi1), .val (.int (((vi0.toUInt32 >>> ((1 : Int32) &&& 31).toUInt32).toInt32) % (11 : Int32))), .unset, .unset, .unset, .unset] [(.ref w1)])) _
    refine XS.astoreN X1.here hx rfl (hb hby at_11) rfl rfl (l' := #[.val (.int vi0), .val (.int vi1), .val (.int (((vi0.toUInt32 >>> ((1 : Int32) &&& 31).toUInt32).toInt32) % (11 : Int32))), .val (.ref w1), .unset, .unset, .unset]) rfl ?_
    show Steps p.tables e below (T1.setTop (mkF m 12 #[.val (.int vi0), .val (.int vi1), .val (.int (((vi0.toUInt32 >>> ((1 : Int32) &&& 31).toUInt32).toInt32) % (11 : Int32))), .val (.ref w1), .unset, .unset, .unset] [])) _
    refine XS.aloadN X1.here hx rfl (hb hby at_12) rfl rfl ?_
    show Steps p.tables e below (T1.setTop (mkF m 13 #[.val (.int vi0), .val (.int vi1), .val (.int (((vi0.toUInt32 >>> ((1 : Int32) &&& 31).toUInt32).toInt32) % (11 : Int32))), .val (.ref w1), .unset, .unset, .unset] [(.ref w1)])) _
    refine st2 _ ?_
    show Steps p.tables e below (T2.setTop (mkF m 16 #[.val (.int vi0), .val (.int vi1), .val (.int (((vi0.toUInt32 >>> ((1 : Int32) &&& 31).toUInt32).toInt32) % (11 : Int32))), .val (.ref w1), .unset, .unset, .unset] [(.ref w_JUNETEENTH), (.ref w1)])) _
    refine Jvm.RoadKit.acmp (g := (mkF m 16 #[.val (.int vi0), .val (.int vi1), .val (.int (((vi0.toUInt32 >>> ((1 : Int32) &&& 31).toUInt32).toInt32) % (11 : Int32))), .val (.ref w1), .unset, .unset, .unset] [(.ref w_JUNETEENTH), (.ref w1)])) X2 hx rfl rfl rfl (pc0 := 16) (pc' := 25) (same := false) rfl (hb hby at_16) rfl (decide_eq_false fun q => p1_3 (Value.ref.inj q)) (by decide) (by decide) ?_
    show Steps p.tables e below (T2.setTop (mkF m 25 #[.val (.int vi0), .val (.int vi1), .val (.int (((vi0.toUInt32 >>> ((1 : Int32) &&& 31).toUInt32).toInt32) % (11 : Int32))), .val (.ref w1), .unset, .unset, .unset] [])) _
    refine XS.sipush X2.here hx rfl (hb hby at_25) ?_
    show Steps p.tables e below (T2.setTop (mkF m 28 #[.val (.int vi0), .val (.int vi1), .val (.int (((vi0.toUInt32 >>> ((1 : Int32) &&& 31).toUInt32).toInt32) % (11 : Int32))), .val (.ref w1), .unset, .unset, .unset] [(.int (1986 : Int32))])) _
    refine XS.istore X2.here hx rfl (hb hby at_28) rfl (l' := #[.val (.int vi0), .val (.int vi1), .val (.int (((vi0.toUInt32 >>> ((1 : Int32) &&& 31).toUInt32).toInt32) % (11 : Int32))), .val (.ref w1), .val (.int (1986 : Int32)), .unset, .unset]) rfl ?_
    show Steps p.tables e below (T2.setTop (mkF m 30 #[.val (.int vi0), .val (.int vi1), .val (.int (((vi0.toUInt32 >>> ((1 : Int32) &&& 31).toUInt32).toInt32) % (11 : Int32))), .val (.ref w1), .val (.int (1986 : Int32)), .unset, .unset] [])) _
    refine XS.iloadN X2.here hx rfl (hb hby at_30) rfl ?_
    show Steps p.tables e below (T2.setTop (mkF m 31 #[.val (.int vi0), .val (.int vi1), .val (.int (((vi0.toUInt32 >>> ((1 : Int32) &&& 31).toUInt32).toInt32) % (11 : Int32))), .val (.ref w1), .val (.int (1986 : Int32)), .unset, .unset] [(.int vi0)])) _
    refine XS.iconst X2.here hx rfl (hb hby at_31) ?_
    show Steps p.tables e below (T2.setTop (mkF m 32 #[.val (.int vi0), .val (.int vi1), .val (.int (((vi0.toUInt32 >>> ((1 : Int32) &&& 31).toUInt32).toInt32) % (11 : Int32))), .val (.ref w1), .val (.int (1986 : Int32)), .unset, .unset] [(.int (1 : Int32)), (.int vi0)])) _
    refine XS.iand X2.here hx rfl (hb hby at_32) rfl ?_
    show Steps p.tables e below (T2.setTop (mkF m 33 #[.val (.int vi0), .val (.int vi1), .val (.int (((vi0.toUInt32 >>> ((1 : Int32) &&& 31).toUInt32).toInt32) % (11 : Int32))), .val (.ref w1), .val (.int (1986 : Int32)), .unset, .unset] [(.int (vi0 &&& (1 : Int32)))])) _
    refine XS.ifNo X2.here hx rfl (hb hby at_33) rfl ((if0 _ _).trans (teq hc33).2) ?_
    show Steps p.tables e below (T2.setTop (mkF m 36 #[.val (.int vi0), .val (.int vi1), .val (.int (((vi0.toUInt32 >>> ((1 : Int32) &&& 31).toUInt32).toInt32) % (11 : Int32))), .val (.ref w1), .val (.int (1986 : Int32)), .unset, .unset] [])) _
    refine XS.iloadN X2.here hx rfl (hb hby at_36) rfl ?_
    show Steps p.tables e below (T2.setTop (mkF m 37 #[.val (.int vi0), .val (.int vi1), .val (.int (((vi0.toUInt32 >>> ((1 : Int32) &&& 31).toUInt32).toInt32) % (11 : Int32))), .val (.ref w1), .val (.int (1986 : Int32)), .unset, .unset] [(.int vi1)])) _
    refine XS.goto X2.here hx rfl (pc0 := 37) (pc' := 49) rfl (hb hby at_37) (by decide) (by decide) ?_
    show Steps p.tables e below (T2.setTop (mkF m 49 #[.val (.int vi0), .val (.int vi1), .val (.int (((vi0.toUInt32 >>> ((1 : Int32) &&& 31).toUInt32).toInt32) % (11 : Int32))), .val (.ref w1), .val (.int (1986 : Int32)), .unset, .unset] [(.int vi1)])) _
    refine XS.istore X2.here hx rfl (hb hby at_49) rfl (l' := #[.val (.int vi0), .val (.int vi1), .val (.int (((vi0.toUInt32 >>> ((1 : Int32) &&& 31).toUInt32).toInt32) % (11 : Int32))), .val (.ref w1), .val (.int (1986 : Int32)), .val (.int vi1), .unset]) rfl ?_
    show Steps p.tables e below (T2.setTop (mkF m 51 #[.val (.int vi0), .val (.int vi1), .val (.int (((vi0.toUInt32 >>> ((1 : Int32) &&& 31).toUInt32).toInt32) % (11 : Int32))), .val (.ref w1), .val (.int (1986 : Int32)), .val (.int vi1), .unset] [])) _
    refine XS.iload X2.here hx rfl (hb hby at_51) rfl ?_
    show Steps p.tables e below (T2.setTop (mkF m 53 #[.val (.int vi0), .val (.int vi1), .val (.int (((vi0.toUInt32 >>> ((1 : Int32) &&& 31).toUInt32).toInt32) % (11 : Int32))), .val (.ref w1), .val (.int (1986 : Int32)), .val (.int vi1), .unset] [(.int vi1)])) _
    refine XS.iload X2.here hx rfl (hb hby at_53) rfl ?_
    show Steps p.tables e below (T2.setTop (mkF m 55 #[.val (.int vi0), .val (.int vi1), .val (.int (((vi0.toUInt32 >>> ((1 : Int32) &&& 31).toUInt32).toInt32) % (11 : Int32))), .val (.ref w1), .val (.int (1986 : Int32)), .val (.int vi1), .unset] [(.int (1986 : Int32)), (.int vi1)])) _
    refine XS.icmpYes X2.here hx rfl (pc0 := 55) (pc' := 62) rfl (hb hby at_55) rfl (tlt hc55).1 (by decide) (by decide) ?_
    show Steps p.tables e below (T2.setTop (mkF m 62 #[.val (.int vi0), .val (.int vi1), .val (.int (((vi0.toUInt32 >>> ((1 : Int32) &&& 31).toUInt32).toInt32) % (11 : Int32))), .val (.ref w1), .val (.int (1986 : Int32)), .val (.int vi1), .unset] [])) _
    refine XS.iconst X2.here hx rfl (hb hby at_62) ?_
    show Steps p.tables e below (T2.setTop (mkF m 63 #[.val (.int vi0), .val (.int vi1), .val (.int (((vi0.toUInt32 >>> ((1 : Int32) &&& 31).toUInt32).toInt32) % (11 : Int32))), .val (.ref w1), .val (.int (1986 : Int32)), .val (.int vi1), .unset] [(.int (0 : Int32))])) _
    refine XS.istore X2.here hx rfl (hb hby at_63) rfl (l' := #[.val (.int vi0), .val (.int vi1), .val (.int (((vi0.toUInt32 >>> ((1 : Int32) &&& 31).toUInt32).toInt32) % (11 : Int32))), .val (.ref w1), .val (.int (1986 : Int32)), .val (.int vi1), .val (.int (0 : Int32))]) rfl ?_
    show Steps p.tables e below (T2.setTop (mkF m 65 #[.val (.int vi0), .val (.int vi1), .val (.int (((vi0.toUInt32 >>> ((1 : Int32) &&& 31).toUInt32).toInt32) % (11 : Int32))), .val (.ref w1), .val (.int (1986 : Int32)), .val (.int vi1), .val (.int (0 : Int32))] [])) _
    refine XS.aloadN X2.here hx rfl (hb hby at_65) rfl rfl ?_
    show Steps p.tables e below (T2.setTop (mkF m 66 #[.val (.int vi0), .val (.int vi1), .val (.int (((vi0.toUInt32 >>> ((1 : Int32) &&& 31).toUInt32).toInt32) % (11 : Int32))), .val (.ref w1), .val (.int (1986 : Int32)), .val (.int vi1), .val (.int (0 : Int32))] [(.ref w1)])) _
    refine XS.iload X2.here hx rfl (hb hby at_66) rfl ?_
    show Steps p.tables e below (T2.setTop (mkF m 68 #[.val (.int vi0), .val (.int vi1), .val (.int (((vi0.toUInt32 >>> ((1 : Int32) &&& 31).toUInt32).toInt32) % (11 : Int32))), .val (.ref w1), .val (.int (1986 : Int32)), .val (.int vi1), .val (.int (0 : Int32))] [(.int vi1), (.ref w1)])) _
    refine st3.trans ?_
    show Steps p.tables e below (T3.setTop (mkF m 71 #[.val (.int vi0), .val (.int vi1), .val (.int (((vi0.toUInt32 >>> ((1 : Int32) &&& 31).toUInt32).toInt32) % (11 : Int32))), .val (.ref w1), .val (.int (1986 : Int32)), .val (.int vi1), .val (.int (0 : Int32))] [(.int (0 : Int32))])) _
    refine XS.iload X3.here hx rfl (hb hby at_71) rfl ?_
    show Steps p.tables e below (T3.setTop (mkF m 73 #[.val (.int vi0), .val (.int vi1), .val (.int (((vi0.toUInt32 >>> ((1 : Int32) &&& 31).toUInt32).toInt32) % (11 : Int32))), .val (.ref w1), .val (.int (1986 : Int32)), .val (.int vi1), .val (.int (0 : Int32))] [(.int (0 : Int32)), (.int (0 : Int32))])) _
    refine XS.icmpNo X3.here hx rfl (hb hby at_73) rfl (teq (rfl : (0 : Int32) = (0 : Int32))).2 ?_
    show Steps p.tables e below (T3.setTop (mkF m 76 #[.val (.int vi0), .val (.int vi1), .val (.int (((vi0.toUInt32 >>> ((1 : Int32) &&& 31).toUInt32).toInt32) % (11 : Int32))), .val (.ref w1), .val (.int (1986 : Int32)), .val (.int vi1), .val (.int (0 : Int32))] [])) _
    refine XS.iconst X3.here hx rfl (hb hby at_76) ?_
    show Steps p.tables e below (T3.setTop (mkF m 77 #[.val (.int vi0), .val (.int vi1), .val (.int (((vi0.toUInt32 >>> ((1 : Int32) &&& 31).toUInt32).toInt32) % (11 : Int32))), .val (.ref w1), .val (.int (1986 : Int32)), .val (.int vi1), .val (.int (0 : Int32))] [(.int (1 : Int32))])) _
    refine XS.goto X3.here hx rfl (pc0 := 77) (pc' := 81) rfl (hb hby at_77) (by decide) (by decide) ?_
    show Steps p.tables e below (T3.setTop (mkF m 81 #[.val (.int vi0), .val (.int vi1), .val (.int (((vi0.toUInt32 >>> ((1 : Int32) &&& 31).toUInt32).toInt32) % (11 : Int32))), .val (.ref w1), .val (.int (1986 : Int32)), .val (.int vi1), .val (.int (0 : Int32))] [(.int (1 : Int32))])) _
    exact retN X3 hx (t := .boolean) Bd.returns (by simp) (hb hby at_81) hr
  · show Q0_Oft Z vi0 vi1 w_NEW_YEARS_DAY w_BIRTHDAY_OF_MARTIN_LUTHER_KING_JR w_WASHINGTONS_BIRTHDAY w_MEMORIAL_DAY w_INDEPENDENCE_DAY w_LABOR_DAY w_COLUMBUS_DAY w_VETERANS_DAY w_THANKSGIVING_DAY w_CHRISTMAS_DAY w_JUNETEENTH h0 n0 _ T3.heap _
    rw [e3]
    exact ⟨rfl, N3⟩
theorem ef_0_Otf (m : MethodId) (x0 : Int32) (x1 : Int32) : entryFrame m #[(.int x0), (.int x1)] maxLocals = mkF m 0 #[.val (.int x0), .val (.int x1), .unset, .unset, .unset, .unset, .unset] [] := by first | (simp [entryFrame, mkF, argsToLocals, Value.category, maxLocals]; done) | rfl
def Q0_Otf (Z : State) (vi0 : Int32) (vi1 : Int32) (w_NEW_YEARS_DAY : Addr) (w_BIRTHDAY_OF_MARTIN_LUTHER_KING_JR : Addr) (w_WASHINGTONS_BIRTHDAY : Addr) (w_MEMORIAL_DAY : Addr) (w_INDEPENDENCE_DAY : Addr) (w_LABOR_DAY : Addr) (w_COLUMBUS_DAY : Addr) (w_VETERANS_DAY : Addr) (w_THANKSGIVING_DAY : Addr) (w_CHRISTMAS_DAY : Addr) (w_JUNETEENTH : Addr) (h0 : Heap) (n0 : Nat) (v : Option Value) (h : Heap) (L : List Loc) : Prop := v = some (.int (1 : Int32)) ∧ Fr n0 L
set_option maxRecDepth 65536 in
set_option maxHeartbeats 40000000 in
theorem rm0_Otf (l : Launch) (Z : State) (a0 : Array Value) (hw : ∀ d ∈ tables_1, d.before a0 Z = true) (ws : List Jvm.Cond) (vi0 : Int32) (vi1 : Int32) (w_NEW_YEARS_DAY : Addr) (w_BIRTHDAY_OF_MARTIN_LUTHER_KING_JR : Addr) (w_WASHINGTONS_BIRTHDAY : Addr) (w_MEMORIAL_DAY : Addr) (w_INDEPENDENCE_DAY : Addr) (w_LABOR_DAY : Addr) (w_COLUMBUS_DAY : Addr) (w_VETERANS_DAY : Addr) (w_THANKSGIVING_DAY : Addr) (w_CHRISTMAS_DAY : Addr) (w_JUNETEENTH : Addr) (h0 : Heap) (n0 : Nat) (Z0 : n0 ≤ h0.size) (c8_hO : ¬ ((((vi0.toUInt32 >>> ((1 : Int32) &&& 31).toUInt32).toInt32) % (11 : Int32)) = (4 : Int32))) (E_w_NEW_YEARS_DAY : Exa Z Z.heap w_NEW_YEARS_DAY "com/example/lintel/lintel/calendar/FederalHoliday") (F_firstYear_w_NEW_YEARS_DAY : Fld Z Z.heap w_NEW_YEARS_DAY "com/example/lintel/lintel/calendar/FederalHoliday" "firstYear" "I" (.int (1986 : Int32))) (nJ_w_NEW_YEARS_DAY : ¬ (w_NEW_YEARS_DAY = w_JUNETEENTH)) (S_NEW_YEARS_DAY : Sta Z Z.heap "com/example/lintel/lintel/calendar/FederalHoliday" "NEW_YEARS_DAY" "Lcom/example/lintel/lintel/calendar/FederalHoliday;" (.ref w_NEW_YEARS_DAY)) (O0 : Old Z n0 h0) (E_w_BIRTHDAY_OF_MARTIN_LUTHER_KING_JR : Exa Z Z.heap w_BIRTHDAY_OF_MARTIN_LUTHER_KING_JR "com/example/lintel/lintel/calendar/FederalHoliday") (F_firstYear_w_BIRTHDAY_OF_MARTIN_LUTHER_KING_JR : Fld Z Z.heap w_BIRTHDAY_OF_MARTIN_LUTHER_KING_JR "com/example/lintel/lintel/calendar/FederalHoliday" "firstYear" "I" (.int (1986 : Int32))) (nJ_w_BIRTHDAY_OF_MARTIN_LUTHER_KING_JR : ¬ (w_BIRTHDAY_OF_MARTIN_LUTHER_KING_JR = w_JUNETEENTH)) (S_BIRTHDAY_OF_MARTIN_LUTHER_KING_JR : Sta Z Z.heap "com/example/lintel/lintel/calendar/FederalHoliday" "BIRTHDAY_OF_MARTIN_LUTHER_KING_JR" "Lcom/example/lintel/lintel/calendar/FederalHoliday;" (.ref w_BIRTHDAY_OF_MARTIN_LUTHER_KING_JR)) (E_w_WASHINGTONS_BIRTHDAY : Exa Z Z.heap w_WASHINGTONS_BIRTHDAY "com/example/lintel/lintel/calendar/FederalHoliday") (F_firstYear_w_WASHINGTONS_BIRTHDAY : Fld Z Z.heap w_WASHINGTONS_BIRTHDAY "com/example/lintel/lintel/calendar/FederalHoliday" "firstYear" "I" (.int (1986 : Int32))) (nJ_w_WASHINGTONS_BIRTHDAY : ¬ (w_WASHINGTONS_BIRTHDAY = w_JUNETEENTH)) (S_WASHINGTONS_BIRTHDAY : Sta Z Z.heap "com/example/lintel/lintel/calendar/FederalHoliday" "WASHINGTONS_BIRTHDAY" "Lcom/example/lintel/lintel/calendar/FederalHoliday;" (.ref w_WASHINGTONS_BIRTHDAY)) (E_w_MEMORIAL_DAY : Exa Z Z.heap w_MEMORIAL_DAY "com/example/lintel/lintel/calendar/FederalHoliday") (F_firstYear_w_MEMORIAL_DAY : Fld Z Z.heap w_MEMORIAL_DAY "com/example/lintel/lintel/calendar/FederalHoliday" "firstYear" "I" (.int (1986 : Int32))) (nJ_w_MEMORIAL_DAY : ¬ (w_MEMORIAL_DAY = w_JUNETEENTH)) (S_MEMORIAL_DAY : Sta Z Z.heap "com/example/lintel/lintel/calendar/FederalHoliday" "MEMORIAL_DAY" "Lcom/example/lintel/lintel/calendar/FederalHoliday;" (.ref w_MEMORIAL_DAY)) (E_w_INDEPENDENCE_DAY : Exa Z Z.heap w_INDEPENDENCE_DAY "com/example/lintel/lintel/calendar/FederalHoliday") (F_firstYear_w_INDEPENDENCE_DAY : Fld Z Z.heap w_INDEPENDENCE_DAY "com/example/lintel/lintel/calendar/FederalHoliday" "firstYear" "I" (.int (1986 : Int32))) (nJ_w_INDEPENDENCE_DAY : ¬ (w_INDEPENDENCE_DAY = w_JUNETEENTH)) (S_INDEPENDENCE_DAY : Sta Z Z.heap "com/example/lintel/lintel/calendar/FederalHoliday" "INDEPENDENCE_DAY" "Lcom/example/lintel/lintel/calendar/FederalHoliday;" (.ref w_INDEPENDENCE_DAY)) (E_w_LABOR_DAY : Exa Z Z.heap w_LABOR_DAY "com/example/lintel/lintel/calendar/FederalHoliday") (F_firstYear_w_LABOR_DAY : Fld Z Z.heap w_LABOR_DAY "com/example/lintel/lintel/calendar/FederalHoliday" "firstYear" "I" (.int (1986 : Int32))) (nJ_w_LABOR_DAY : ¬ (w_LABOR_DAY = w_JUNETEENTH)) (S_LABOR_DAY : Sta Z Z.heap "com/example/lintel/lintel/calendar/FederalHoliday" "LABOR_DAY" "Lcom/example/lintel/lintel/calendar/FederalHoliday;" (.ref w_LABOR_DAY)) (E_w_COLUMBUS_DAY : Exa Z Z.heap w_COLUMBUS_DAY "com/example/lintel/lintel/calendar/FederalHoliday") (F_firstYear_w_COLUMBUS_DAY : Fld Z Z.heap w_COLUMBUS_DAY "com/example/lintel/lintel/calendar/FederalHoliday" "firstYear" "I" (.int (1986 : Int32))) (nJ_w_COLUMBUS_DAY : ¬ (w_COLUMBUS_DAY = w_JUNETEENTH)) (S_COLUMBUS_DAY : Sta Z Z.heap "com/example/lintel/lintel/calendar/FederalHoliday" "COLUMBUS_DAY" "Lcom/example/lintel/lintel/calendar/FederalHoliday;" (.ref w_COLUMBUS_DAY)) (E_w_VETERANS_DAY : Exa Z Z.heap w_VETERANS_DAY "com/example/lintel/lintel/calendar/FederalHoliday") (F_firstYear_w_VETERANS_DAY : Fld Z Z.heap w_VETERANS_DAY "com/example/lintel/lintel/calendar/FederalHoliday" "firstYear" "I" (.int (1986 : Int32))) (nJ_w_VETERANS_DAY : ¬ (w_VETERANS_DAY = w_JUNETEENTH)) (S_VETERANS_DAY : Sta Z Z.heap "com/example/lintel/lintel/calendar/FederalHoliday" "VETERANS_DAY" "Lcom/example/lintel/lintel/calendar/FederalHoliday;" (.ref w_VETERANS_DAY)) (E_w_THANKSGIVING_DAY : Exa Z Z.heap w_THANKSGIVING_DAY "com/example/lintel/lintel/calendar/FederalHoliday") (F_firstYear_w_THANKSGIVING_DAY : Fld Z Z.heap w_THANKSGIVING_DAY "com/example/lintel/lintel/calendar/FederalHoliday" "firstYear" "I" (.int (1986 : Int32))) (nJ_w_THANKSGIVING_DAY : ¬ (w_THANKSGIVING_DAY = w_JUNETEENTH)) (S_THANKSGIVING_DAY : Sta Z Z.heap "com/example/lintel/lintel/calendar/FederalHoliday" "THANKSGIVING_DAY" "Lcom/example/lintel/lintel/calendar/FederalHoliday;" (.ref w_THANKSGIVING_DAY)) (E_w_CHRISTMAS_DAY : Exa Z Z.heap w_CHRISTMAS_DAY "com/example/lintel/lintel/calendar/FederalHoliday") (F_firstYear_w_CHRISTMAS_DAY : Fld Z Z.heap w_CHRISTMAS_DAY "com/example/lintel/lintel/calendar/FederalHoliday" "firstYear" "I" (.int (1986 : Int32))) (nJ_w_CHRISTMAS_DAY : ¬ (w_CHRISTMAS_DAY = w_JUNETEENTH)) (S_CHRISTMAS_DAY : Sta Z Z.heap "com/example/lintel/lintel/calendar/FederalHoliday" "CHRISTMAS_DAY" "Lcom/example/lintel/lintel/calendar/FederalHoliday;" (.ref w_CHRISTMAS_DAY)) (S_JUNETEENTH : Sta Z Z.heap "com/example/lintel/lintel/calendar/FederalHoliday" "JUNETEENTH" "Lcom/example/lintel/lintel/calendar/FederalHoliday;" (.ref w_JUNETEENTH)) (hc33 : ¬ ((vi0 &&& (1 : Int32)) = (0 : Int32))) (hc55 : ¬ (((1986 : Int32) + ((vi1 &&& (7 : Int32)) - (4 : Int32))) < (1986 : Int32))) :
    MetFree l x (head1 (Jvm.Cond.code x code maxLocals ret :: ws) room_1) (fun a U => a = #[(.int vi0), (.int vi1)] ∧ Z.Warmed39 U.vm ∧ U.heap = h0) (fun _ _ _ _ _ => True) (fun _ U o U' => ∃ v L, o = .returned v ∧ Q0_Otf Z vi0 vi1 w_NEW_YEARS_DAY w_BIRTHDAY_OF_MARTIN_LUTHER_KING_JR w_WASHINGTONS_BIRTHDAY w_MEMORIAL_DAY w_INDEPENDENCE_DAY w_LABOR_DAY w_COLUMBUS_DAY w_VETERANS_DAY w_THANKSGIVING_DAY w_CHRISTMAS_DAY w_JUNETEENTH h0 n0 v U'.heap L ∧ FrameEnd U o U' L room_1.cells room_1.slots) := by
  refine MetFree.of_bodySF (plainFor_of_name pn_com_example_lintel_lintel_calendar_FederalHolidayKeptInPinLaw) hisR ?_
  intro p e s m args below meth c s₁ Bd hml0 hP hK
  obtain ⟨rfl, hZ, hh⟩ := hP
  have hx := Bd.exec
  have hby := Bd.bytes
  have hml : c.maxLocals = 7 := hml0
  have hown : s.vm.findClass "com/example/lintel/lintel/calendar/FederalHolidayKeptInPinLaw" = some m.cls := findClass_of_methodNamed Bd.named
  have hnm := (name_of_methodNamed Bd.named Bd.method).1
  have X0 : Stand p l e room_1 s m #[(.int vi0), (.int vi1)] below meth c s₁ [] 0 0 := Stand.of_body Bd
  have e0 : s₁.heap = h0 := by rw [← hh, Bd.state]; rfl
  have N0 := Fr.nil n0
  have pre0 : ∀ t, Steps p.tables e below (s₁.setTop (mkF m 0 #[.val (.int vi0), .val (.int vi1), .unset, .unset, .unset, .unset, .unset] [])) t → Steps p.tables e below (s₁.setTop (entryFrame m #[(.int vi0), (.int vi1)] maxLocals)) t := fun t k => castTop (ef_0_Otf m vi0 vi1) k
  obtain ⟨_, _, ⟨T1, L1, k1, n1⟩, -, X1, ⟨Lc1, hQ1, l1, y1, z1⟩, st1⟩ := Jvm.LawKit.callS X0 hx (y := (⟨"com/example/lintel/lintel/calendar/FederalHolidayKeptInPinLaw", "pick", "(I)Lcom/example/lintel/lintel/calendar/FederalHoliday;"⟩ : MethodName)) hown (mvT hZ (wd_0 hw)) (mvT hZ (wd_1 hw)) (mvT hZ (wd_2 hw)) (mvT hZ (wd_3 hw)) (by decide) (backOf (W := 0) (rmP_O l Z a0 hw [] (((vi0.toUInt32 >>> ((1 : Int32) &&& 31).toUInt32).toInt32) % (11 : Int32)) w_JUNETEENTH w_NEW_YEARS_DAY w_BIRTHDAY_OF_MARTIN_LUTHER_KING_JR w_WASHINGTONS_BIRTHDAY w_MEMORIAL_DAY w_INDEPENDENCE_DAY w_LABOR_DAY w_COLUMBUS_DAY w_VETERANS_DAY w_THANKSGIVING_DAY w_CHRISTMAS_DAY h0 n0 Z0 c8_hO E_w_NEW_YEARS_DAY F_firstYear_w_NEW_YEARS_DAY nJ_w_NEW_YEARS_DAY S_NEW_YEARS_DAY O0 E_w_BIRTHDAY_OF_MARTIN_LUTHER_KING_JR F_firstYear_w_BIRTHDAY_OF_MARTIN_LUTHER_KING_JR nJ_w_BIRTHDAY_OF_MARTIN_LUTHER_KING_JR S_BIRTHDAY_OF_MARTIN_LUTHER_KING_JR E_w_WASHINGTONS_BIRTHDAY F_firstYear_w_WASHINGTONS_BIRTHDAY nJ_w_WASHINGTONS_BIRTHDAY S_WASHINGTONS_BIRTHDAY E_w_MEMORIAL_DAY F_firstYear_w_MEMORIAL_DAY nJ_w_MEMORIAL_DAY S_MEMORIAL_DAY E_w_INDEPENDENCE_DAY F_firstYear_w_INDEPENDENCE_DAY nJ_w_INDEPENDENCE_DAY S_INDEPENDENCE_DAY E_w_LABOR_DAY F_firstYear_w_LABOR_DAY nJ_w_LABOR_DAY S_LABOR_DAY E_w_COLUMBUS_DAY F_firstYear_w_COLUMBUS_DAY nJ_w_COLUMBUS_DAY S_COLUMBUS_DAY E_w_VETERANS_DAY F_firstYear_w_VETERANS_DAY nJ_w_VETERANS_DAY S_VETERANS_DAY E_w_THANKSGIVING_DAY F_firstYear_w_THANKSGIVING_DAY nJ_w_THANKSGIVING_DAY S_THANKSGIVING_DAY E_w_CHRISTMAS_DAY F_firstYear_w_CHRISTMAS_DAY nJ_w_CHRISTMAS_DAY S_CHRISTMAS_DAY) hZ (wd_3 hw) (wd_2 hw) (by decide) (by decide)) (g := (mkF m 8 #[.val (.int vi0), .val (.int vi1), .val (.int (((vi0.toUInt32 >>> ((1 : Int32) &&& 31).toUInt32).toInt32) % (11 : Int32))), .unset, .unset, .unset, .unset] [(.int (((vi0.toUInt32 >>> ((1 : Int32) &&& 31).toUInt32).toInt32) % (11 : Int32)))])) rfl (by rw [hml]; rfl) (argsL := [(.int (((vi0.toUInt32 >>> ((1 : Int32) &&& 31).toUInt32).toInt32) % (11 : Int32)))]) (rest := []) (lenOf pd_0 rfl) rfl (by show 2 * 0 + _ ≤ _; exact Nat.le_of_eq rfl) (hb hby at_8) (fun _ _ => ⟨rfl, e0, (by decide : 0 + 0 ≤ _), (by decide : 0 + 0 ≤ _)⟩)
  dsimp only [Pt.U, Pt.locs, Pt.cells, Pt.slots] at X1 l1 y1 z1 st1 hQ1
  subst l1 y1 z1
  obtain ⟨w1, rfl, N1q, p1_0, p1_1, p1_2, p1_3⟩ := hQ1
  have N1 := Fr.app N0 N1q
  have e1 : T1.heap = h0 := p1_0
  obtain ⟨T2, X2, e2, st2⟩ := getS2 X1 hx hZ hown (host := "") (Or.inl (wd_7 hw)) Via.refl e1 (S_JUNETEENTH.ext O0.2) (g := (mkF m 13 #[.val (.int vi0), .val (.int vi1), .val (.int (((vi0.toUInt32 >>> ((1 : Int32) &&& 31).toUInt32).toInt32) % (11 : Int32))), .val (.ref w1), .unset, .unset, .unset] [(.ref w1)])) rfl (hb hby at_13)
  obtain ⟨cq3, kq3, q3a, q3b, q3c⟩ := isOf hZ e2 (p1_1.ext O0.2)
  obtain ⟨_, _, ⟨T3, L3, k3, n3⟩, -, X3, ⟨Lc3, hQ3, l3, y3, z3⟩, st3⟩ := X2.virtualBack hx (y := (⟨"com/example/lintel/lintel/calendar/FederalHoliday", "keptIn", "(I)Z"⟩ : MethodName)) (z := (⟨"com/example/lintel/lintel/calendar/FederalHoliday", "keptIn", "(I)Z"⟩ : MethodName)) hown (mvT hZ (wd_9 hw)) (mvT hZ (wd_10 hw)) (notFace_of_selects (args := #[]) (mvT hZ (wd_12 hw))) (mvT hZ (wd_12 hw)) (mvT hZ (wd_11 hw)) (by decide) (backOf (W := 0) (rm2_f l Z a0 hw [] w1 ((1986 : Int32) + ((vi1 &&& (7 : Int32)) - (4 : Int32))) (1986 : Int32) h0 n0 Z0 (p1_2.ext O0.2) hc55) hZ (wd_13 hw) (wd_5 hw) (by decide) (by decide)) q3a q3c (g := (mkF m 68 #[.val (.int vi0), .val (.int vi1), .val (.int (((vi0.toUInt32 >>> ((1 : Int32) &&& 31).toUInt32).toInt32) % (11 : Int32))), .val (.ref w1), .val (.int (1986 : Int32)), .val (.int ((1986 : Int32) + ((vi1 &&& (7 : Int32)) - (4 : Int32)))), .val (.int (1 : Int32))] [(.int ((1986 : Int32) + ((vi1 &&& (7 : Int32)) - (4 : Int32)))), (.ref w1)])) rfl (by rw [hml]; rfl) (Steps.refl _) (argsL := [(.int ((1986 : Int32) + ((vi1 &&& (7 : Int32)) - (4 : Int32))))]) (rest := []) (lenOf pd_1 rfl) rfl (by show 2 * 0 + _ ≤ _; exact Nat.le_of_eq rfl) (hb hby at_68) (fun _ _ => ⟨rfl, e2, (by decide : 0 + 0 ≤ _), (by decide : 0 + 0 ≤ _)⟩)
  dsimp only [Pt.U, Pt.locs, Pt.cells, Pt.slots] at X3 l3 y3 z3 st3 hQ3
  subst l3 y3 z3
  obtain ⟨rfl, N3q, p3_0⟩ := hQ3
  have N3 := Fr.app N1 N3q
  have e3 : T3.heap = h0 := p3_0
  obtain ⟨fs, hr, hrun, hended, hW, hsame⟩ := X3.leave (v := some (.int (1 : Int32))) (fun h => by rw [Bd.returns] at h; cases h)
  refine ⟨_, _, pre0 _ ?_, hrun, hended, _, _, rfl, ?_, ⟨_, rfl⟩, hW, hsame.mono (by decide) (by decide)⟩
  · show Steps p.tables e below (s₁.setTop (mkF m 0 #[.val (.int vi0), .val (.int vi1), .unset, .unset, .unset, .unset, .unset] [])) _
    refine XS.iloadN X0.here hx rfl (hb hby at_0) rfl ?_
    show Steps p.tables e below (s₁.setTop (mkF m 1 #[.val (.int vi0), .val (.int vi1), .unset, .unset, .unset, .unset, .unset] [(.int vi0)])) _
    refine XS.iconst X0.here hx rfl (hb hby at_1) ?_
    show Steps p.tables e below (s₁.setTop (mkF m 2 #[.val (.int vi0), .val (.int vi1), .unset, .unset, .unset, .unset, .unset] [(.int (1 : Int32)), (.int vi0)])) _
    refine XS.iushr X0.here hx rfl (hb hby at_2) rfl ?_
    show Steps p.tables e below (s₁.setTop (mkF m 3 #[.val (.int vi0), .val (.int vi1), .unset, .unset, .unset, .unset, .unset] [(.int ((vi0.toUInt32 >>> ((1 : Int32) &&& 31).toUInt32).toInt32))])) _
    refine XS.bipush X0.here hx rfl (hb hby at_3) ?_
    show Steps p.tables e below (s₁.setTop (mkF m 5 #[.val (.int vi0), .val (.int vi1), .unset, .unset, .unset, .unset, .unset] [(.int (11 : Int32)), (.int ((vi0.toUInt32 >>> ((1 : Int32) &&& 31).toUInt32).toInt32))])) _
    refine iremM X0 hx rfl (hb hby at_5) rfl (by decide) ?_
    show Steps p.tables e below (s₁.setTop (mkF m 6 #[.val (.int vi0), .val (.int vi1), .unset, .unset, .unset, .unset, .unset] [(.int (((vi0.toUInt32 >>> ((1 : Int32) &&& 31).toUInt32).toInt32) % (11 : Int32)))])) _
    refine XS.istoreN X0.here hx rfl (hb hby at_6) rfl (l' := #[.val (.int vi0), .val (.int vi1), .val (.int (((vi0.toUInt32 >>> ((1 : Int32) &&& 31).toUInt32).toInt32) % (11 : Int32))), .unset, .unset, .unset, .unset]) rfl ?_
    show Steps p.tables e below (s₁.setTop (mkF m 7 #[.val (.int vi0), .val (.int vi1), .val (.int (((vi0.toUInt32 >>> ((1 : Int32) &&& 31).toUInt32).toInt32) % (11 : Int32))), .unset, .unset, .unset, .unset] [])) _
    refine XS.iloadN X0.here hx rfl (hb hby at_7) rfl ?_
    show Steps p.tables e below (s₁.setTop (mkF m 8 #[.val (.int vi0), .val (.int vi1), .val (.int (((vi0.toUInt32 >>> ((1 : Int32) &&& 31).toUInt32).toInt32) % (11 : Int32))), .unset, .unset, .unset, .unset] [(.int (((vi0.toUInt32 >>> ((1 : Int32) &&& 31).toUInt32).toInt32) % (11 : Int32)))])) _
    refine st1 _ ?_
    show Steps p.tables e below (T1.setTop (mkF m 11 #[.val (.int vi0), .val (.int vi1), .val (.int (((vi0.toUInt32 >>> ((1 : Int32) &&& 31).toUInt32).toInt32) % (11 : Int32))), .unset, .unset, .unset, .unset] [(.ref w1)])) _
    refine XS.astoreN X1.here hx rfl (hb hby at_11) rfl rfl (l' := #[.val (.int vi0), .val (.int vi1), .val (.int (((vi0.toUInt32 >>> ((1 : Int32) &&& 31).toUInt32).toInt32) % (11 : Int32))), .val (.ref w1), .unset, .unset, .unset]) rfl ?_
    show Steps p.tables e below (T1.setTop (mkF m 12 #[.val (.int vi0), .val (.int vi1), .val (.int (((vi0.toUInt32 >>> ((1 : Int32) &&& 31).toUInt32).toInt32) % (11 : Int32))), .val (.ref w1), .unset, .unset, .unset] [])) _
    refine XS.aloadN X1.here hx rfl (hb hby at_12) rfl rfl ?_
    show Steps p.tables e below (T1.setTop (mkF m 13 #[.val (.int vi0), .val (.int vi1), .val (.int (((vi0.toUInt32 >>> ((1 : Int32) &&& 31).toUInt32).toInt32) % (11 : Int32))), .val (.ref w1), .unset, .unset, .unset] [(.ref w1)])) _
    refine st2 _ ?_
    show Steps p.tables e below (T2.setTop (mkF m 16 #[.val (.int vi0), .val (.int vi1), .val (.int (((vi0.toUInt32 >>> ((1 : Int32) &&& 31).toUInt32).toInt32) % (11 : Int32))), .val (.ref w1), .unset, .unset, .unset] [(.ref w_JUNETEENTH), (.ref w1)])) _
    refine Jvm.RoadKit.acmp (g := (mkF m 16 #[.val (.int vi0), .val (.int vi1), .val (.int (((vi0.toUInt32 >>> ((1 : Int32) &&& 31).toUInt32).toInt32) % (11 : Int32))), .val (.ref w1), .unset, .unset, .unset] [(.ref w_JUNETEENTH), (.ref w1)])) X2 hx rfl rfl rfl (pc0 := 16) (pc' := 25) (same := false) rfl (hb hby at_16) rfl (decide_eq_false fun q => p1_3 (Value.ref.inj q)) (by decide) (by decide) ?_
    show Steps p.tables e below (T2.setTop (mkF m 25 #[.val (.int vi0), .val (.int vi1), .val (.int (((vi0.toUInt32 >>> ((1 : Int32) &&& 31).toUInt32).toInt32) % (11 : Int32))), .val (.ref w1), .unset, .unset, .unset] [])) _
    refine XS.sipush X2.here hx rfl (hb hby at_25) ?_
    show Steps p.tables e below (T2.setTop (mkF m 28 #[.val (.int vi0), .val (.int vi1), .val (.int (((vi0.toUInt32 >>> ((1 : Int32) &&& 31).toUInt32).toInt32) % (11 : Int32))), .val (.ref w1), .unset, .unset, .unset] [(.int (1986 : Int32))])) _
    refine XS.istore X2.here hx rfl (hb hby at_28) rfl (l' := #[.val (.int vi0), .val (.int vi1), .val (.int (((vi0.toUInt32 >>> ((1 : Int32) &&& 31).toUInt32).toInt32) % (11 : Int32))), .val (.ref w1), .val (.int (1986 : Int32)), .unset, .unset]) rfl ?_
    show Steps p.tables e below (T2.setTop (mkF m 30 #[.val (.int vi0), .val (.int vi1), .val (.int (((vi0.toUInt32 >>> ((1 : Int32) &&& 31).toUInt32).toInt32) % (11 : Int32))), .val (.ref w1), .val (.int (1986 : Int32)), .unset, .unset] [])) _
    refine XS.iloadN X2.here hx rfl (hb hby at_30) rfl ?_
    show Steps p.tables e below (T2.setTop (mkF m 31 #[.val (.int vi0), .val (.int vi1), .val (.int (((vi0.toUInt32 >>> ((1 : Int32) &&& 31).toUInt32).toInt32) % (11 : Int32))), .val (.ref w1), .val (.int (1986 : Int32)), .unset, .unset] [(.int vi0)])) _
    refine XS.iconst X2.here hx rfl (hb hby at_31) ?_
    show Steps p.tables e below (T2.setTop (mkF m 32 #[.val (.int vi0), .val (.int vi1), .val (.int (((vi0.toUInt32 >>> ((1 : Int32) &&& 31).toUInt32).toInt32) % (11 : Int32))), .val (.ref w1), .val (.int (1986 : Int32)), .unset, .unset] [(.int (1 : Int32)), (.int vi0)])) _
    refine XS.iand X2.here hx rfl (hb hby at_32) rfl ?_
    show Steps p.tables e below (T2.setTop (mkF m 33 #[.val (.int vi0), .val (.int vi1), .val (.int (((vi0.toUInt32 >>> ((1 : Int32) &&& 31).toUInt32).toInt32) % (11 : Int32))), .val (.ref w1), .val (.int (1986 : Int32)), .unset, .unset] [(.int (vi0 &&& (1 : Int32)))])) _
    refine XS.ifYes X2.here hx rfl (pc0 := 33) (pc' := 40) rfl (hb hby at_33) rfl ((if0 _ _).trans (feq hc33).2) (by decide) (by decide) ?_
    show Steps p.tables e below (T2.setTop (mkF m 40 #[.val (.int vi0), .val (.int vi1), .val (.int (((vi0.toUInt32 >>> ((1 : Int32) &&& 31).toUInt32).toInt32) % (11 : Int32))), .val (.ref w1), .val (.int (1986 : Int32)), .unset, .unset] [])) _
    refine XS.iload X2.here hx rfl (hb hby at_40) rfl ?_
    show Steps p.tables e below (T2.setTop (mkF m 42 #[.val (.int vi0), .val (.int vi1), .val (.int (((vi0.toUInt32 >>> ((1 : Int32) &&& 31).toUInt32).toInt32) % (11 : Int32))), .val (.ref w1), .val (.int (1986 : Int32)), .unset, .unset] [(.int (1986 : Int32))])) _
    refine XS.iloadN X2.here hx rfl (hb hby at_42) rfl ?_
    show Steps p.tables e below (T2.setTop (mkF m 43 #[.val (.int vi0), .val (.int vi1), .val (.int (((vi0.toUInt32 >>> ((1 : Int32) &&& 31).toUInt32).toInt32) % (11 : Int32))), .val (.ref w1), .val (.int (1986 : Int32)), .unset, .unset] [(.int vi1), (.int (1986 : Int32))])) _
    refine XS.bipush X2.here hx rfl (hb hby at_43) ?_
    show Steps p.tables e below (T2.setTop (mkF m 45 #[.val (.int vi0), .val (.int vi1), .val (.int (((vi0.toUInt32 >>> ((1 : Int32) &&& 31).toUInt32).toInt32) % (11 : Int32))), .val (.ref w1), .val (.int (1986 : Int32)), .unset, .unset] [(.int (7 : Int32)), (.int vi1), (.int (1986 : Int32))])) _
    refine XS.iand X2.here hx rfl (hb hby at_45) rfl ?_
    show Steps p.tables e below (T2.setTop (mkF m 46 #[.val (.int vi0), .val (.int vi1), .val (.int (((vi0.toUInt32 >>> ((1 : Int32) &&& 31).toUInt32).toInt32) % (11 : Int32))), .val (.ref w1), .val (.int (1986 : Int32)), .unset, .unset] [(.int (vi1 &&& (7 : Int32))), (.int (1986 : Int32))])) _
    refine XS.iconst X2.here hx rfl (hb hby at_46) ?_
    show Steps p.tables e below (T2.setTop (mkF m 47 #[.val (.int vi0), .val (.int vi1), .val (.int (((vi0.toUInt32 >>> ((1 : Int32) &&& 31).toUInt32).toInt32) % (11 : Int32))), .val (.ref w1), .val (.int (1986 : Int32)), .unset, .unset] [(.int (4 : Int32)), (.int (vi1 &&& (7 : Int32))), (.int (1986 : Int32))])) _
    refine XS.isub X2.here hx rfl (hb hby at_47) rfl ?_
    show Steps p.tables e below (T2.setTop (mkF m 48 #[.val (.int vi0), .val (.int vi1), .val (.int (((vi0.toUInt32 >>> ((1 : Int32) &&& 31).toUInt32).toInt32) % (11 : Int32))), .val (.ref w1), .val (.int (1986 : Int32)), .unset, .unset] [(.int ((vi1 &&& (7 : Int32)) - (4 : Int32))), (.int (1986 : Int32))])) _
    refine XS.iadd X2.here hx rfl (hb hby at_48) rfl ?_
    show Steps p.tables e below (T2.setTop (mkF m 49 #[.val (.int vi0), .val (.int vi1), .val (.int (((vi0.toUInt32 >>> ((1 : Int32) &&& 31).toUInt32).toInt32) % (11 : Int32))), .val (.ref w1), .val (.int (1986 : Int32)), .unset, .unset] [(.int ((1986 : Int32) + ((vi1 &&& (7 : Int32)) - (4 : Int32))))])) _
    refine XS.istore X2.here hx rfl (hb hby at_49) rfl (l' := #[.val (.int vi0), .val (.int vi1), .val (.int (((vi0.toUInt32 >>> ((1 : Int32) &&& 31).toUInt32).toInt32) % (11 : Int32))), .val (.ref w1), .val (.int (1986 : Int32)), .val (.int ((1986 : Int32) + ((vi1 &&& (7 : Int32)) - (4 : Int32)))), .unset]) rfl ?_
    show Steps p.tables e below (T2.setTop (mkF m 51 #[.val (.int vi0), .val (.int vi1), .val (.int (((vi0.toUInt32 >>> ((1 : Int32) &&& 31).toUInt32).toInt32) % (11 : Int32))), .val (.ref w1), .val (.int (1986 : Int32)), .val (.int ((1986 : Int32) + ((vi1 &&& (7 : Int32)) - (4 : Int32)))), .unset] [])) _
    refine XS.iload X2.here hx rfl (hb hby at_51) rfl ?_
    show Steps p.tables e below (T2.setTop (mkF m 53 #[.val (.int vi0), .val (.int vi1), .val (.int (((vi0.toUInt32 >>> ((1 : Int32) &&& 31).toUInt32).toInt32) % (11 : Int32))), .val (.ref w1), .val (.int (1986 : Int32)), .val (.int ((1986 : Int32) + ((vi1 &&& (7 : Int32)) - (4 : Int32)))), .unset] [(.int ((1986 : Int32) + ((vi1 &&& (7 : Int32)) - (4 : Int32))))])) _
    refine XS.iload X2.here hx rfl (hb hby at_53) rfl ?_
    show Steps p.tables e below (T2.setTop (mkF m 55 #[.val (.int vi0), .val (.int vi1), .val (.int (((vi0.toUInt32 >>> ((1 : Int32) &&& 31).toUInt32).toInt32) % (11 : Int32))), .val (.ref w1), .val (.int (1986 : Int32)), .val (.int ((1986 : Int32) + ((vi1 &&& (7 : Int32)) - (4 : Int32)))), .unset] [(.int (1986 : Int32)), (.int ((1986 : Int32) + ((vi1 &&& (7 : Int32)) - (4 : Int32))))])) _
    refine XS.icmpNo X2.here hx rfl (hb hby at_55) rfl (flt hc55).1 ?_
    show Steps p.tables e below (T2.setTop (mkF m 58 #[.val (.int vi0), .val (.int vi1), .val (.int (((vi0.toUInt32 >>> ((1 : Int32) &&& 31).toUInt32).toInt32) % (11 : Int32))), .val (.ref w1), .val (.int (1986 : Int32)), .val (.int ((1986 : Int32) + ((vi1 &&& (7 : Int32)) - (4 : Int32)))), .unset] [])) _
    refine XS.iconst X2.here hx rfl (hb hby at_58) ?_
    show Steps p.tables e below (T2.setTop (mkF m 59 #[.val (.int vi0), .val (.int vi1), .val (.int (((vi0.toUInt32 >>> ((1 : Int32) &&& 31).toUInt32).toInt32) % (11 : Int32))), .val (.ref w1), .val (.int (1986 : Int32)), .val (.int ((1986 : Int32) + ((vi1 &&& (7 : Int32)) - (4 : Int32)))), .unset] [(.int (1 : Int32))])) _
    refine XS.goto X2.here hx rfl (pc0 := 59) (pc' := 63) rfl (hb hby at_59) (by decide) (by decide) ?_
    show Steps p.tables e below (T2.setTop (mkF m 63 #[.val (.int vi0), .val (.int vi1), .val (.int (((vi0.toUInt32 >>> ((1 : Int32) &&& 31).toUInt32).toInt32) % (11 : Int32))), .val (.ref w1), .val (.int (1986 : Int32)), .val (.int ((1986 : Int32) + ((vi1 &&& (7 : Int32)) - (4 : Int32)))), .unset] [(.int (1 : Int32))])) _
    refine XS.istore X2.here hx rfl (hb hby at_63) rfl (l' := #[.val (.int vi0), .val (.int vi1), .val (.int (((vi0.toUInt32 >>> ((1 : Int32) &&& 31).toUInt32).toInt32) % (11 : Int32))), .val (.ref w1), .val (.int (1986 : Int32)), .val (.int ((1986 : Int32) + ((vi1 &&& (7 : Int32)) - (4 : Int32)))), .val (.int (1 : Int32))]) rfl ?_
    show Steps p.tables e below (T2.setTop (mkF m 65 #[.val (.int vi0), .val (.int vi1), .val (.int (((vi0.toUInt32 >>> ((1 : Int32) &&& 31).toUInt32).toInt32) % (11 : Int32))), .val (.ref w1), .val (.int (1986 : Int32)), .val (.int ((1986 : Int32) + ((vi1 &&& (7 : Int32)) - (4 : Int32)))), .val (.int (1 : Int32))] [])) _
    refine XS.aloadN X2.here hx rfl (hb hby at_65) rfl rfl ?_
    show Steps p.tables e below (T2.setTop (mkF m 66 #[.val (.int vi0), .val (.int vi1), .val (.int (((vi0.toUInt32 >>> ((1 : Int32) &&& 31).toUInt32).toInt32) % (11 : Int32))), .val (.ref w1), .val (.int (1986 : Int32)), .val (.int ((1986 : Int32) + ((vi1 &&& (7 : Int32)) - (4 : Int32)))), .val (.int (1 : Int32))] [(.ref w1)])) _
    refine XS.iload X2.here hx rfl (hb hby at_66) rfl ?_
    show Steps p.tables e below (T2.setTop (mkF m 68 #[.val (.int vi0), .val (.int vi1), .val (.int (((vi0.toUInt32 >>> ((1 : Int32) &&& 31).toUInt32).toInt32) % (11 : Int32))), .val (.ref w1), .val (.int (1986 : Int32)), .val (.int ((1986 : Int32) + ((vi1 &&& (7 : Int32)) - (4 : Int32)))), .val (.int (1 : Int32))] [(.int ((1986 : Int32) + ((vi1 &&& (7 : Int32)) - (4 : Int32)))), (.ref w1)])) _
    refine st3.trans ?_
    show Steps p.tables e below (T3.setTop (mkF m 71 #[.val (.int vi0), .val (.int vi1), .val (.int (((vi0.toUInt32 >>> ((1 : Int32) &&& 31).toUInt32).toInt32) % (11 : Int32))), .val (.ref w1), .val (.int (1986 : Int32)), .val (.int ((1986 : Int32) + ((vi1 &&& (7 : Int32)) - (4 : Int32)))), .val (.int (1 : Int32))] [(.int (1 : Int32))])) _
    refine XS.iload X3.here hx rfl (hb hby at_71) rfl ?_
    show Steps p.tables e below (T3.setTop (mkF m 73 #[.val (.int vi0), .val (.int vi1), .val (.int (((vi0.toUInt32 >>> ((1 : Int32) &&& 31).toUInt32).toInt32) % (11 : Int32))), .val (.ref w1), .val (.int (1986 : Int32)), .val (.int ((1986 : Int32) + ((vi1 &&& (7 : Int32)) - (4 : Int32)))), .val (.int (1 : Int32))] [(.int (1 : Int32)), (.int (1 : Int32))])) _
    refine XS.icmpNo X3.here hx rfl (hb hby at_73) rfl (teq (rfl : (1 : Int32) = (1 : Int32))).2 ?_
    show Steps p.tables e below (T3.setTop (mkF m 76 #[.val (.int vi0), .val (.int vi1), .val (.int (((vi0.toUInt32 >>> ((1 : Int32) &&& 31).toUInt32).toInt32) % (11 : Int32))), .val (.ref w1), .val (.int (1986 : Int32)), .val (.int ((1986 : Int32) + ((vi1 &&& (7 : Int32)) - (4 : Int32)))), .val (.int (1 : Int32))] [])) _
    refine XS.iconst X3.here hx rfl (hb hby at_76) ?_
    show Steps p.tables e below (T3.setTop (mkF m 77 #[.val (.int vi0), .val (.int vi1), .val (.int (((vi0.toUInt32 >>> ((1 : Int32) &&& 31).toUInt32).toInt32) % (11 : Int32))), .val (.ref w1), .val (.int (1986 : Int32)), .val (.int ((1986 : Int32) + ((vi1 &&& (7 : Int32)) - (4 : Int32)))), .val (.int (1 : Int32))] [(.int (1 : Int32))])) _
    refine XS.goto X3.here hx rfl (pc0 := 77) (pc' := 81) rfl (hb hby at_77) (by decide) (by decide) ?_
    show Steps p.tables e below (T3.setTop (mkF m 81 #[.val (.int vi0), .val (.int vi1), .val (.int (((vi0.toUInt32 >>> ((1 : Int32) &&& 31).toUInt32).toInt32) % (11 : Int32))), .val (.ref w1), .val (.int (1986 : Int32)), .val (.int ((1986 : Int32) + ((vi1 &&& (7 : Int32)) - (4 : Int32)))), .val (.int (1 : Int32))] [(.int (1 : Int32))])) _
    exact retN X3 hx (t := .boolean) Bd.returns (by simp) (hb hby at_81) hr
  · show Q0_Otf Z vi0 vi1 w_NEW_YEARS_DAY w_BIRTHDAY_OF_MARTIN_LUTHER_KING_JR w_WASHINGTONS_BIRTHDAY w_MEMORIAL_DAY w_INDEPENDENCE_DAY w_LABOR_DAY w_COLUMBUS_DAY w_VETERANS_DAY w_THANKSGIVING_DAY w_CHRISTMAS_DAY w_JUNETEENTH h0 n0 _ T3.heap _
    rw [e3]
    exact ⟨rfl, N3⟩
theorem ef_0_Ott (m : MethodId) (x0 : Int32) (x1 : Int32) : entryFrame m #[(.int x0), (.int x1)] maxLocals = mkF m 0 #[.val (.int x0), .val (.int x1), .unset, .unset, .unset, .unset, .unset] [] := by first | (simp [entryFrame, mkF, argsToLocals, Value.category, maxLocals]; done) | rfl
def Q0_Ott (Z : State) (vi0 : Int32) (vi1 : Int32) (w_NEW_YEARS_DAY : Addr) (w_BIRTHDAY_OF_MARTIN_LUTHER_KING_JR : Addr) (w_WASHINGTONS_BIRTHDAY : Addr) (w_MEMORIAL_DAY : Addr) (w_INDEPENDENCE_DAY : Addr) (w_LABOR_DAY : Addr) (w_COLUMBUS_DAY : Addr) (w_VETERANS_DAY : Addr) (w_THANKSGIVING_DAY : Addr) (w_CHRISTMAS_DAY : Addr) (w_JUNETEENTH : Addr) (h0 : Heap) (n0 : Nat) (v : Option Value) (h : Heap) (L : List Loc) : Prop := v = some (.int (1 : Int32)) ∧ Fr n0 L
set_option maxRecDepth 65536 in
set_option maxHeartbeats 40000000 in
theorem rm0_Ott (l : Launch) (Z : State) (a0 : Array Value) (hw : ∀ d ∈ tables_1, d.before a0 Z = true) (ws : List Jvm.Cond) (vi0 : Int32) (vi1 : Int32) (w_NEW_YEARS_DAY : Addr) (w_BIRTHDAY_OF_MARTIN_LUTHER_KING_JR : Addr) (w_WASHINGTONS_BIRTHDAY : Addr) (w_MEMORIAL_DAY : Addr) (w_INDEPENDENCE_DAY : Addr) (w_LABOR_DAY : Addr) (w_COLUMBUS_DAY : Addr) (w_VETERANS_DAY : Addr) (w_THANKSGIVING_DAY : Addr) (w_CHRISTMAS_DAY : Addr) (w_JUNETEENTH : Addr) (h0 : Heap) (n0 : Nat) (Z0 : n0 ≤ h0.size) (c8_hO : ¬ ((((vi0.toUInt32 >>> ((1 : Int32) &&& 31).toUInt32).toInt32) % (11 : Int32)) = (4 : Int32))) (E_w_NEW_YEARS_DAY : Exa Z Z.heap w_NEW_YEARS_DAY "com/example/lintel/lintel/calendar/FederalHoliday") (F_firstYear_w_NEW_YEARS_DAY : Fld Z Z.heap w_NEW_YEARS_DAY "com/example/lintel/lintel/calendar/FederalHoliday" "firstYear" "I" (.int (1986 : Int32))) (nJ_w_NEW_YEARS_DAY : ¬ (w_NEW_YEARS_DAY = w_JUNETEENTH)) (S_NEW_YEARS_DAY : Sta Z Z.heap "com/example/lintel/lintel/calendar/FederalHoliday" "NEW_YEARS_DAY" "Lcom/example/lintel/lintel/calendar/FederalHoliday;" (.ref w_NEW_YEARS_DAY)) (O0 : Old Z n0 h0) (E_w_BIRTHDAY_OF_MARTIN_LUTHER_KING_JR : Exa Z Z.heap w_BIRTHDAY_OF_MARTIN_LUTHER_KING_JR "com/example/lintel/lintel/calendar/FederalHoliday") (F_firstYear_w_BIRTHDAY_OF_MARTIN_LUTHER_KING_JR : Fld Z Z.heap w_BIRTHDAY_OF_MARTIN_LUTHER_KING_JR "com/example/lintel/lintel/calendar/FederalHoliday" "firstYear" "I" (.int (1986 : Int32))) (nJ_w_BIRTHDAY_OF_MARTIN_LUTHER_KING_JR : ¬ (w_BIRTHDAY_OF_MARTIN_LUTHER_KING_JR = w_JUNETEENTH)) (S_BIRTHDAY_OF_MARTIN_LUTHER_KING_JR : Sta Z Z.heap "com/example/lintel/lintel/calendar/FederalHoliday" "BIRTHDAY_OF_MARTIN_LUTHER_KING_JR" "Lcom/example/lintel/lintel/calendar/FederalHoliday;" (.ref w_BIRTHDAY_OF_MARTIN_LUTHER_KING_JR)) (E_w_WASHINGTONS_BIRTHDAY : Exa Z Z.heap w_WASHINGTONS_BIRTHDAY "com/example/lintel/lintel/calendar/FederalHoliday") (F_firstYear_w_WASHINGTONS_BIRTHDAY : Fld Z Z.heap w_WASHINGTONS_BIRTHDAY "com/example/lintel/lintel/calendar/FederalHoliday" "firstYear" "I" (.int (1986 : Int32))) (nJ_w_WASHINGTONS_BIRTHDAY : ¬ (w_WASHINGTONS_BIRTHDAY = w_JUNETEENTH)) (S_WASHINGTONS_BIRTHDAY : Sta Z Z.heap "com/example/lintel/lintel/calendar/FederalHoliday" "WASHINGTONS_BIRTHDAY" "Lcom/example/lintel/lintel/calendar/FederalHoliday;" (.ref w_WASHINGTONS_BIRTHDAY)) (E_w_MEMORIAL_DAY : Exa Z Z.heap w_MEMORIAL_DAY "com/example/lintel/lintel/calendar/FederalHoliday") (F_firstYear_w_MEMORIAL_DAY : Fld Z Z.heap w_MEMORIAL_DAY "com/example/lintel/lintel/calendar/FederalHoliday" "firstYear" "I" (.int (1986 : Int32))) (nJ_w_MEMORIAL_DAY : ¬ (w_MEMORIAL_DAY = w_JUNETEENTH)) (S_MEMORIAL_DAY : Sta Z Z.heap "com/example/lintel/lintel/calendar/FederalHoliday" "MEMORIAL_DAY" "Lcom/example/lintel/lintel/calendar/FederalHoliday;" (.ref w_MEMORIAL_DAY)) (E_w_INDEPENDENCE_DAY : Exa Z Z.heap w_INDEPENDENCE_DAY "com/example/lintel/lintel/calendar/FederalHoliday") (F_firstYear_w_INDEPENDENCE_DAY : Fld Z Z.heap w_INDEPENDENCE_DAY "com/example/lintel/lintel/calendar/FederalHoliday" "firstYear" "I" (.int (1986 : Int32))) (nJ_w_INDEPENDENCE_DAY : ¬ (w_INDEPENDENCE_DAY = w_JUNETEENTH)) (S_INDEPENDENCE_DAY : Sta Z Z.heap "com/example/lintel/lintel/calendar/FederalHoliday" "INDEPENDENCE_DAY" "Lcom/example/lintel/lintel/calendar/FederalHoliday;" (.ref w_INDEPENDENCE_DAY)) (E_w_LABOR_DAY : Exa Z Z.heap w_LABOR_DAY "com/example/lintel/lintel/calendar/FederalHoliday") (F_firstYear_w_LABOR_DAY : Fld Z Z.heap w_LABOR_DAY "com/example/lintel/lintel/calendar/FederalHoliday" "firstYear" "I" (.int (1986 : Int32))) (nJ_w_LABOR_DAY : ¬ (w_LABOR_DAY = w_JUNETEENTH)) (S_LABOR_DAY : Sta Z Z.heap "com/example/lintel/lintel/calendar/FederalHoliday" "LABOR_DAY" "Lcom/example/lintel/lintel/calendar/FederalHoliday;" (.ref w_LABOR_DAY)) (E_w_COLUMBUS_DAY : Exa Z Z.heap w_COLUMBUS_DAY "com/example/lintel/lintel/calendar/FederalHoliday") (F_firstYear_w_COLUMBUS_DAY : Fld Z Z.heap w_COLUMBUS_DAY "com/example/lintel/lintel/calendar/FederalHoliday" "firstYear" "I" (.int (1986 : Int32))) (nJ_w_COLUMBUS_DAY : ¬ (w_COLUMBUS_DAY = w_JUNETEENTH)) (S_COLUMBUS_DAY : Sta Z Z.heap "com/example/lintel/lintel/calendar/FederalHoliday" "COLUMBUS_DAY" "Lcom/example/lintel/lintel/calendar/FederalHoliday;" (.ref w_COLUMBUS_DAY)) (E_w_VETERANS_DAY : Exa Z Z.heap w_VETERANS_DAY "com/example/lintel/lintel/calendar/FederalHoliday") (F_firstYear_w_VETERANS_DAY : Fld Z Z.heap w_VETERANS_DAY "com/example/lintel/lintel/calendar/FederalHoliday" "firstYear" "I" (.int (1986 : Int32))) (nJ_w_VETERANS_DAY : ¬ (w_VETERANS_DAY = w_JUNETEENTH)) (S_VETERANS_DAY : Sta Z Z.heap "com/example/lintel/lintel/calendar/FederalHoliday" "VETERANS_DAY" "Lcom/example/lintel/lintel/calendar/FederalHoliday;" (.ref w_VETERANS_DAY)) (E_w_THANKSGIVING_DAY : Exa Z Z.heap w_THANKSGIVING_DAY "com/example/lintel/lintel/calendar/FederalHoliday") (F_firstYear_w_THANKSGIVING_DAY : Fld Z Z.heap w_THANKSGIVING_DAY "com/example/lintel/lintel/calendar/FederalHoliday" "firstYear" "I" (.int (1986 : Int32))) (nJ_w_THANKSGIVING_DAY : ¬ (w_THANKSGIVING_DAY = w_JUNETEENTH)) (S_THANKSGIVING_DAY : Sta Z Z.heap "com/example/lintel/lintel/calendar/FederalHoliday" "THANKSGIVING_DAY" "Lcom/example/lintel/lintel/calendar/FederalHoliday;" (.ref w_THANKSGIVING_DAY)) (E_w_CHRISTMAS_DAY : Exa Z Z.heap w_CHRISTMAS_DAY "com/example/lintel/lintel/calendar/FederalHoliday") (F_firstYear_w_CHRISTMAS_DAY : Fld Z Z.heap w_CHRISTMAS_DAY "com/example/lintel/lintel/calendar/FederalHoliday" "firstYear" "I" (.int (1986 : Int32))) (nJ_w_CHRISTMAS_DAY : ¬ (w_CHRISTMAS_DAY = w_JUNETEENTH)) (S_CHRISTMAS_DAY : Sta Z Z.heap "com/example/lintel/lintel/calendar/FederalHoliday" "CHRISTMAS_DAY" "Lcom/example/lintel/lintel/calendar/FederalHoliday;" (.ref w_CHRISTMAS_DAY)) (S_JUNETEENTH : Sta Z Z.heap "com/example/lintel/lintel/calendar/FederalHoliday" "JUNETEENTH" "Lcom/example/lintel/lintel/calendar/FederalHoliday;" (.ref w_JUNETEENTH)) (hc33 : ¬ ((vi0 &&& (1 : Int32)) = (0 : Int32))) (hc55 : ((1986 : Int32) + ((vi1 &&& (7 : Int32)) - (4 : Int32))) < (1986 : Int32)) :
    MetFree l x (head1 (Jvm.Cond.code x code maxLocals ret :: ws) room_1) (fun a U => a = #[(.int vi0), (.int vi1)] ∧ Z.Warmed39 U.vm ∧ U.heap = h0) (fun _ _ _ _ _ => True) (fun _ U o U' => ∃ v L, o = .returned v ∧ Q0_Ott Z vi0 vi1 w_NEW_YEARS_DAY w_BIRTHDAY_OF_MARTIN_LUTHER_KING_JR w_WASHINGTONS_BIRTHDAY w_MEMORIAL_DAY w_INDEPENDENCE_DAY w_LABOR_DAY w_COLUMBUS_DAY w_VETERANS_DAY w_THANKSGIVING_DAY w_CHRISTMAS_DAY w_JUNETEENTH h0 n0 v U'.heap L ∧ FrameEnd U o U' L room_1.cells room_1.slots) := by
  refine MetFree.of_bodySF (plainFor_of_name pn_com_example_lintel_lintel_calendar_FederalHolidayKeptInPinLaw) hisR ?_
  intro p e s m args below meth c s₁ Bd hml0 hP hK
  obtain ⟨rfl, hZ, hh⟩ := hP
  have hx := Bd.exec
  have hby := Bd.bytes
  have hml : c.maxLocals = 7 := hml0
  have hown : s.vm.findClass "com/example/lintel/lintel/calendar/FederalHolidayKeptInPinLaw" = some m.cls := findClass_of_methodNamed Bd.named
  have hnm := (name_of_methodNamed Bd.named Bd.method).1
  have X0 : Stand p l e room_1 s m #[(.int vi0), (.int vi1)] below meth c s₁ [] 0 0 := Stand.of_body Bd
  have e0 : s₁.heap = h0 := by rw [← hh, Bd.state]; rfl
  have N0 := Fr.nil n0
  have pre0 : ∀ t, Steps p.tables e below (s₁.setTop (mkF m 0 #[.val (.int vi0), .val (.int vi1), .unset, .unset, .unset, .unset, .unset] [])) t → Steps p.tables e below (s₁.setTop (entryFrame m #[(.int vi0), (.int vi1)] maxLocals)) t := fun t k => castTop (ef_0_Ott m vi0 vi1) k
  obtain ⟨_, _, ⟨T1, L1, k1, n1⟩, -, X1, ⟨Lc1, hQ1, l1, y1, z1⟩, st1⟩ := Jvm.LawKit.callS X0 hx (y := (⟨"com/example/lintel/lintel/calendar/FederalHolidayKeptInPinLaw", "pick", "(I)Lcom/example/lintel/lintel/calendar/FederalHoliday;"⟩ : MethodName)) hown (mvT hZ (wd_0 hw)) (mvT hZ (wd_1 hw)) (mvT hZ (wd_2 hw)) (mvT hZ (wd_3 hw)) (by decide) (backOf (W := 0) (rmP_O l Z a0 hw [] (((vi0.toUInt32 >>> ((1 : Int32) &&& 31).toUInt32).toInt32) % (11 : Int32)) w_JUNETEENTH w_NEW_YEARS_DAY w_BIRTHDAY_OF_MARTIN_LUTHER_KING_JR w_WASHINGTONS_BIRTHDAY w_MEMORIAL_DAY w_INDEPENDENCE_DAY w_LABOR_DAY w_COLUMBUS_DAY w_VETERANS_DAY w_THANKSGIVING_DAY w_CHRISTMAS_DAY h0 n0 Z0 c8_hO E_w_NEW_YEARS_DAY F_firstYear_w_NEW_YEARS_DAY nJ_w_NEW_YEARS_DAY S_NEW_YEARS_DAY O0 E_w_BIRTHDAY_OF_MARTIN_LUTHER_KING_JR F_firstYear_w_BIRTHDAY_OF_MARTIN_LUTHER_KING_JR nJ_w_BIRTHDAY_OF_MARTIN_LUTHER_KING_JR S_BIRTHDAY_OF_MARTIN_LUTHER_KING_JR E_w_WASHINGTONS_BIRTHDAY F_firstYear_w_WASHINGTONS_BIRTHDAY nJ_w_WASHINGTONS_BIRTHDAY S_WASHINGTONS_BIRTHDAY E_w_MEMORIAL_DAY F_firstYear_w_MEMORIAL_DAY nJ_w_MEMORIAL_DAY S_MEMORIAL_DAY E_w_INDEPENDENCE_DAY F_firstYear_w_INDEPENDENCE_DAY nJ_w_INDEPENDENCE_DAY S_INDEPENDENCE_DAY E_w_LABOR_DAY F_firstYear_w_LABOR_DAY nJ_w_LABOR_DAY S_LABOR_DAY E_w_COLUMBUS_DAY F_firstYear_w_COLUMBUS_DAY nJ_w_COLUMBUS_DAY S_COLUMBUS_DAY E_w_VETERANS_DAY F_firstYear_w_VETERANS_DAY nJ_w_VETERANS_DAY S_VETERANS_DAY E_w_THANKSGIVING_DAY F_firstYear_w_THANKSGIVING_DAY nJ_w_THANKSGIVING_DAY S_THANKSGIVING_DAY E_w_CHRISTMAS_DAY F_firstYear_w_CHRISTMAS_DAY nJ_w_CHRISTMAS_DAY S_CHRISTMAS_DAY) hZ (wd_3 hw) (wd_2 hw) (by decide) (by decide)) (g := (mkF m 8 #[.val (.int vi0), .val (.int vi1), .val (.int (((vi0.toUInt32 >>> ((1 : Int32) &&& 31).toUInt32).toInt32) % (11 : Int32))), .unset, .unset, .unset, .unset] [(.int (((vi0.toUInt32 >>> ((1 : Int32) &&& 31).toUInt32).toInt32) % (11 : Int32)))])) rfl (by rw [hml]; rfl) (argsL := [(.int (((vi0.toUInt32 >>> ((1 : Int32) &&& 31).toUInt32).toInt32) % (11 : Int32)))]) (rest := []) (lenOf pd_0 rfl) rfl (by show 2 * 0 + _ ≤ _; exact Nat.le_of_eq rfl) (hb hby at_8) (fun _ _ => ⟨rfl, e0, (by decide : 0 + 0 ≤ _), (by decide : 0 + 0 ≤ _)⟩)
  dsimp only [Pt.U, Pt.locs, Pt.cells, Pt.slots] at X1 l1 y1 z1 st1 hQ1
  subst l1 y1 z1
  obtain ⟨w1, rfl, N1q, p1_0, p1_1, p1_2, p1_3⟩ := hQ1
  have N1 := Fr.app N0 N1q
  have e1 : T1.heap = h0 := p1_0
  obtain ⟨T2, X2, e2, st2⟩ := getS2 X1 hx hZ hown (host := "") (Or.inl (wd_7 hw)) Via.refl e1 (S_JUNETEENTH.ext O0.2) (g := (mkF m 13 #[.val (.int vi0), .val (.int vi1), .val (.int (((vi0.toUInt32 >>> ((1 : Int32) &&& 31).toUInt32).toInt32) % (11 : Int32))), .val (.ref w1), .unset, .unset, .unset] [(.ref w1)])) rfl (hb hby at_13)
  obtain ⟨cq3, kq3, q3a, q3b, q3c⟩ := isOf hZ e2 (p1_1.ext O0.2)
  obtain ⟨_, _, ⟨T3, L3, k3, n3⟩, -, X3, ⟨Lc3, hQ3, l3, y3, z3⟩, st3⟩ := X2.virtualBack hx (y := (⟨"com/example/lintel/lintel/calendar/FederalHoliday", "keptIn", "(I)Z"⟩ : MethodName)) (z := (⟨"com/example/lintel/lintel/calendar/FederalHoliday", "keptIn", "(I)Z"⟩ : MethodName)) hown (mvT hZ (wd_9 hw)) (mvT hZ (wd_10 hw)) (notFace_of_selects (args := #[]) (mvT hZ (wd_12 hw))) (mvT hZ (wd_12 hw)) (mvT hZ (wd_11 hw)) (by decide) (backOf (W := 0) (rm2_t l Z a0 hw [] w1 ((1986 : Int32) + ((vi1 &&& (7 : Int32)) - (4 : Int32))) (1986 : Int32) h0 n0 Z0 (p1_2.ext O0.2) hc55) hZ (wd_13 hw) (wd_5 hw) (by decide) (by decide)) q3a q3c (g := (mkF m 68 #[.val (.int vi0), .val (.int vi1), .val (.int (((vi0.toUInt32 >>> ((1 : Int32) &&& 31).toUInt32).toInt32) % (11 : Int32))), .val (.ref w1), .val (.int (1986 : Int32)), .val (.int ((1986 : Int32) + ((vi1 &&& (7 : Int32)) - (4 : Int32)))), .val (.int (0 : Int32))] [(.int ((1986 : Int32) + ((vi1 &&& (7 : Int32)) - (4 : Int32)))), (.ref w1)])) rfl (by rw [hml]; rfl) (Steps.refl _) (argsL := [(.int ((1986 : Int32) + ((vi1 &&& (7 : Int32)) - (4 : Int32))))]) (rest := []) (lenOf pd_1 rfl) rfl (by show 2 * 0 + _ ≤ _; exact Nat.le_of_eq rfl) (hb hby at_68) (fun _ _ => ⟨rfl, e2, (by decide : 0 + 0 ≤ _), (by decide : 0 + 0 ≤ _)⟩)
  dsimp only [Pt.U, Pt.locs, Pt.cells, Pt.slots] at X3 l3 y3 z3 st3 hQ3
  subst l3 y3 z3
  obtain ⟨rfl, N3q, p3_0⟩ := hQ3
  have N3 := Fr.app N1 N3q
  have e3 : T3.heap = h0 := p3_0
  obtain ⟨fs, hr, hrun, hended, hW, hsame⟩ := X3.leave (v := some (.int (1 : Int32))) (fun h => by rw [Bd.returns] at h; cases h)
  refine ⟨_, _, pre0 _ ?_, hrun, hended, _, _, rfl, ?_, ⟨_, rfl⟩, hW, hsame.mono (by decide) (by decide)⟩
  · show Steps p.tables e below (s₁.setTop (mkF m 0 #[.val (.int vi0), .val (.int vi1), .unset, .unset, .unset, .unset, .unset] [])) _
    refine XS.iloadN X0.here hx rfl (hb hby at_0) rfl ?_
    show Steps p.tables e below (s₁.setTop (mkF m 1 #[.val (.int vi0), .val (.int vi1), .unset, .unset, .unset, .unset, .unset] [(.int vi0)])) _
    refine XS.iconst X0.here hx rfl (hb hby at_1) ?_
    show Steps p.tables e below (s₁.setTop (mkF m 2 #[.val (.int vi0), .val (.int vi1), .unset, .unset, .unset, .unset, .unset] [(.int (1 : Int32)), (.int vi0)])) _
    refine XS.iushr X0.here hx rfl (hb hby at_2) rfl ?_
    show Steps p.tables e below (s₁.setTop (mkF m 3 #[.val (.int vi0), .val (.int vi1), .unset, .unset, .unset, .unset, .unset] [(.int ((vi0.toUInt32 >>> ((1 : Int32) &&& 31).toUInt32).toInt32))])) _
    refine XS.bipush X0.here hx rfl (hb hby at_3) ?_
    show Steps p.tables e below (s₁.setTop (mkF m 5 #[.val (.int vi0), .val (.int vi1), .unset, .unset, .unset, .unset, .unset] [(.int (11 : Int32)), (.int ((vi0.toUInt32 >>> ((1 : Int32) &&& 31).toUInt32).toInt32))])) _
    refine iremM X0 hx rfl (hb hby at_5) rfl (by decide) ?_
    show Steps p.tables e below (s₁.setTop (mkF m 6 #[.val (.int vi0), .val (.int vi1), .unset, .unset, .unset, .unset, .unset] [(.int (((vi0.toUInt32 >>> ((1 : Int32) &&& 31).toUInt32).toInt32) % (11 : Int32)))])) _
    refine XS.istoreN X0.here hx rfl (hb hby at_6) rfl (l' := #[.val (.int vi0), .val (.int vi1), .val (.int (((vi0.toUInt32 >>> ((1 : Int32) &&& 31).toUInt32).toInt32) % (11 : Int32))), .unset, .unset, .unset, .unset]) rfl ?_
    show Steps p.tables e below (s₁.setTop (mkF m 7 #[.val (.int vi0), .val (.int vi1), .val (.int (((vi0.toUInt32 >>> ((1 : Int32) &&& 31).toUInt32).toInt32) % (11 : Int32))), .unset, .unset, .unset, .unset] [])) _
    refine XS.iloadN X0.here hx rfl (hb hby at_7) rfl ?_
    show Steps p.tables e below (s₁.setTop (mkF m 8 #[.val (.int vi0), .val (.int vi1), .val (.int (((vi0.toUInt32 >>> ((1 : Int32) &&& 31).toUInt32).toInt32) % (11 : Int32))), .unset, .unset, .unset, .unset] [(.int (((vi0.toUInt32 >>> ((1 : Int32) &&& 31).toUInt32).toInt32) % (11 : Int32)))])) _
    refine st1 _ ?_
    show Steps p.tables e below (T1.setTop (mkF m 11 #[.val (.int vi0), .val (.int vi1), .val (.int (((vi0.toUInt32 >>> ((1 : Int32) &&& 31).toUInt32).toInt32) % (11 : Int32))), .unset, .unset, .unset, .unset] [(.ref w1)])) _
    refine XS.astoreN X1.here hx rfl (hb hby at_11) rfl rfl (l' := #[.val (.int vi0), .val (.int vi1), .val (.int (((vi0.toUInt32 >>> ((1 : Int32) &&& 31).toUInt32).toInt32) % (11 : Int32))), .val (.ref w1), .unset, .unset, .unset]) rfl ?_
    show Steps p.tables e below (T1.setTop (mkF m 12 #[.val (.int vi0), .val (.int vi1), .val (.int (((vi0.toUInt32 >>> ((1 : Int32) &&& 31).toUInt32).toInt32) % (11 : Int32))), .val (.ref w1), .unset, .unset, .unset] [])) _
    refine XS.aloadN X1.here hx rfl (hb hby at_12) rfl rfl ?_
    show Steps p.tables e below (T1.setTop (mkF m 13 #[.val (.int vi0), .val (.int vi1), .val (.int (((vi0.toUInt32 >>> ((1 : Int32) &&& 31).toUInt32).toInt32) % (11 : Int32))), .val (.ref w1), .unset, .unset, .unset] [(.ref w1)])) _
    refine st2 _ ?_
    show Steps p.tables e below (T2.setTop (mkF m 16 #[.val (.int vi0), .val (.int vi1), .val (.int (((vi0.toUInt32 >>> ((1 : Int32) &&& 31).toUInt32).toInt32) % (11 : Int32))), .val (.ref w1), .unset, .unset, .unset] [(.ref w_JUNETEENTH), (.ref w1)])) _
    refine Jvm.RoadKit.acmp (g := (mkF m 16 #[.val (.int vi0), .val (.int vi1), .val (.int (((vi0.toUInt32 >>> ((1 : Int32) &&& 31).toUInt32).toInt32) % (11 : Int32))), .val (.ref w1), .unset, .unset, .unset] [(.ref w_JUNETEENTH), (.ref w1)])) X2 hx rfl rfl rfl (pc0 := 16) (pc' := 25) (same := false) rfl (hb hby at_16) rfl (decide_eq_false fun q => p1_3 (Value.ref.inj q)) (by decide) (by decide) ?_
    show Steps p.tables e below (T2.setTop (mkF m 25 #[.val (.int vi0), .val (.int vi1), .val (.int (((vi0.toUInt32 >>> ((1 : Int32) &&& 31).toUInt32).toInt32) % (11 : Int32))), .val (.ref w1), .unset, .unset, .unset] [])) _
    refine XS.sipush X2.here hx rfl (hb hby at_25) ?_
    show Steps p.tables e below (T2.setTop (mkF m 28 #[.val (.int vi0), .val (.int vi1), .val (.int (((vi0.toUInt32 >>> ((1 : Int32) &&& 31).toUInt32).toInt32) % (11 : Int32))), .val (.ref w1), .unset, .unset, .unset] [(.int (1986 : Int32))])) _
    refine XS.istore X2.here hx rfl (hb hby at_28) rfl (l' := #[.val (.int vi0), .val (.int vi1), .val (.int (((vi0.toUInt32 >>> ((1 : Int32) &&& 31).toUInt32).toInt32) % (11 : Int32))), .val (.ref w1), .val (.int (1986 : Int32)), .unset, .unset]) rfl ?_
    show Steps p.tables e below (T2.setTop (mkF m 30 #[.val (.int vi0), .val (.int vi1), .val (.int (((vi0.toUInt32 >>> ((1 : Int32) &&& 31).toUInt32).toInt32) % (11 : Int32))), .val (.ref w1), .val (.int (1986 : Int32)), .unset, .unset] [])) _
    refine XS.iloadN X2.here hx rfl (hb hby at_30) rfl ?_
    show Steps p.tables e below (T2.setTop (mkF m 31 #[.val (.int vi0), .val (.int vi1), .val (.int (((vi0.toUInt32 >>> ((1 : Int32) &&& 31).toUInt32).toInt32) % (11 : Int32))), .val (.ref w1), .val (.int (1986 : Int32)), .unset, .unset] [(.int vi0)])) _
    refine XS.iconst X2.here hx rfl (hb hby at_31) ?_
    show Steps p.tables e below (T2.setTop (mkF m 32 #[.val (.int vi0), .val (.int vi1), .val (.int (((vi0.toUInt32 >>> ((1 : Int32) &&& 31).toUInt32).toInt32) % (11 : Int32))), .val (.ref w1), .val (.int (1986 : Int32)), .unset, .unset] [(.int (1 : Int32)), (.int vi0)])) _
    refine XS.iand X2.here hx rfl (hb hby at_32) rfl ?_
    show Steps p.tables e below (T2.setTop (mkF m 33 #[.val (.int vi0), .val (.int vi1), .val (.int (((vi0.toUInt32 >>> ((1 : Int32) &&& 31).toUInt32).toInt32) % (11 : Int32))), .val (.ref w1), .val (.int (1986 : Int32)), .unset, .unset] [(.int (vi0 &&& (1 : Int32)))])) _
    refine XS.ifYes X2.here hx rfl (pc0 := 33) (pc' := 40) rfl (hb hby at_33) rfl ((if0 _ _).trans (feq hc33).2) (by decide) (by decide) ?_
    show Steps p.tables e below (T2.setTop (mkF m 40 #[.val (.int vi0), .val (.int vi1), .val (.int (((vi0.toUInt32 >>> ((1 : Int32) &&& 31).toUInt32).toInt32) % (11 : Int32))), .val (.ref w1), .val (.int (1986 : Int32)), .unset, .unset] [])) _
    refine XS.iload X2.here hx rfl (hb hby at_40) rfl ?_
    show Steps p.tables e below (T2.setTop (mkF m 42 #[.val (.int vi0), .val (.int vi1), .val (.int (((vi0.toUInt32 >>> ((1 : Int32) &&& 31).toUInt32).toInt32) % (11 : Int32))), .val (.ref w1), .val (.int (1986 : Int32)), .unset, .unset] [(.int (1986 : Int32))])) _
    refine XS.iloadN X2.here hx rfl (hb hby at_42) rfl ?_
    show Steps p.tables e below (T2.setTop (mkF m 43 #[.val (.int vi0), .val (.int vi1), .val (.int (((vi0.toUInt32 >>> ((1 : Int32) &&& 31).toUInt32).toInt32) % (11 : Int32))), .val (.ref w1), .val (.int (1986 : Int32)), .unset, .unset] [(.int vi1), (.int (1986 : Int32))])) _
    refine XS.bipush X2.here hx rfl (hb hby at_43) ?_
    show Steps p.tables e below (T2.setTop (mkF m 45 #[.val (.int vi0), .val (.int vi1), .val (.int (((vi0.toUInt32 >>> ((1 : Int32) &&& 31).toUInt32).toInt32) % (11 : Int32))), .val (.ref w1), .val (.int (1986 : Int32)), .unset, .unset] [(.int (7 : Int32)), (.int vi1), (.int (1986 : Int32))])) _
    refine XS.iand X2.here hx rfl (hb hby at_45) rfl ?_
    show Steps p.tables e below (T2.setTop (mkF m 46 #[.val (.int vi0), .val (.int vi1), .val (.int (((vi0.toUInt32 >>> ((1 : Int32) &&& 31).toUInt32).toInt32) % (11 : Int32))), .val (.ref w1), .val (.int (1986 : Int32)), .unset, .unset] [(.int (vi1 &&& (7 : Int32))), (.int (1986 : Int32))])) _
    refine XS.iconst X2.here hx rfl (hb hby at_46) ?_
    show Steps p.tables e below (T2.setTop (mkF m 47 #[.val (.int vi0), .val (.int vi1), .val (.int (((vi0.toUInt32 >>> ((1 : Int32) &&& 31).toUInt32).toInt32) % (11 : Int32))), .val (.ref w1), .val (.int (1986 : Int32)), .unset, .unset] [(.int (4 : Int32)), (.int (vi1 &&& (7 : Int32))), (.int (1986 : Int32))])) _
    refine XS.isub X2.here hx rfl (hb hby at_47) rfl ?_
    show Steps p.tables e below (T2.setTop (mkF m 48 #[.val (.int vi0), .val (.int vi1), .val (.int (((vi0.toUInt32 >>> ((1 : Int32) &&& 31).toUInt32).toInt32) % (11 : Int32))), .val (.ref w1), .val (.int (1986 : Int32)), .unset, .unset] [(.int ((vi1 &&& (7 : Int32)) - (4 : Int32))), (.int (1986 : Int32))])) _
    refine XS.iadd X2.here hx rfl (hb hby at_48) rfl ?_
    show Steps p.tables e below (T2.setTop (mkF m 49 #[.val (.int vi0), .val (.int vi1), .val (.int (((vi0.toUInt32 >>> ((1 : Int32) &&& 31).toUInt32).toInt32) % (11 : Int32))), .val (.ref w1), .val (.int (1986 : Int32)), .unset, .unset] [(.int ((1986 : Int32) + ((vi1 &&& (7 : Int32)) - (4 : Int32))))])) _
    refine XS.istore X2.here hx rfl (hb hby at_49) rfl (l' := #[.val (.int vi0), .val (.int vi1), .val (.int (((vi0.toUInt32 >>> ((1 : Int32) &&& 31).toUInt32).toInt32) % (11 : Int32))), .val (.ref w1), .val (.int (1986 : Int32)), .val (.int ((1986 : Int32) + ((vi1 &&& (7 : Int32)) - (4 : Int32)))), .unset]) rfl ?_
    show Steps p.tables e below (T2.setTop (mkF m 51 #[.val (.int vi0), .val (.int vi1), .val (.int (((vi0.toUInt32 >>> ((1 : Int32) &&& 31).toUInt32).toInt32) % (11 : Int32))), .val (.ref w1), .val (.int (1986 : Int32)), .val (.int ((1986 : Int32) + ((vi1 &&& (7 : Int32)) - (4 : Int32)))), .unset] [])) _
    refine XS.iload X2.here hx rfl (hb hby at_51) rfl ?_
    show Steps p.tables e below (T2.setTop (mkF m 53 #[.val (.int vi0), .val (.int vi1), .val (.int (((vi0.toUInt32 >>> ((1 : Int32) &&& 31).toUInt32).toInt32) % (11 : Int32))), .val (.ref w1), .val (.int (1986 : Int32)), .val (.int ((1986 : Int32) + ((vi1 &&& (7 : Int32)) - (4 : Int32)))), .unset] [(.int ((1986 : Int32) + ((vi1 &&& (7 : Int32)) - (4 : Int32))))])) _
    refine XS.iload X2.here hx rfl (hb hby at_53) rfl ?_
    show Steps p.tables e below (T2.setTop (mkF m 55 #[.val (.int vi0), .val (.int vi1), .val (.int (((vi0.toUInt32 >>> ((1 : Int32) &&& 31).toUInt32).toInt32) % (11 : Int32))), .val (.ref w1), .val (.int (1986 : Int32)), .val (.int ((1986 : Int32) + ((vi1 &&& (7 : Int32)) - (4 : Int32)))), .unset] [(.int (1986 : Int32)), (.int ((1986 : Int32) + ((vi1 &&& (7 : Int32)) - (4 : Int32))))])) _
    refine XS.icmpYes X2.here hx rfl (pc0 := 55) (pc' := 62) rfl (hb hby at_55) rfl (tlt hc55).1 (by decide) (by decide) ?_
    show Steps p.tables e below (T2.setTop (mkF m 62 #[.val (.int vi0), .val (.int vi1), .val (.int (((vi0.toUInt32 >>> ((1 : Int32) &&& 31).toUInt32).toInt32) % (11 : Int32))), .val (.ref w1), .val (.int (1986 : Int32)), .val (.int ((1986 : Int32) + ((vi1 &&& (7 : Int32)) - (4 : Int32)))), .unset] [])) _
    refine XS.iconst X2.here hx rfl (hb hby at_62) ?_
    show Steps p.tables e below (T2.setTop (mkF m 63 #[.val (.int vi0), .val (.int vi1), .val (.int (((vi0.toUInt32 >>> ((1 : Int32) &&& 31).toUInt32).toInt32) % (11 : Int32))), .val (.ref w1), .val (.int (1986 : Int32)), .val (.int ((1986 : Int32) + ((vi1 &&& (7 : Int32)) - (4 : Int32)))), .unset] [(.int (0 : Int32))])) _
    refine XS.istore X2.here hx rfl (hb hby at_63) rfl (l' := #[.val (.int vi0), .val (.int vi1), .val (.int (((vi0.toUInt32 >>> ((1 : Int32) &&& 31).toUInt32).toInt32) % (11 : Int32))), .val (.ref w1), .val (.int (1986 : Int32)), .val (.int ((1986 : Int32) + ((vi1 &&& (7 : Int32)) - (4 : Int32)))), .val (.int (0 : Int32))]) rfl ?_
    show Steps p.tables e below (T2.setTop (mkF m 65 #[.val (.int vi0), .val (.int vi1), .val (.int (((vi0.toUInt32 >>> ((1 : Int32) &&& 31).toUInt32).toInt32) % (11 : Int32))), .val (.ref w1), .val (.int (1986 : Int32)), .val (.int ((1986 : Int32) + ((vi1 &&& (7 : Int32)) - (4 : Int32)))), .val (.int (0 : Int32))] [])) _
    refine XS.aloadN X2.here hx rfl (hb hby at_65) rfl rfl ?_
    show Steps p.tables e below (T2.setTop (mkF m 66 #[.val (.int vi0), .val (.int vi1), .val (.int (((vi0.toUInt32 >>> ((1 : Int32) &&& 31).toUInt32).toInt32) % (11 : Int32))), .val (.ref w1), .val (.int (1986 : Int32)), .val (.int ((1986 : Int32) + ((vi1 &&& (7 : Int32)) - (4 : Int32)))), .val (.int (0 : Int32))] [(.ref w1)])) _
    refine XS.iload X2.here hx rfl (hb hby at_66) rfl ?_
    show Steps p.tables e below (T2.setTop (mkF m 68 #[.val (.int vi0), .val (.int vi1), .val (.int (((vi0.toUInt32 >>> ((1 : Int32) &&& 31).toUInt32).toInt32) % (11 : Int32))), .val (.ref w1), .val (.int (1986 : Int32)), .val (.int ((1986 : Int32) + ((vi1 &&& (7 : Int32)) - (4 : Int32)))), .val (.int (0 : Int32))] [(.int ((1986 : Int32) + ((vi1 &&& (7 : Int32)) - (4 : Int32)))), (.ref w1)])) _
    refine st3.trans ?_
    show Steps p.tables e below (T3.setTop (mkF m 71 #[.val (.int vi0), .val (.int vi1), .val (.int (((vi0.toUInt32 >>> ((1 : Int32) &&& 31).toUInt32).toInt32) % (11 : Int32))), .val (.ref w1), .val (.int (1986 : Int32)), .val (.int ((1986 : Int32) + ((vi1 &&& (7 : Int32)) - (4 : Int32)))), .val (.int (0 : Int32))] [(.int (0 : Int32))])) _
    refine XS.iload X3.here hx rfl (hb hby at_71) rfl ?_
    show Steps p.tables e below (T3.setTop (mkF m 73 #[.val (.int vi0), .val (.int vi1), .val (.int (((vi0.toUInt32 >>> ((1 : Int32) &&& 31).toUInt32).toInt32) % (11 : Int32))), .val (.ref w1), .val (.int (1986 : Int32)), .val (.int ((1986 : Int32) + ((vi1 &&& (7 : Int32)) - (4 : Int32)))), .val (.int (0 : Int32))] [(.int (0 : Int32)), (.int (0 : Int32))])) _
    refine XS.icmpNo X3.here hx rfl (hb hby at_73) rfl (teq (rfl : (0 : Int32) = (0 : Int32))).2 ?_
    show Steps p.tables e below (T3.setTop (mkF m 76 #[.val (.int vi0), .val (.int vi1), .val (.int (((vi0.toUInt32 >>> ((1 : Int32) &&& 31).toUInt32).toInt32) % (11 : Int32))), .val (.ref w1), .val (.int (1986 : Int32)), .val (.int ((1986 : Int32) + ((vi1 &&& (7 : Int32)) - (4 : Int32)))), .val (.int (0 : Int32))] [])) _
    refine XS.iconst X3.here hx rfl (hb hby at_76) ?_
    show Steps p.tables e below (T3.setTop (mkF m 77 #[.val (.int vi0), .val (.int vi1), .val (.int (((vi0.toUInt32 >>> ((1 : Int32) &&& 31).toUInt32).toInt32) % (11 : Int32))), .val (.ref w1), .val (.int (1986 : Int32)), .val (.int ((1986 : Int32) + ((vi1 &&& (7 : Int32)) - (4 : Int32)))), .val (.int (0 : Int32))] [(.int (1 : Int32))])) _
    refine XS.goto X3.here hx rfl (pc0 := 77) (pc' := 81) rfl (hb hby at_77) (by decide) (by decide) ?_
    show Steps p.tables e below (T3.setTop (mkF m 81 #[.val (.int vi0), .val (.int vi1), .val (.int (((vi0.toUInt32 >>> ((1 : Int32) &&& 31).toUInt32).toInt32) % (11 : Int32))), .val (.ref w1), .val (.int (1986 : Int32)), .val (.int ((1986 : Int32) + ((vi1 &&& (7 : Int32)) - (4 : Int32)))), .val (.int (0 : Int32))] [(.int (1 : Int32))])) _
    exact retN X3 hx (t := .boolean) Bd.returns (by simp) (hb hby at_81) hr
  · show Q0_Ott Z vi0 vi1 w_NEW_YEARS_DAY w_BIRTHDAY_OF_MARTIN_LUTHER_KING_JR w_WASHINGTONS_BIRTHDAY w_MEMORIAL_DAY w_INDEPENDENCE_DAY w_LABOR_DAY w_COLUMBUS_DAY w_VETERANS_DAY w_THANKSGIVING_DAY w_CHRISTMAS_DAY w_JUNETEENTH h0 n0 _ T3.heap _
    rw [e3]
    exact ⟨rfl, N3⟩
set_option maxRecDepth 65536 in
theorem rmL (l : Launch) (Z : State) (a0 : Array Value) (hw : ∀ d ∈ tables_1, d.before a0 Z = true) (ws : List Jvm.Cond) (vi0 : Int32) (vi1 : Int32) (w_JUNETEENTH : Addr) (w_NEW_YEARS_DAY : Addr) (w_BIRTHDAY_OF_MARTIN_LUTHER_KING_JR : Addr) (w_WASHINGTONS_BIRTHDAY : Addr) (w_MEMORIAL_DAY : Addr) (w_INDEPENDENCE_DAY : Addr) (w_LABOR_DAY : Addr) (w_COLUMBUS_DAY : Addr) (w_VETERANS_DAY : Addr) (w_THANKSGIVING_DAY : Addr) (w_CHRISTMAS_DAY : Addr) (h0 : Heap) (n0 : Nat) (Z0 : n0 ≤ h0.size) (E_w_JUNETEENTH : Exa Z Z.heap w_JUNETEENTH "com/example/lintel/lintel/calendar/FederalHoliday") (F_firstYear_w_JUNETEENTH : Fld Z Z.heap w_JUNETEENTH "com/example/lintel/lintel/calendar/FederalHoliday" "firstYear" "I" (.int (2022 : Int32))) (O0 : Old Z n0 h0) (S_JUNETEENTH : Sta Z Z.heap "com/example/lintel/lintel/calendar/FederalHoliday" "JUNETEENTH" "Lcom/example/lintel/lintel/calendar/FederalHoliday;" (.ref w_JUNETEENTH)) (E_w_NEW_YEARS_DAY : Exa Z Z.heap w_NEW_YEARS_DAY "com/example/lintel/lintel/calendar/FederalHoliday") (F_firstYear_w_NEW_YEARS_DAY : Fld Z Z.heap w_NEW_YEARS_DAY "com/example/lintel/lintel/calendar/FederalHoliday" "firstYear" "I" (.int (1986 : Int32))) (nJ_w_NEW_YEARS_DAY : ¬ (w_NEW_YEARS_DAY = w_JUNETEENTH)) (S_NEW_YEARS_DAY : Sta Z Z.heap "com/example/lintel/lintel/calendar/FederalHoliday" "NEW_YEARS_DAY" "Lcom/example/lintel/lintel/calendar/FederalHoliday;" (.ref w_NEW_YEARS_DAY)) (E_w_BIRTHDAY_OF_MARTIN_LUTHER_KING_JR : Exa Z Z.heap w_BIRTHDAY_OF_MARTIN_LUTHER_KING_JR "com/example/lintel/lintel/calendar/FederalHoliday") (F_firstYear_w_BIRTHDAY_OF_MARTIN_LUTHER_KING_JR : Fld Z Z.heap w_BIRTHDAY_OF_MARTIN_LUTHER_KING_JR "com/example/lintel/lintel/calendar/FederalHoliday" "firstYear" "I" (.int (1986 : Int32))) (nJ_w_BIRTHDAY_OF_MARTIN_LUTHER_KING_JR : ¬ (w_BIRTHDAY_OF_MARTIN_LUTHER_KING_JR = w_JUNETEENTH)) (S_BIRTHDAY_OF_MARTIN_LUTHER_KING_JR : Sta Z Z.heap "com/example/lintel/lintel/calendar/FederalHoliday" "BIRTHDAY_OF_MARTIN_LUTHER_KING_JR" "Lcom/example/lintel/lintel/calendar/FederalHoliday;" (.ref w_BIRTHDAY_OF_MARTIN_LUTHER_KING_JR)) (E_w_WASHINGTONS_BIRTHDAY : Exa Z Z.heap w_WASHINGTONS_BIRTHDAY "com/example/lintel/lintel/calendar/FederalHoliday") (F_firstYear_w_WASHINGTONS_BIRTHDAY : Fld Z Z.heap w_WASHINGTONS_BIRTHDAY "com/example/lintel/lintel/calendar/FederalHoliday" "firstYear" "I" (.int (1986 : Int32))) (nJ_w_WASHINGTONS_BIRTHDAY : ¬ (w_WASHINGTONS_BIRTHDAY = w_JUNETEENTH)) (S_WASHINGTONS_BIRTHDAY : Sta Z Z.heap "com/example/lintel/lintel/calendar/FederalHoliday" "WASHINGTONS_BIRTHDAY" "Lcom/example/lintel/lintel/calendar/FederalHoliday;" (.ref w_WASHINGTONS_BIRTHDAY)) (E_w_MEMORIAL_DAY : Exa Z Z.heap w_MEMORIAL_DAY "com/example/lintel/lintel/calendar/FederalHoliday") (F_firstYear_w_MEMORIAL_DAY : Fld Z Z.heap w_MEMORIAL_DAY "com/example/lintel/lintel/calendar/FederalHoliday" "firstYear" "I" (.int (1986 : Int32))) (nJ_w_MEMORIAL_DAY : ¬ (w_MEMORIAL_DAY = w_JUNETEENTH)) (S_MEMORIAL_DAY : Sta Z Z.heap "com/example/lintel/lintel/calendar/FederalHoliday" "MEMORIAL_DAY" "Lcom/example/lintel/lintel/calendar/FederalHoliday;" (.ref w_MEMORIAL_DAY)) (E_w_INDEPENDENCE_DAY : Exa Z Z.heap w_INDEPENDENCE_DAY "com/example/lintel/lintel/calendar/FederalHoliday") (F_firstYear_w_INDEPENDENCE_DAY : Fld Z Z.heap w_INDEPENDENCE_DAY "com/example/lintel/lintel/calendar/FederalHoliday" "firstYear" "I" (.int (1986 : Int32))) (nJ_w_INDEPENDENCE_DAY : ¬ (w_INDEPENDENCE_DAY = w_JUNETEENTH)) (S_INDEPENDENCE_DAY : Sta Z Z.heap "com/example/lintel/lintel/calendar/FederalHoliday" "INDEPENDENCE_DAY" "Lcom/example/lintel/lintel/calendar/FederalHoliday;" (.ref w_INDEPENDENCE_DAY)) (E_w_LABOR_DAY : Exa Z Z.heap w_LABOR_DAY "com/example/lintel/lintel/calendar/FederalHoliday") (F_firstYear_w_LABOR_DAY : Fld Z Z.heap w_LABOR_DAY "com/example/lintel/lintel/calendar/FederalHoliday" "firstYear" "I" (.int (1986 : Int32))) (nJ_w_LABOR_DAY : ¬ (w_LABOR_DAY = w_JUNETEENTH)) (S_LABOR_DAY : Sta Z Z.heap "com/example/lintel/lintel/calendar/FederalHoliday" "LABOR_DAY" "Lcom/example/lintel/lintel/calendar/FederalHoliday;" (.ref w_LABOR_DAY)) (E_w_COLUMBUS_DAY : Exa Z Z.heap w_COLUMBUS_DAY "com/example/lintel/lintel/calendar/FederalHoliday") (F_firstYear_w_COLUMBUS_DAY : Fld Z Z.heap w_COLUMBUS_DAY "com/example/lintel/lintel/calendar/FederalHoliday" "firstYear" "I" (.int (1986 : Int32))) (nJ_w_COLUMBUS_DAY : ¬ (w_COLUMBUS_DAY = w_JUNETEENTH)) (S_COLUMBUS_DAY : Sta Z Z.heap "com/example/lintel/lintel/calendar/FederalHoliday" "COLUMBUS_DAY" "Lcom/example/lintel/lintel/calendar/FederalHoliday;" (.ref w_COLUMBUS_DAY)) (E_w_VETERANS_DAY : Exa Z Z.heap w_VETERANS_DAY "com/example/lintel/lintel/calendar/FederalHoliday") (F_firstYear_w_VETERANS_DAY : Fld Z Z.heap w_VETERANS_DAY "com/example/lintel/lintel/calendar/FederalHoliday" "firstYear" "I" (.int (1986 : Int32))) (nJ_w_VETERANS_DAY : ¬ (w_VETERANS_DAY = w_JUNETEENTH)) (S_VETERANS_DAY : Sta Z Z.heap "com/example/lintel/lintel/calendar/FederalHoliday" "VETERANS_DAY" "Lcom/example/lintel/lintel/calendar/FederalHoliday;" (.ref w_VETERANS_DAY)) (E_w_THANKSGIVING_DAY : Exa Z Z.heap w_THANKSGIVING_DAY "com/example/lintel/lintel/calendar/FederalHoliday") (F_firstYear_w_THANKSGIVING_DAY : Fld Z Z.heap w_THANKSGIVING_DAY "com/example/lintel/lintel/calendar/FederalHoliday" "firstYear" "I" (.int (1986 : Int32))) (nJ_w_THANKSGIVING_DAY : ¬ (w_THANKSGIVING_DAY = w_JUNETEENTH)) (S_THANKSGIVING_DAY : Sta Z Z.heap "com/example/lintel/lintel/calendar/FederalHoliday" "THANKSGIVING_DAY" "Lcom/example/lintel/lintel/calendar/FederalHoliday;" (.ref w_THANKSGIVING_DAY)) (E_w_CHRISTMAS_DAY : Exa Z Z.heap w_CHRISTMAS_DAY "com/example/lintel/lintel/calendar/FederalHoliday") (F_firstYear_w_CHRISTMAS_DAY : Fld Z Z.heap w_CHRISTMAS_DAY "com/example/lintel/lintel/calendar/FederalHoliday" "firstYear" "I" (.int (1986 : Int32))) (nJ_w_CHRISTMAS_DAY : ¬ (w_CHRISTMAS_DAY = w_JUNETEENTH)) (S_CHRISTMAS_DAY : Sta Z Z.heap "com/example/lintel/lintel/calendar/FederalHoliday" "CHRISTMAS_DAY" "Lcom/example/lintel/lintel/calendar/FederalHoliday;" (.ref w_CHRISTMAS_DAY)) :
    MetFree l x (head1 (Jvm.Cond.code x code maxLocals ret :: ws) room_1) (fun a U => a = #[(.int vi0), (.int vi1)] ∧ Z.Warmed39 U.vm ∧ U.heap = h0) (fun _ _ _ _ _ => True) (fun _ U o U' => ∃ v L, o = .returned v ∧ (v = some (.int (1 : Int32)) ∧ Fr n0 L) ∧ FrameEnd U o U' L room_1.cells room_1.slots) := by
  by_cases cJ : (((vi0.toUInt32 >>> ((1 : Int32) &&& 31).toUInt32).toInt32) % (11 : Int32)) = (4 : Int32)
  · by_cases cy : (vi0 &&& (1 : Int32)) = (0 : Int32)
    · by_cases cl : vi1 < (2022 : Int32)
      · exact rm0_Jft l Z a0 hw ws vi0 vi1 w_JUNETEENTH h0 n0 Z0 E_w_JUNETEENTH F_firstYear_w_JUNETEENTH O0 cJ S_JUNETEENTH cy cl
      · exact rm0_Jff l Z a0 hw ws vi0 vi1 w_JUNETEENTH h0 n0 Z0 E_w_JUNETEENTH F_firstYear_w_JUNETEENTH O0 cJ S_JUNETEENTH cy cl
    · by_cases cl : ((2022 : Int32) + ((vi1 &&& (7 : Int32)) - (4 : Int32))) < (2022 : Int32)
      · exact rm0_Jtt l Z a0 hw ws vi0 vi1 w_JUNETEENTH h0 n0 Z0 E_w_JUNETEENTH F_firstYear_w_JUNETEENTH O0 cJ S_JUNETEENTH cy cl
      · exact rm0_Jtf l Z a0 hw ws vi0 vi1 w_JUNETEENTH h0 n0 Z0 E_w_JUNETEENTH F_firstYear_w_JUNETEENTH O0 cJ S_JUNETEENTH cy cl
  · by_cases cy : (vi0 &&& (1 : Int32)) = (0 : Int32)
    · by_cases cl : vi1 < (1986 : Int32)
      · exact rm0_Oft l Z a0 hw ws vi0 vi1 w_NEW_YEARS_DAY w_BIRTHDAY_OF_MARTIN_LUTHER_KING_JR w_WASHINGTONS_BIRTHDAY w_MEMORIAL_DAY w_INDEPENDENCE_DAY w_LABOR_DAY w_COLUMBUS_DAY w_VETERANS_DAY w_THANKSGIVING_DAY w_CHRISTMAS_DAY w_JUNETEENTH h0 n0 Z0 cJ E_w_NEW_YEARS_DAY F_firstYear_w_NEW_YEARS_DAY nJ_w_NEW_YEARS_DAY S_NEW_YEARS_DAY O0 E_w_BIRTHDAY_OF_MARTIN_LUTHER_KING_JR F_firstYear_w_BIRTHDAY_OF_MARTIN_LUTHER_KING_JR nJ_w_BIRTHDAY_OF_MARTIN_LUTHER_KING_JR S_BIRTHDAY_OF_MARTIN_LUTHER_KING_JR E_w_WASHINGTONS_BIRTHDAY F_firstYear_w_WASHINGTONS_BIRTHDAY nJ_w_WASHINGTONS_BIRTHDAY S_WASHINGTONS_BIRTHDAY E_w_MEMORIAL_DAY F_firstYear_w_MEMORIAL_DAY nJ_w_MEMORIAL_DAY S_MEMORIAL_DAY E_w_INDEPENDENCE_DAY F_firstYear_w_INDEPENDENCE_DAY nJ_w_INDEPENDENCE_DAY S_INDEPENDENCE_DAY E_w_LABOR_DAY F_firstYear_w_LABOR_DAY nJ_w_LABOR_DAY S_LABOR_DAY E_w_COLUMBUS_DAY F_firstYear_w_COLUMBUS_DAY nJ_w_COLUMBUS_DAY S_COLUMBUS_DAY E_w_VETERANS_DAY F_firstYear_w_VETERANS_DAY nJ_w_VETERANS_DAY S_VETERANS_DAY E_w_THANKSGIVING_DAY F_firstYear_w_THANKSGIVING_DAY nJ_w_THANKSGIVING_DAY S_THANKSGIVING_DAY E_w_CHRISTMAS_DAY F_firstYear_w_CHRISTMAS_DAY nJ_w_CHRISTMAS_DAY S_CHRISTMAS_DAY S_JUNETEENTH cy cl
      · exact rm0_Off l Z a0 hw ws vi0 vi1 w_NEW_YEARS_DAY w_BIRTHDAY_OF_MARTIN_LUTHER_KING_JR w_WASHINGTONS_BIRTHDAY w_MEMORIAL_DAY w_INDEPENDENCE_DAY w_LABOR_DAY w_COLUMBUS_DAY w_VETERANS_DAY w_THANKSGIVING_DAY w_CHRISTMAS_DAY w_JUNETEENTH h0 n0 Z0 cJ E_w_NEW_YEARS_DAY F_firstYear_w_NEW_YEARS_DAY nJ_w_NEW_YEARS_DAY S_NEW_YEARS_DAY O0 E_w_BIRTHDAY_OF_MARTIN_LUTHER_KING_JR F_firstYear_w_BIRTHDAY_OF_MARTIN_LUTHER_KING_JR nJ_w_BIRTHDAY_OF_MARTIN_LUTHER_KING_JR S_BIRTHDAY_OF_MARTIN_LUTHER_KING_JR E_w_WASHINGTONS_BIRTHDAY F_firstYear_w_WASHINGTONS_BIRTHDAY nJ_w_WASHINGTONS_BIRTHDAY S_WASHINGTONS_BIRTHDAY E_w_MEMORIAL_DAY F_firstYear_w_MEMORIAL_DAY nJ_w_MEMORIAL_DAY S_MEMORIAL_DAY E_w_INDEPENDENCE_DAY F_firstYear_w_INDEPENDENCE_DAY nJ_w_INDEPENDENCE_DAY S_INDEPENDENCE_DAY E_w_LABOR_DAY F_firstYear_w_LABOR_DAY nJ_w_LABOR_DAY S_LABOR_DAY E_w_COLUMBUS_DAY F_firstYear_w_COLUMBUS_DAY nJ_w_COLUMBUS_DAY S_COLUMBUS_DAY E_w_VETERANS_DAY F_firstYear_w_VETERANS_DAY nJ_w_VETERANS_DAY S_VETERANS_DAY E_w_THANKSGIVING_DAY F_firstYear_w_THANKSGIVING_DAY nJ_w_THANKSGIVING_DAY S_THANKSGIVING_DAY E_w_CHRISTMAS_DAY F_firstYear_w_CHRISTMAS_DAY nJ_w_CHRISTMAS_DAY S_CHRISTMAS_DAY S_JUNETEENTH cy cl
    · by_cases cl : ((1986 : Int32) + ((vi1 &&& (7 : Int32)) - (4 : Int32))) < (1986 : Int32)
      · exact rm0_Ott l Z a0 hw ws vi0 vi1 w_NEW_YEARS_DAY w_BIRTHDAY_OF_MARTIN_LUTHER_KING_JR w_WASHINGTONS_BIRTHDAY w_MEMORIAL_DAY w_INDEPENDENCE_DAY w_LABOR_DAY w_COLUMBUS_DAY w_VETERANS_DAY w_THANKSGIVING_DAY w_CHRISTMAS_DAY w_JUNETEENTH h0 n0 Z0 cJ E_w_NEW_YEARS_DAY F_firstYear_w_NEW_YEARS_DAY nJ_w_NEW_YEARS_DAY S_NEW_YEARS_DAY O0 E_w_BIRTHDAY_OF_MARTIN_LUTHER_KING_JR F_firstYear_w_BIRTHDAY_OF_MARTIN_LUTHER_KING_JR nJ_w_BIRTHDAY_OF_MARTIN_LUTHER_KING_JR S_BIRTHDAY_OF_MARTIN_LUTHER_KING_JR E_w_WASHINGTONS_BIRTHDAY F_firstYear_w_WASHINGTONS_BIRTHDAY nJ_w_WASHINGTONS_BIRTHDAY S_WASHINGTONS_BIRTHDAY E_w_MEMORIAL_DAY F_firstYear_w_MEMORIAL_DAY nJ_w_MEMORIAL_DAY S_MEMORIAL_DAY E_w_INDEPENDENCE_DAY F_firstYear_w_INDEPENDENCE_DAY nJ_w_INDEPENDENCE_DAY S_INDEPENDENCE_DAY E_w_LABOR_DAY F_firstYear_w_LABOR_DAY nJ_w_LABOR_DAY S_LABOR_DAY E_w_COLUMBUS_DAY F_firstYear_w_COLUMBUS_DAY nJ_w_COLUMBUS_DAY S_COLUMBUS_DAY E_w_VETERANS_DAY F_firstYear_w_VETERANS_DAY nJ_w_VETERANS_DAY S_VETERANS_DAY E_w_THANKSGIVING_DAY F_firstYear_w_THANKSGIVING_DAY nJ_w_THANKSGIVING_DAY S_THANKSGIVING_DAY E_w_CHRISTMAS_DAY F_firstYear_w_CHRISTMAS_DAY nJ_w_CHRISTMAS_DAY S_CHRISTMAS_DAY S_JUNETEENTH cy cl
      · exact rm0_Otf l Z a0 hw ws vi0 vi1 w_NEW_YEARS_DAY w_BIRTHDAY_OF_MARTIN_LUTHER_KING_JR w_WASHINGTONS_BIRTHDAY w_MEMORIAL_DAY w_INDEPENDENCE_DAY w_LABOR_DAY w_COLUMBUS_DAY w_VETERANS_DAY w_THANKSGIVING_DAY w_CHRISTMAS_DAY w_JUNETEENTH h0 n0 Z0 cJ E_w_NEW_YEARS_DAY F_firstYear_w_NEW_YEARS_DAY nJ_w_NEW_YEARS_DAY S_NEW_YEARS_DAY O0 E_w_BIRTHDAY_OF_MARTIN_LUTHER_KING_JR F_firstYear_w_BIRTHDAY_OF_MARTIN_LUTHER_KING_JR nJ_w_BIRTHDAY_OF_MARTIN_LUTHER_KING_JR S_BIRTHDAY_OF_MARTIN_LUTHER_KING_JR E_w_WASHINGTONS_BIRTHDAY F_firstYear_w_WASHINGTONS_BIRTHDAY nJ_w_WASHINGTONS_BIRTHDAY S_WASHINGTONS_BIRTHDAY E_w_MEMORIAL_DAY F_firstYear_w_MEMORIAL_DAY nJ_w_MEMORIAL_DAY S_MEMORIAL_DAY E_w_INDEPENDENCE_DAY F_firstYear_w_INDEPENDENCE_DAY nJ_w_INDEPENDENCE_DAY S_INDEPENDENCE_DAY E_w_LABOR_DAY F_firstYear_w_LABOR_DAY nJ_w_LABOR_DAY S_LABOR_DAY E_w_COLUMBUS_DAY F_firstYear_w_COLUMBUS_DAY nJ_w_COLUMBUS_DAY S_COLUMBUS_DAY E_w_VETERANS_DAY F_firstYear_w_VETERANS_DAY nJ_w_VETERANS_DAY S_VETERANS_DAY E_w_THANKSGIVING_DAY F_firstYear_w_THANKSGIVING_DAY nJ_w_THANKSGIVING_DAY S_THANKSGIVING_DAY E_w_CHRISTMAS_DAY F_firstYear_w_CHRISTMAS_DAY nJ_w_CHRISTMAS_DAY S_CHRISTMAS_DAY S_JUNETEENTH cy cl
theorem wd_6 {Z : State} {a0 : Array Value} (hw : ∀ d ∈ tables_1, d.before a0 Z = true) : ((Jvm.Cond.laysStatic "com/example/lintel/lintel/calendar/FederalHoliday" "NEW_YEARS_DAY" "Lcom/example/lintel/lintel/calendar/FederalHoliday;")).before a0 Z = true := hw _ (List.mem_of_getElem? (i := 6) rfl)
theorem wd_8 {Z : State} {a0 : Array Value} (hw : ∀ d ∈ tables_1, d.before a0 Z = true) : ((Jvm.Cond.laysStatic "com/example/lintel/lintel/calendar/FederalHoliday" "JUNETEENTH" "Lcom/example/lintel/lintel/calendar/FederalHoliday;")).before a0 Z = true := hw _ (List.mem_of_getElem? (i := 8) rfl)
theorem wd_17 {Z : State} {a0 : Array Value} (hw : ∀ d ∈ tables_1, d.before a0 Z = true) : ((Jvm.Cond.laysStatic "com/example/lintel/lintel/calendar/FederalHoliday" "COLUMBUS_DAY" "Lcom/example/lintel/lintel/calendar/FederalHoliday;")).before a0 Z = true := hw _ (List.mem_of_getElem? (i := 17) rfl)
theorem wd_19 {Z : State} {a0 : Array Value} (hw : ∀ d ∈ tables_1, d.before a0 Z = true) : ((Jvm.Cond.laysStatic "com/example/lintel/lintel/calendar/FederalHoliday" "CHRISTMAS_DAY" "Lcom/example/lintel/lintel/calendar/FederalHoliday;")).before a0 Z = true := hw _ (List.mem_of_getElem? (i := 19) rfl)
theorem wd_21 {Z : State} {a0 : Array Value} (hw : ∀ d ∈ tables_1, d.before a0 Z = true) : ((Jvm.Cond.laysStatic "com/example/lintel/lintel/calendar/FederalHoliday" "BIRTHDAY_OF_MARTIN_LUTHER_KING_JR" "Lcom/example/lintel/lintel/calendar/FederalHoliday;")).before a0 Z = true := hw _ (List.mem_of_getElem? (i := 21) rfl)
theorem wd_23 {Z : State} {a0 : Array Value} (hw : ∀ d ∈ tables_1, d.before a0 Z = true) : ((Jvm.Cond.laysStatic "com/example/lintel/lintel/calendar/FederalHoliday" "MEMORIAL_DAY" "Lcom/example/lintel/lintel/calendar/FederalHoliday;")).before a0 Z = true := hw _ (List.mem_of_getElem? (i := 23) rfl)
theorem wd_25 {Z : State} {a0 : Array Value} (hw : ∀ d ∈ tables_1, d.before a0 Z = true) : ((Jvm.Cond.laysStatic "com/example/lintel/lintel/calendar/FederalHoliday" "LABOR_DAY" "Lcom/example/lintel/lintel/calendar/FederalHoliday;")).before a0 Z = true := hw _ (List.mem_of_getElem? (i := 25) rfl)
theorem wd_27 {Z : State} {a0 : Array Value} (hw : ∀ d ∈ tables_1, d.before a0 Z = true) : ((Jvm.Cond.laysStatic "com/example/lintel/lintel/calendar/FederalHoliday" "WASHINGTONS_BIRTHDAY" "Lcom/example/lintel/lintel/calendar/FederalHoliday;")).before a0 Z = true := hw _ (List.mem_of_getElem? (i := 27) rfl)
theorem wd_29 {Z : State} {a0 : Array Value} (hw : ∀ d ∈ tables_1, d.before a0 Z = true) : ((Jvm.Cond.laysStatic "com/example/lintel/lintel/calendar/FederalHoliday" "INDEPENDENCE_DAY" "Lcom/example/lintel/lintel/calendar/FederalHoliday;")).before a0 Z = true := hw _ (List.mem_of_getElem? (i := 29) rfl)
theorem wd_31 {Z : State} {a0 : Array Value} (hw : ∀ d ∈ tables_1, d.before a0 Z = true) : ((Jvm.Cond.laysStatic "com/example/lintel/lintel/calendar/FederalHoliday" "THANKSGIVING_DAY" "Lcom/example/lintel/lintel/calendar/FederalHoliday;")).before a0 Z = true := hw _ (List.mem_of_getElem? (i := 31) rfl)
theorem wd_33 {Z : State} {a0 : Array Value} (hw : ∀ d ∈ tables_1, d.before a0 Z = true) : ((Jvm.Cond.laysStatic "com/example/lintel/lintel/calendar/FederalHoliday" "VETERANS_DAY" "Lcom/example/lintel/lintel/calendar/FederalHoliday;")).before a0 Z = true := hw _ (List.mem_of_getElem? (i := 33) rfl)
set_option maxRecDepth 65536 in
set_option maxHeartbeats 40000000 in
theorem comes_1 {Post : Tables → Env → Array Value → State → Outcome → State → Prop} (hpost : ∀ tb e args s v u, (limb_1_1.after args s (.returned v) u = true ∧ limb_1_2.after args s (.returned v) u = true ∧ True) → FrameEnd s (.returned v) u (Jvm.fieldLocs frame_1_writes args s ++ Jvm.arrayLocs frame_1_arrays args s ++ Jvm.staticLocs frame_1_statics s) 0 0 → Post tb e args s (.returned v) u) :
    ArmFor flags0 classFile x code maxLocals ret World_1 tables_1 room_1 Calls_1 rest_1 Pre_1 Post := by
  intro l hfl _ _ p e ha hc hk s m args below hf hA hF happ hP
  obtain ⟨hcalls, hrest, hpre⟩ := hP
  obtain ⟨-, -, -, hnamed, -, -, -, hat⟩ := (Spec.applies_iff hf).mp happ
  obtain ⟨hg, hn⟩ := and_e (Cond.before_iff.mp (show (Jvm.Cond.and given_1 narrow_1).before args s = true from hpre))
  obtain ⟨gc, hg⟩ := and_e hg
  obtain ⟨ga0, hg⟩ := and_e hg
  have ga1 := hg
  obtain ⟨w0, w1, rfl⟩ : ∃ w0 w1 : Value, args = #[w0, w1] := by
    have hs : args.size = 2 := by simpa [Cond.value, given_1] using gc
    obtain ⟨L⟩ := args
    match L, hs with
    | [w0, w1], _ => exact ⟨w0, w1, rfl⟩
  have hw := fun d (hd : d ∈ tables_1) => atoms_spec (ws := Jvm.Cond.code x code maxLocals ret :: tables_1) hat d (List.mem_cons_of_mem _ hd)
  obtain ⟨i0, ei0⟩ := is_v ga0
  obtain rfl : w0 = (.int i0) := Option.some.inj ei0
  obtain ⟨i1, ei1⟩ := is_v ga1
  obtain rfl : w1 = (.int i1) := Option.some.inj ei1
  obtain ⟨h_0, hn⟩ := and_e hn
  obtain ⟨h_1, hn⟩ := and_e hn
  obtain ⟨h_2, hn⟩ := and_e hn
  obtain ⟨h_3, hn⟩ := and_e hn
  obtain ⟨h_4, hn⟩ := and_e hn
  obtain ⟨h_5, hn⟩ := and_e hn
  obtain ⟨h_6, hn⟩ := and_e hn
  obtain ⟨h_7, hn⟩ := and_e hn
  obtain ⟨h_8, hn⟩ := and_e hn
  obtain ⟨h_9, hn⟩ := and_e hn
  obtain ⟨h_10, hn⟩ := and_e hn
  obtain ⟨h_11, hn⟩ := and_e hn
  obtain ⟨h_12, hn⟩ := and_e hn
  obtain ⟨h_13, hn⟩ := and_e hn
  obtain ⟨h_14, hn⟩ := and_e hn
  obtain ⟨h_15, hn⟩ := and_e hn
  obtain ⟨h_16, hn⟩ := and_e hn
  obtain ⟨h_17, hn⟩ := and_e hn
  obtain ⟨h_18, hn⟩ := and_e hn
  obtain ⟨h_19, hn⟩ := and_e hn
  obtain ⟨h_20, hn⟩ := and_e hn
  obtain ⟨h_21, hn⟩ := and_e hn
  obtain ⟨h_22, hn⟩ := and_e hn
  obtain ⟨h_23, hn⟩ := and_e hn
  obtain ⟨h_24, hn⟩ := and_e hn
  obtain ⟨h_25, hn⟩ := and_e hn
  obtain ⟨h_26, hn⟩ := and_e hn
  obtain ⟨h_27, hn⟩ := and_e hn
  obtain ⟨h_28, hn⟩ := and_e hn
  obtain ⟨h_29, hn⟩ := and_e hn
  obtain ⟨h_30, hn⟩ := and_e hn
  obtain ⟨h_31, hn⟩ := and_e hn
  have h_32 := hn
  obtain ⟨a_NEW_YEARS_DAY, e_NEW_YEARS_DAY⟩ := exa_v h_0
  have S_NEW_YEARS_DAY : Sta s s.heap "com/example/lintel/lintel/calendar/FederalHoliday" "NEW_YEARS_DAY" "Lcom/example/lintel/lintel/calendar/FederalHoliday;" (.ref a_NEW_YEARS_DAY) := Sta.start e_NEW_YEARS_DAY (Or.inr ⟨(wd_5 hw), (wd_6 hw)⟩)
  have E_NEW_YEARS_DAY : Exa s s.heap a_NEW_YEARS_DAY "com/example/lintel/lintel/calendar/FederalHoliday" := Exa.start e_NEW_YEARS_DAY h_0
  obtain ⟨a_JUNETEENTH, e_JUNETEENTH⟩ := exa_v h_1
  have S_JUNETEENTH : Sta s s.heap "com/example/lintel/lintel/calendar/FederalHoliday" "JUNETEENTH" "Lcom/example/lintel/lintel/calendar/FederalHoliday;" (.ref a_JUNETEENTH) := Sta.start e_JUNETEENTH (Or.inr ⟨(wd_5 hw), (wd_8 hw)⟩)
  have E_JUNETEENTH : Exa s s.heap a_JUNETEENTH "com/example/lintel/lintel/calendar/FederalHoliday" := Exa.start e_JUNETEENTH h_1
  obtain ⟨a_COLUMBUS_DAY, e_COLUMBUS_DAY⟩ := exa_v h_5
  have S_COLUMBUS_DAY : Sta s s.heap "com/example/lintel/lintel/calendar/FederalHoliday" "COLUMBUS_DAY" "Lcom/example/lintel/lintel/calendar/FederalHoliday;" (.ref a_COLUMBUS_DAY) := Sta.start e_COLUMBUS_DAY (Or.inr ⟨(wd_5 hw), (wd_17 hw)⟩)
  have E_COLUMBUS_DAY : Exa s s.heap a_COLUMBUS_DAY "com/example/lintel/lintel/calendar/FederalHoliday" := Exa.start e_COLUMBUS_DAY h_5
  obtain ⟨a_CHRISTMAS_DAY, e_CHRISTMAS_DAY⟩ := exa_v h_8
  have S_CHRISTMAS_DAY : Sta s s.heap "com/example/lintel/lintel/calendar/FederalHoliday" "CHRISTMAS_DAY" "Lcom/example/lintel/lintel/calendar/FederalHoliday;" (.ref a_CHRISTMAS_DAY) := Sta.start e_CHRISTMAS_DAY (Or.inr ⟨(wd_5 hw), (wd_19 hw)⟩)
  have E_CHRISTMAS_DAY : Exa s s.heap a_CHRISTMAS_DAY "com/example/lintel/lintel/calendar/FederalHoliday" := Exa.start e_CHRISTMAS_DAY h_8
  obtain ⟨a_BIRTHDAY_OF_MARTIN_LUTHER_KING_JR, e_BIRTHDAY_OF_MARTIN_LUTHER_KING_JR⟩ := exa_v h_11
  have S_BIRTHDAY_OF_MARTIN_LUTHER_KING_JR : Sta s s.heap "com/example/lintel/lintel/calendar/FederalHoliday" "BIRTHDAY_OF_MARTIN_LUTHER_KING_JR" "Lcom/example/lintel/lintel/calendar/FederalHoliday;" (.ref a_BIRTHDAY_OF_MARTIN_LUTHER_KING_JR) := Sta.start e_BIRTHDAY_OF_MARTIN_LUTHER_KING_JR (Or.inr ⟨(wd_5 hw), (wd_21 hw)⟩)
  have E_BIRTHDAY_OF_MARTIN_LUTHER_KING_JR : Exa s s.heap a_BIRTHDAY_OF_MARTIN_LUTHER_KING_JR "com/example/lintel/lintel/calendar/FederalHoliday" := Exa.start e_BIRTHDAY_OF_MARTIN_LUTHER_KING_JR h_11
  obtain ⟨a_MEMORIAL_DAY, e_MEMORIAL_DAY⟩ := exa_v h_14
  have S_MEMORIAL_DAY : Sta s s.heap "com/example/lintel/lintel/calendar/FederalHoliday" "MEMORIAL_DAY" "Lcom/example/lintel/lintel/calendar/FederalHoliday;" (.ref a_MEMORIAL_DAY) := Sta.start e_MEMORIAL_DAY (Or.inr ⟨(wd_5 hw), (wd_23 hw)⟩)
  have E_MEMORIAL_DAY : Exa s s.heap a_MEMORIAL_DAY "com/example/lintel/lintel/calendar/FederalHoliday" := Exa.start e_MEMORIAL_DAY h_14
  obtain ⟨a_LABOR_DAY, e_LABOR_DAY⟩ := exa_v h_18
  have S_LABOR_DAY : Sta s s.heap "com/example/lintel/lintel/calendar/FederalHoliday" "LABOR_DAY" "Lcom/example/lintel/lintel/calendar/FederalHoliday;" (.ref a_LABOR_DAY) := Sta.start e_LABOR_DAY (Or.inr ⟨(wd_5 hw), (wd_25 hw)⟩)
  have E_LABOR_DAY : Exa s s.heap a_LABOR_DAY "com/example/lintel/lintel/calendar/FederalHoliday" := Exa.start e_LABOR_DAY h_18
  obtain ⟨a_WASHINGTONS_BIRTHDAY, e_WASHINGTONS_BIRTHDAY⟩ := exa_v h_21
  have S_WASHINGTONS_BIRTHDAY : Sta s s.heap "com/example/lintel/lintel/calendar/FederalHoliday" "WASHINGTONS_BIRTHDAY" "Lcom/example/lintel/lintel/calendar/FederalHoliday;" (.ref a_WASHINGTONS_BIRTHDAY) := Sta.start e_WASHINGTONS_BIRTHDAY (Or.inr ⟨(wd_5 hw), (wd_27 hw)⟩)
  have E_WASHINGTONS_BIRTHDAY : Exa s s.heap a_WASHINGTONS_BIRTHDAY "com/example/lintel/lintel/calendar/FederalHoliday" := Exa.start e_WASHINGTONS_BIRTHDAY h_21
  obtain ⟨a_INDEPENDENCE_DAY, e_INDEPENDENCE_DAY⟩ := exa_v h_24
  have S_INDEPENDENCE_DAY : Sta s s.heap "com/example/lintel/lintel/calendar/FederalHoliday" "INDEPENDENCE_DAY" "Lcom/example/lintel/lintel/calendar/FederalHoliday;" (.ref a_INDEPENDENCE_DAY) := Sta.start e_INDEPENDENCE_DAY (Or.inr ⟨(wd_5 hw), (wd_29 hw)⟩)
  have E_INDEPENDENCE_DAY : Exa s s.heap a_INDEPENDENCE_DAY "com/example/lintel/lintel/calendar/FederalHoliday" := Exa.start e_INDEPENDENCE_DAY h_24
  obtain ⟨a_THANKSGIVING_DAY, e_THANKSGIVING_DAY⟩ := exa_v h_27
  have S_THANKSGIVING_DAY : Sta s s.heap "com/example/lintel/lintel/calendar/FederalHoliday" "THANKSGIVING_DAY" "Lcom/example/lintel/lintel/calendar/FederalHoliday;" (.ref a_THANKSGIVING_DAY) := Sta.start e_THANKSGIVING_DAY (Or.inr ⟨(wd_5 hw), (wd_31 hw)⟩)
  have E_THANKSGIVING_DAY : Exa s s.heap a_THANKSGIVING_DAY "com/example/lintel/lintel/calendar/FederalHoliday" := Exa.start e_THANKSGIVING_DAY h_27
  obtain ⟨a_VETERANS_DAY, e_VETERANS_DAY⟩ := exa_v h_30
  have S_VETERANS_DAY : Sta s s.heap "com/example/lintel/lintel/calendar/FederalHoliday" "VETERANS_DAY" "Lcom/example/lintel/lintel/calendar/FederalHoliday;" (.ref a_VETERANS_DAY) := Sta.start e_VETERANS_DAY (Or.inr ⟨(wd_5 hw), (wd_33 hw)⟩)
  have E_VETERANS_DAY : Exa s s.heap a_VETERANS_DAY "com/example/lintel/lintel/calendar/FederalHoliday" := Exa.start e_VETERANS_DAY h_30
  have F_ordinal_NEW_YEARS_DAY : Fld s s.heap a_NEW_YEARS_DAY "java/lang/Enum" "ordinal" "I" (.int (0 : Int32)) := own_fint e_NEW_YEARS_DAY h_2
  have F_ordinal_JUNETEENTH : Fld s s.heap a_JUNETEENTH "java/lang/Enum" "ordinal" "I" (.int (4 : Int32)) := own_fint e_JUNETEENTH h_3
  have F_firstYear_NEW_YEARS_DAY : Fld s s.heap a_NEW_YEARS_DAY "com/example/lintel/lintel/calendar/FederalHoliday" "firstYear" "I" (.int (1986 : Int32)) := own_fint e_NEW_YEARS_DAY h_4
  have F_ordinal_COLUMBUS_DAY : Fld s s.heap a_COLUMBUS_DAY "java/lang/Enum" "ordinal" "I" (.int (7 : Int32)) := own_fint e_COLUMBUS_DAY h_6
  have F_firstYear_COLUMBUS_DAY : Fld s s.heap a_COLUMBUS_DAY "com/example/lintel/lintel/calendar/FederalHoliday" "firstYear" "I" (.int (1986 : Int32)) := own_fint e_COLUMBUS_DAY h_7
  have F_ordinal_CHRISTMAS_DAY : Fld s s.heap a_CHRISTMAS_DAY "java/lang/Enum" "ordinal" "I" (.int (10 : Int32)) := own_fint e_CHRISTMAS_DAY h_9
  have F_firstYear_CHRISTMAS_DAY : Fld s s.heap a_CHRISTMAS_DAY "com/example/lintel/lintel/calendar/FederalHoliday" "firstYear" "I" (.int (1986 : Int32)) := own_fint e_CHRISTMAS_DAY h_10
  have F_ordinal_BIRTHDAY_OF_MARTIN_LUTHER_KING_JR : Fld s s.heap a_BIRTHDAY_OF_MARTIN_LUTHER_KING_JR "java/lang/Enum" "ordinal" "I" (.int (1 : Int32)) := own_fint e_BIRTHDAY_OF_MARTIN_LUTHER_KING_JR h_12
  have F_firstYear_BIRTHDAY_OF_MARTIN_LUTHER_KING_JR : Fld s s.heap a_BIRTHDAY_OF_MARTIN_LUTHER_KING_JR "com/example/lintel/lintel/calendar/FederalHoliday" "firstYear" "I" (.int (1986 : Int32)) := own_fint e_BIRTHDAY_OF_MARTIN_LUTHER_KING_JR h_13
  have F_ordinal_MEMORIAL_DAY : Fld s s.heap a_MEMORIAL_DAY "java/lang/Enum" "ordinal" "I" (.int (3 : Int32)) := own_fint e_MEMORIAL_DAY h_15
  have F_firstYear_MEMORIAL_DAY : Fld s s.heap a_MEMORIAL_DAY "com/example/lintel/lintel/calendar/FederalHoliday" "firstYear" "I" (.int (1986 : Int32)) := own_fint e_MEMORIAL_DAY h_16
  have F_firstYear_JUNETEENTH : Fld s s.heap a_JUNETEENTH "com/example/lintel/lintel/calendar/FederalHoliday" "firstYear" "I" (.int (2022 : Int32)) := own_fint e_JUNETEENTH h_17
  have F_ordinal_LABOR_DAY : Fld s s.heap a_LABOR_DAY "java/lang/Enum" "ordinal" "I" (.int (6 : Int32)) := own_fint e_LABOR_DAY h_19
  have F_firstYear_LABOR_DAY : Fld s s.heap a_LABOR_DAY "com/example/lintel/lintel/calendar/FederalHoliday" "firstYear" "I" (.int (1986 : Int32)) := own_fint e_LABOR_DAY h_20
  have F_ordinal_WASHINGTONS_BIRTHDAY : Fld s s.heap a_WASHINGTONS_BIRTHDAY "java/lang/Enum" "ordinal" "I" (.int (2 : Int32)) := own_fint e_WASHINGTONS_BIRTHDAY h_22
  have F_firstYear_WASHINGTONS_BIRTHDAY : Fld s s.heap a_WASHINGTONS_BIRTHDAY "com/example/lintel/lintel/calendar/FederalHoliday" "firstYear" "I" (.int (1986 : Int32)) := own_fint e_WASHINGTONS_BIRTHDAY h_23
  have F_ordinal_INDEPENDENCE_DAY : Fld s s.heap a_INDEPENDENCE_DAY "java/lang/Enum" "ordinal" "I" (.int (5 : Int32)) := own_fint e_INDEPENDENCE_DAY h_25
  have F_firstYear_INDEPENDENCE_DAY : Fld s s.heap a_INDEPENDENCE_DAY "com/example/lintel/lintel/calendar/FederalHoliday" "firstYear" "I" (.int (1986 : Int32)) := own_fint e_INDEPENDENCE_DAY h_26
  have F_ordinal_THANKSGIVING_DAY : Fld s s.heap a_THANKSGIVING_DAY "java/lang/Enum" "ordinal" "I" (.int (9 : Int32)) := own_fint e_THANKSGIVING_DAY h_28
  have F_firstYear_THANKSGIVING_DAY : Fld s s.heap a_THANKSGIVING_DAY "com/example/lintel/lintel/calendar/FederalHoliday" "firstYear" "I" (.int (1986 : Int32)) := own_fint e_THANKSGIVING_DAY h_29
  have F_ordinal_VETERANS_DAY : Fld s s.heap a_VETERANS_DAY "java/lang/Enum" "ordinal" "I" (.int (8 : Int32)) := own_fint e_VETERANS_DAY h_31
  have F_firstYear_VETERANS_DAY : Fld s s.heap a_VETERANS_DAY "com/example/lintel/lintel/calendar/FederalHoliday" "firstYear" "I" (.int (1986 : Int32)) := own_fint e_VETERANS_DAY h_32
  obtain ⟨n, o, h1, h2, h3, _, L, rfl, ⟨rfl, N⟩, hq⟩ := rmL l s _ hw tables_1 i0 i1 a_JUNETEENTH a_NEW_YEARS_DAY a_BIRTHDAY_OF_MARTIN_LUTHER_KING_JR a_WASHINGTONS_BIRTHDAY a_MEMORIAL_DAY a_INDEPENDENCE_DAY a_LABOR_DAY a_COLUMBUS_DAY a_VETERANS_DAY a_THANKSGIVING_DAY a_CHRISTMAS_DAY s.heap s.heap.size (Nat.le_refl _) E_JUNETEENTH F_firstYear_JUNETEENTH (Old.start s) S_JUNETEENTH E_NEW_YEARS_DAY F_firstYear_NEW_YEARS_DAY (Fld.ne F_firstYear_NEW_YEARS_DAY F_firstYear_JUNETEENTH (by decide)) S_NEW_YEARS_DAY E_BIRTHDAY_OF_MARTIN_LUTHER_KING_JR F_firstYear_BIRTHDAY_OF_MARTIN_LUTHER_KING_JR (Fld.ne F_firstYear_BIRTHDAY_OF_MARTIN_LUTHER_KING_JR F_firstYear_JUNETEENTH (by decide)) S_BIRTHDAY_OF_MARTIN_LUTHER_KING_JR E_WASHINGTONS_BIRTHDAY F_firstYear_WASHINGTONS_BIRTHDAY (Fld.ne F_firstYear_WASHINGTONS_BIRTHDAY F_firstYear_JUNETEENTH (by decide)) S_WASHINGTONS_BIRTHDAY E_MEMORIAL_DAY F_firstYear_MEMORIAL_DAY (Fld.ne F_firstYear_MEMORIAL_DAY F_firstYear_JUNETEENTH (by decide)) S_MEMORIAL_DAY E_INDEPENDENCE_DAY F_firstYear_INDEPENDENCE_DAY (Fld.ne F_firstYear_INDEPENDENCE_DAY F_firstYear_JUNETEENTH (by decide)) S_INDEPENDENCE_DAY E_LABOR_DAY F_firstYear_LABOR_DAY (Fld.ne F_firstYear_LABOR_DAY F_firstYear_JUNETEENTH (by decide)) S_LABOR_DAY E_COLUMBUS_DAY F_firstYear_COLUMBUS_DAY (Fld.ne F_firstYear_COLUMBUS_DAY F_firstYear_JUNETEENTH (by decide)) S_COLUMBUS_DAY E_VETERANS_DAY F_firstYear_VETERANS_DAY (Fld.ne F_firstYear_VETERANS_DAY F_firstYear_JUNETEENTH (by decide)) S_VETERANS_DAY E_THANKSGIVING_DAY F_firstYear_THANKSGIVING_DAY (Fld.ne F_firstYear_THANKSGIVING_DAY F_firstYear_JUNETEENTH (by decide)) S_THANKSGIVING_DAY E_CHRISTMAS_DAY F_firstYear_CHRISTMAS_DAY (Fld.ne F_firstYear_CHRISTMAS_DAY F_firstYear_JUNETEENTH (by decide)) S_CHRISTMAS_DAY p e ha hc hk s m _ below hf ((Spec.applies_iff_loose hf).mp happ).1 ⟨rfl, State.Warmed39.refl s, rfl⟩ trivial
  refine ⟨n, _, h1, h2, h3, hpost _ _ _ _ _ _ ⟨Cond.after_iff.mpr rfl, Cond.after_iff.mpr (eq_i res_at (Term.int_eval (1)) rfl), trivial⟩ ⟨hq.1, hq.2.1, (hq.2.2.sift fun y hy => Or.inr (N y hy)).mono (by decide) (by decide)⟩⟩
theorem main_1_1 : Claimed_1_1 := comes_1 fun _ _ _ _ _ _ h hF => ⟨h.1, hF⟩
theorem main_1_2 : Claimed_1_2 := comes_1 fun _ _ _ _ _ _ h hF => ⟨h.2.1, hF⟩
end Jvm.Pilot.@@N@@
namespace Jvm.Pilot.@@N@@
open Jvm Jvm.ClassFile Sem Op Lib Jvm.Free Jvm.Stand Jvm.Pilot.@@N@@.Jvm.D
/-! MADE BY PROGRAM (witnessworld.py) out of the Statement's table words and the real class files: 10 classes; the members and pool entries that the words name. The judged class is class 1, her method 1. -/
namespace start1
open Jvm.ClassFile
def u (s : String) : CpInfo := .utf8 (stringToUtf16 s)
/-- a pool by its gaps: so many unusable entries, then the entry; so many at the end -/
def gap : Nat → List CpInfo → List CpInfo
  | 0, r => r
  | n + 1, r => .unusable :: gap n r
def poolList (es : List (Nat × CpInfo)) (last : Nat) : List CpInfo := es.foldr (fun e r => gap e.1 (e.2 :: r)) (gap last [])
def pool (es : List (Nat × CpInfo)) (last : Nat) : Array CpInfo := ⟨poolList es last⟩
def fileOf (pool : Array CpInfo) (this : Nat) (attrs : Array Attribute := #[]) (ms : Array MethodInfo := #[]) (fl : Nat := 33) (sup : Nat := 0) (ifs : Array Nat := #[]) (fds : Array FieldInfo := #[]) : ClassFile where
  minorVersion := 0
  majorVersion := 65
  constantPool := pool
  accessFlags := fl
  thisClass := this
  superClass := sup
  interfaces := ifs
  fields := fds
  methods := ms
  attributes := attrs
def plain (name : String) (sup : Option ClassId) : Class where
  name := name
  kind := .ordinary
  loader := none
  accessFlags := 33
  super := sup
  interfaces := #[]
  cf := none
  fields := #[]
  methods := #[]
  instanceTypes := #[]
  staticTypes := #[]
  resolved := #[]
  callSites := []
  init := .initialized
  statics := none
  mirror := none

def pool0 : Array CpInfo := pool [(5, u "<init>"), (0, u "()V"), (1, .class_ 10), (1, u "java/lang/Object")] 113

def k0m0 : Method := { name := "<init>", desc := "()V", sig := { parameters := [], returnType := none }, accessFlags := 1, code := none }
/-- java/lang/Object -/
def k0 : Class := { plain "java/lang/Object" none with
  accessFlags := 33
  interfaces := #[]
  cf := some (fileOf pool0 8 #[] #[{ accessFlags := 1, nameIndex := 5, descriptorIndex := 6, attributes := #[] }] 33 0 #[] #[])
  fields := #[]
  methods := #[k0m0]
  instanceTypes := #[]
  staticTypes := #[]
  resolved := Array.replicate 124 none
  statics := none }

def pool1 : Array CpInfo := pool [(2, .class_ 4), (1, u "java/lang/Object"), (0, u "<init>"), (0, u "()V"), (0, .methodref 8 9), (0, .class_ 10), (0, .nameAndType 11 12), (0, u "com/example/lintel/lintel/calendar/FederalHolidayKeptInPinLaw"), (0, u "pick"), (0, u "(I)Lcom/example/lintel/lintel/calendar/FederalHoliday;"), (0, .fieldref 14 15), (0, .class_ 16), (0, .nameAndType 17 18), (0, u "com/example/lintel/lintel/calendar/FederalHoliday"), (0, u "JUNETEENTH"), (0, u "Lcom/example/lintel/lintel/calendar/FederalHoliday;"), (0, .methodref 14 20), (0, .nameAndType 21 22), (0, u "keptIn"), (0, u "(I)Z"), (0, .fieldref 14 24), (0, .nameAndType 25 18), (0, u "NEW_YEARS_DAY"), (0, .fieldref 14 27), (0, .nameAndType 28 18), (0, u "BIRTHDAY_OF_MARTIN_LUTHER_KING_JR"), (0, .fieldref 14 30), (0, .nameAndType 31 18), (0, u "WASHINGTONS_BIRTHDAY"), (0, .fieldref 14 33), (0, .nameAndType 34 18), (0, u "MEMORIAL_DAY"), (0, .fieldref 14 36), (0, .nameAndType 37 18), (0, u "INDEPENDENCE_DAY"), (0, .fieldref 14 39), (0, .nameAndType 40 18), (0, u "LABOR_DAY"), (0, .fieldref 14 42), (0, .nameAndType 43 18), (0, u "COLUMBUS_DAY"), (0, .fieldref 14 45), (0, .nameAndType 46 18), (0, u "VETERANS_DAY"), (0, .fieldref 14 48), (0, .nameAndType 49 18), (0, u "THANKSGIVING_DAY"), (0, .fieldref 14 51), (0, .nameAndType 52 18), (0, u "CHRISTMAS_DAY"), (2, u "law"), (0, u "(II)Z")] 3

def k1m0 : Method := { name := "<init>", desc := "()V", sig := { parameters := [], returnType := none }, accessFlags := 2, code := none }
def k1c1 : Code := { maxStack := 3, maxLocals := 7, code := code, exceptionTable := #[], attributes := #[] }
def k1m1 : Method := { name := "law", desc := "(II)Z", sig := { parameters := [.int, .int], returnType := some .boolean }, accessFlags := 9, code := some k1c1 }
def k1c2 : Code := { maxStack := 2, maxLocals := 1, code := method_3_code, exceptionTable := #[], attributes := #[] }
def k1m2 : Method := { name := "pick", desc := "(I)Lcom/example/lintel/lintel/calendar/FederalHoliday;", sig := { parameters := [.int], returnType := some (.object "com/example/lintel/lintel/calendar/FederalHoliday") }, accessFlags := 10, code := some k1c2 }
/-- com/example/lintel/lintel/calendar/FederalHolidayKeptInPinLaw -/
def k1 : Class := { plain "com/example/lintel/lintel/calendar/FederalHolidayKeptInPinLaw" (some 0) with
  accessFlags := 49
  interfaces := #[]
  cf := some (fileOf pool1 8 #[] #[{ accessFlags := 2, nameIndex := 5, descriptorIndex := 6, attributes := #[] }, { accessFlags := 9, nameIndex := 55, descriptorIndex := 56, attributes := #[] }, { accessFlags := 10, nameIndex := 11, descriptorIndex := 12, attributes := #[] }] 49 2 #[] #[])
  fields := #[]
  methods := #[k1m0, k1m1, k1m2]
  instanceTypes := #[]
  staticTypes := #[]
  resolved := Array.replicate 60 none
  statics := none }

def pool2 : Array CpInfo := pool [(1, .class_ 2), (0, u "java/lang/constant/Constable"), (0, .class_ 4), (0, u "java/lang/Object")] 6

/-- java/lang/constant/Constable -/
def k2 : Class := { plain "java/lang/constant/Constable" (some 0) with
  accessFlags := 1537
  interfaces := #[]
  cf := some (fileOf pool2 1 #[] #[] 1537 3 #[] #[])
  fields := #[]
  methods := #[]
  instanceTypes := #[]
  staticTypes := #[]
  resolved := Array.replicate 11 none
  statics := none }

def pool3 : Array CpInfo := pool [(1, .class_ 2), (0, u "java/lang/Comparable"), (0, .class_ 4), (0, u "java/lang/Object")] 7

/-- java/lang/Comparable -/
def k3 : Class := { plain "java/lang/Comparable" (some 0) with
  accessFlags := 1537
  interfaces := #[]
  cf := some (fileOf pool3 1 #[] #[] 1537 3 #[] #[])
  fields := #[]
  methods := #[]
  instanceTypes := #[]
  staticTypes := #[]
  resolved := Array.replicate 12 none
  statics := none }

def pool4 : Array CpInfo := pool [(1, .class_ 2), (0, u "java/io/Serializable"), (0, .class_ 4), (0, u "java/lang/Object")] 2

/-- java/io/Serializable -/
def k4 : Class := { plain "java/io/Serializable" (some 0) with
  accessFlags := 1537
  interfaces := #[]
  cf := some (fileOf pool4 1 #[] #[] 1537 3 #[] #[])
  fields := #[]
  methods := #[]
  instanceTypes := #[]
  staticTypes := #[]
  resolved := Array.replicate 7 none
  statics := none }

def pool5 : Array CpInfo := pool [(2, .class_ 4), (1, u "java/lang/Enum"), (0, u "name"), (0, u "Ljava/lang/String;"), (2, u "ordinal"), (0, u "I"), (1, .class_ 14), (1, u "java/lang/Object"), (4, u "hash"), (86, .class_ 108), (1, u "java/lang/Enum$EnumDesc"), (2, .class_ 112), (0, u "java/lang/constant/Constable"), (0, .class_ 114), (0, u "java/lang/Comparable"), (0, .class_ 116), (0, u "java/io/Serializable")] 87

/-- java/lang/Enum -/
def k5 : Class := { plain "java/lang/Enum" (some 0) with
  accessFlags := 1057
  interfaces := #[2, 3, 4]
  cf := some (fileOf pool5 2 #[.nestMembers #[106]] #[] 1057 12 #[111, 113, 115] #[{ accessFlags := 18, nameIndex := 5, descriptorIndex := 6, attributes := #[] }, { accessFlags := 18, nameIndex := 9, descriptorIndex := 10, attributes := #[] }, { accessFlags := 2, nameIndex := 19, descriptorIndex := 10, attributes := #[] }])
  fields := #[{ name := "name", type := (.object "java/lang/String"), accessFlags := 18, slot := 0, constantValue := 0 }, { name := "ordinal", type := .int, accessFlags := 18, slot := 1, constantValue := 0 }, { name := "hash", type := .int, accessFlags := 2, slot := 2, constantValue := 0 }]
  methods := #[]
  instanceTypes := #[(.object "java/lang/String"), .int, .int]
  staticTypes := #[]
  resolved := Array.replicate 204 none
  statics := none }

def pool6 : Array CpInfo := pool [(1, .class_ 2), (0, u "com/example/lintel/lintel/calendar/FederalHoliday"), (2, u "NEW_YEARS_DAY"), (0, u "Lcom/example/lintel/lintel/calendar/FederalHoliday;"), (2, u "BIRTHDAY_OF_MARTIN_LUTHER_KING_JR"), (2, u "WASHINGTONS_BIRTHDAY"), (2, u "MEMORIAL_DAY"), (2, u "JUNETEENTH"), (2, u "INDEPENDENCE_DAY"), (2, u "LABOR_DAY"), (2, u "COLUMBUS_DAY"), (2, u "VETERANS_DAY"), (2, u "THANKSGIVING_DAY"), (2, u "CHRISTMAS_DAY"), (2, u "$VALUES"), (0, u "[Lcom/example/lintel/lintel/calendar/FederalHoliday;"), (6, .class_ 49), (1, u "java/lang/Enum"), (24, .fieldref 1 75), (0, .nameAndType 76 77), (0, u "firstYear"), (0, u "I"), (2, u "month"), (0, u "Ljava/time/Month;"), (2, u "inMonth"), (0, u "Ljava/time/temporal/TemporalAdjuster;"), (11, .class_ 99), (1, u "com/example/lintel/lintel/calendar/FederalHoliday$1"), (101, u "keptIn"), (0, u "(I)Z")] 31

def k6c0 : Code := { maxStack := 2, maxLocals := 2, code := prog_16_method_7_code, exceptionTable := #[], attributes := #[] }
def k6m0 : Method := { name := "keptIn", desc := "(I)Z", sig := { parameters := [.int], returnType := some .boolean }, accessFlags := 0, code := some k6c0 }
/-- com/example/lintel/lintel/calendar/FederalHoliday -/
def k6 : Class := { plain "com/example/lintel/lintel/calendar/FederalHoliday" (some 5) with
  accessFlags := 16432
  interfaces := #[]
  cf := some (fileOf pool6 1 #[.nestMembers #[97]] #[{ accessFlags := 0, nameIndex := 201, descriptorIndex := 202, attributes := #[] }] 16432 47 #[] #[{ accessFlags := 16409, nameIndex := 5, descriptorIndex := 6, attributes := #[] }, { accessFlags := 16409, nameIndex := 9, descriptorIndex := 6, attributes := #[] }, { accessFlags := 16409, nameIndex := 12, descriptorIndex := 6, attributes := #[] }, { accessFlags := 16409, nameIndex := 15, descriptorIndex := 6, attributes := #[] }, { accessFlags := 16409, nameIndex := 18, descriptorIndex := 6, attributes := #[] }, { accessFlags := 16409, nameIndex := 21, descriptorIndex := 6, attributes := #[] }, { accessFlags := 16409, nameIndex := 24, descriptorIndex := 6, attributes := #[] }, { accessFlags := 16409, nameIndex := 27, descriptorIndex := 6, attributes := #[] }, { accessFlags := 16409, nameIndex := 30, descriptorIndex := 6, attributes := #[] }, { accessFlags := 16409, nameIndex := 33, descriptorIndex := 6, attributes := #[] }, { accessFlags := 16409, nameIndex := 36, descriptorIndex := 6, attributes := #[] }, { accessFlags := 18, nameIndex := 76, descriptorIndex := 77, attributes := #[] }, { accessFlags := 18, nameIndex := 80, descriptorIndex := 81, attributes := #[] }, { accessFlags := 18, nameIndex := 84, descriptorIndex := 85, attributes := #[] }, { accessFlags := 4122, nameIndex := 39, descriptorIndex := 40, attributes := #[] }])
  fields := #[{ name := "NEW_YEARS_DAY", type := (.object "com/example/lintel/lintel/calendar/FederalHoliday"), accessFlags := 16409, slot := 0, constantValue := 0 }, { name := "BIRTHDAY_OF_MARTIN_LUTHER_KING_JR", type := (.object "com/example/lintel/lintel/calendar/FederalHoliday"), accessFlags := 16409, slot := 1, constantValue := 0 }, { name := "WASHINGTONS_BIRTHDAY", type := (.object "com/example/lintel/lintel/calendar/FederalHoliday"), accessFlags := 16409, slot := 2, constantValue := 0 }, { name := "MEMORIAL_DAY", type := (.object "com/example/lintel/lintel/calendar/FederalHoliday"), accessFlags := 16409, slot := 3, constantValue := 0 }, { name := "JUNETEENTH", type := (.object "com/example/lintel/lintel/calendar/FederalHoliday"), accessFlags := 16409, slot := 4, constantValue := 0 }, { name := "INDEPENDENCE_DAY", type := (.object "com/example/lintel/lintel/calendar/FederalHoliday"), accessFlags := 16409, slot := 5, constantValue := 0 }, { name := "LABOR_DAY", type := (.object "com/example/lintel/lintel/calendar/FederalHoliday"), accessFlags := 16409, slot := 6, constantValue := 0 }, { name := "COLUMBUS_DAY", type := (.object "com/example/lintel/lintel/calendar/FederalHoliday"), accessFlags := 16409, slot := 7, constantValue := 0 }, { name := "VETERANS_DAY", type := (.object "com/example/lintel/lintel/calendar/FederalHoliday"), accessFlags := 16409, slot := 8, constantValue := 0 }, { name := "THANKSGIVING_DAY", type := (.object "com/example/lintel/lintel/calendar/FederalHoliday"), accessFlags := 16409, slot := 9, constantValue := 0 }, { name := "CHRISTMAS_DAY", type := (.object "com/example/lintel/lintel/calendar/FederalHoliday"), accessFlags := 16409, slot := 10, constantValue := 0 }, { name := "firstYear", type := .int, accessFlags := 18, slot := 3, constantValue := 0 }, { name := "month", type := (.object "java/time/Month"), accessFlags := 18, slot := 4, constantValue := 0 }, { name := "inMonth", type := (.object "java/time/temporal/TemporalAdjuster"), accessFlags := 18, slot := 5, constantValue := 0 }, { name := "$VALUES", type := (.array (.object "com/example/lintel/lintel/calendar/FederalHoliday")), accessFlags := 4122, slot := 11, constantValue := 0 }]
  methods := #[k6m0]
  instanceTypes := #[(.object "java/lang/String"), .int, .int, .int, (.object "java/time/Month"), (.object "java/time/temporal/TemporalAdjuster")]
  staticTypes := #[(.object "com/example/lintel/lintel/calendar/FederalHoliday"), (.object "com/example/lintel/lintel/calendar/FederalHoliday"), (.object "com/example/lintel/lintel/calendar/FederalHoliday"), (.object "com/example/lintel/lintel/calendar/FederalHoliday"), (.object "com/example/lintel/lintel/calendar/FederalHoliday"), (.object "com/example/lintel/lintel/calendar/FederalHoliday"), (.object "com/example/lintel/lintel/calendar/FederalHoliday"), (.object "com/example/lintel/lintel/calendar/FederalHoliday"), (.object "com/example/lintel/lintel/calendar/FederalHoliday"), (.object "com/example/lintel/lintel/calendar/FederalHoliday"), (.object "com/example/lintel/lintel/calendar/FederalHoliday"), (.array (.object "com/example/lintel/lintel/calendar/FederalHoliday"))]
  resolved := Array.replicate 234 none
  statics := some 0 }

def pool7 : Array CpInfo := pool [(1, u "java/lang/Cloneable"), (0, .class_ 1), (0, u "java/lang/Object"), (0, .class_ 3)] 3

/-- java/lang/Cloneable -/
def k7 : Class := { plain "java/lang/Cloneable" (some 0) with
  accessFlags := 1537
  interfaces := #[]
  cf := some (fileOf pool7 2 #[] #[] 1537 4 #[] #[])
  fields := #[]
  methods := #[]
  instanceTypes := #[]
  staticTypes := #[]
  resolved := Array.replicate 8 none
  statics := none }

/-- the primitive byte -/
def k8 : Class := { plain "byte" none with kind := .primitive 'B', accessFlags := 0x411 }
/-- [B -/
def k9 : Class := { plain "[B" (some 0) with kind := .array 8 .byte, interfaces := #[7, 4], accessFlags := 1041 }

def heap : Heap := #[{ cls := 6, slots := #[.ref 1, .ref 2, .ref 3, .ref 4, .ref 5, .ref 6, .ref 7, .ref 8, .ref 9, .ref 10, .ref 11, .null], vm := .statics 6 },
  { cls := 6, slots := #[.null, .int 0, .int 0, .int 1986, .null, .null], vm := .none },
  { cls := 6, slots := #[.null, .int 1, .int 0, .int 1986, .null, .null], vm := .none },
  { cls := 6, slots := #[.null, .int 2, .int 0, .int 1986, .null, .null], vm := .none },
  { cls := 6, slots := #[.null, .int 3, .int 0, .int 1986, .null, .null], vm := .none },
  { cls := 6, slots := #[.null, .int 4, .int 0, .int 2022, .null, .null], vm := .none },
  { cls := 6, slots := #[.null, .int 5, .int 0, .int 1986, .null, .null], vm := .none },
  { cls := 6, slots := #[.null, .int 6, .int 0, .int 1986, .null, .null], vm := .none },
  { cls := 6, slots := #[.null, .int 7, .int 0, .int 1986, .null, .null], vm := .none },
  { cls := 6, slots := #[.null, .int 8, .int 0, .int 1986, .null, .null], vm := .none },
  { cls := 6, slots := #[.null, .int 9, .int 0, .int 1986, .null, .null], vm := .none },
  { cls := 6, slots := #[.null, .int 10, .int 0, .int 1986, .null, .null], vm := .none }]
def classes : Array Class := #[k0, k1, k2, k3, k4, k5, k6, k7, k8, k9]
def interned : List (Array UInt16 × Addr) := []
def slotsUsed : Nat := 78
def theMethod : MethodId := ⟨1, 1⟩
def args0 : Array Value := #[.int 5, .int 1990]
def aboutOver (below : List Frame) : State where
  vm := { classes := classes, interned := interned.toArray }
  heap := heap
  slotsUsed := slotsUsed
  threads := #[{ frames := .invoking theMethod args0 :: below }]
def below0 : List Frame := [.native { method := ⟨0, 0⟩, args := #[] }]
def about1 : State := aboutOver below0
def p0 : Program := .bare "" "" ""
def e0 : Env := launch0.env 0 0 0
theorem w_frames : about1.frames = Frame.invoking theMethod args0 :: below0 := rfl
set_option maxRecDepth 65536 in
theorem w_args : argsFit about1.vm theMethod args0 = true := by decide +kernel
set_option maxRecDepth 65536 in
theorem w_heap : heapFits about1 = true := by decide +kernel
set_option maxRecDepth 65536 in
theorem w_runnable : about1.curStatus? = some .runnable := by decide +kernel
set_option maxRecDepth 65536 in
theorem w_alone : about1.alone = true := by decide +kernel
set_option maxRecDepth 65536 in
theorem w_named : about1.methodNamed? x = some theMethod := by decide +kernel
set_option maxRecDepth 65536 in
theorem w_hears : about1.hears theMethod below0 = true := by decide +kernel
set_option maxRecDepth 65536 in
theorem w_ripe : about1.ripe theMethod args0 below0 = true := by decide +kernel
theorem w_running : about1.status = .running := rfl
set_option maxRecDepth 65536 in
theorem w_room : about1.hasRoom e0.platform room_1 = true :=
  launch0.hasRoom_least _ room_1 (by decide +kernel) (by decide +kernel) (by decide +kernel) (by decide +kernel) (by decide +kernel) (by decide +kernel)
theorem allAtoms_all (ts : List Jvm.Cond) (a : Array Jvm.Value) (st : Jvm.State) : (allAtoms ts).before a st = ts.all (fun c => c.before a st) := by
  induction ts with
  | nil => rfl
  | cons c t ih =>
    show (Jvm.Cond.and c (allAtoms t)).before a st = _
    rw [Jvm.Cond.before_and, ih, List.all_cons]
def words1 : List Jvm.Cond := Jvm.Cond.code x code maxLocals ret :: tables_1
/-- a 'code' word, met by the world's own term for the bytes: nothing is compared byte by byte -/
theorem code_word {y : MethodName} {bytes : ByteArray} {mx : Nat} {rt : Option FieldType} {a : Array Value} {s : State} {m : MethodId} {meth : Method} {c : Code} (h1 : s.methodNamed? y = some m) (h2 : s.vm.method? m = some meth) (h3 : meth.code = some c) (h4 : c.code = bytes)
    (h5 : (c.maxLocals == mx && c.exceptionTable.isEmpty && decide (c.maxStack ≤ mostOperands) && decide (meth.sig.returnType = rt) && !meth.locks && decide (parseMethodDescriptor y.desc = some meth.sig)) = true) : (Jvm.Cond.code y bytes mx rt).before a s = true := by
  simp only [Bool.and_eq_true, beq_iff_eq, Bool.not_eq_true', decide_eq_true_eq] at h5
  obtain ⟨⟨⟨⟨⟨g1, g2⟩, g3⟩, g4⟩, g5⟩, g6⟩ := h5
  simp [Cond.before, Cond.holds, Cond.value, h1, h2, h3, h4, g1, g2, g3, g4, g5, g6]
def isCode : Jvm.Cond → Bool
  | .code _ _ _ _ => true
  | _ => false
theorem all_split {L : List Jvm.Cond} {P : Jvm.Cond → Bool} (h1 : L.all (fun c => isCode c || P c) = true) (h2 : ∀ c ∈ L.filter isCode, P c = true) : L.all P = true := by
  refine List.all_eq_true.mpr fun c hc => ?_
  have h := List.all_eq_true.mp h1 c hc
  rcases Bool.eq_false_or_eq_true (isCode c) with hi | hi
  · exact h2 c (List.mem_filter.mpr ⟨hc, hi⟩)
  · simpa [hi] using h
set_option maxRecDepth 65536 in
theorem w_c0 : (Jvm.Cond.code x code maxLocals ret).before args0 about1 = true := code_word (m := ⟨1, 1⟩) (meth := k1m1) (c := k1c1) (by decide +kernel) rfl rfl rfl (by decide +kernel)
set_option maxRecDepth 65536 in
theorem w_c1 : (Jvm.Cond.code ({ cls := "com/example/lintel/lintel/calendar/FederalHolidayKeptInPinLaw", name := "pick", desc := "(I)Lcom/example/lintel/lintel/calendar/FederalHoliday;" } : Jvm.MethodName) method_3_code (1 : Nat) (Option.some (Jvm.ClassFile.FieldType.object "com/example/lintel/lintel/calendar/FederalHoliday"))).before args0 about1 = true := code_word (m := ⟨1, 2⟩) (meth := k1m2) (c := k1c2) (by decide +kernel) rfl rfl rfl (by decide +kernel)
set_option maxRecDepth 65536 in
theorem w_c2 : (Jvm.Cond.code ({ cls := "com/example/lintel/lintel/calendar/FederalHoliday", name := "keptIn", desc := "(I)Z" } : Jvm.MethodName) prog_16_method_7_code (2 : Nat) (Option.some Jvm.ClassFile.FieldType.boolean)).before args0 about1 = true := code_word (m := ⟨6, 0⟩) (meth := k6m0) (c := k6c0) (by decide +kernel) rfl rfl rfl (by decide +kernel)
def codes1 : List Jvm.Cond := [Jvm.Cond.code x code maxLocals ret, Jvm.Cond.code ({ cls := "com/example/lintel/lintel/calendar/FederalHolidayKeptInPinLaw", name := "pick", desc := "(I)Lcom/example/lintel/lintel/calendar/FederalHoliday;" } : Jvm.MethodName) method_3_code (1 : Nat) (Option.some (Jvm.ClassFile.FieldType.object "com/example/lintel/lintel/calendar/FederalHoliday")), Jvm.Cond.code ({ cls := "com/example/lintel/lintel/calendar/FederalHoliday", name := "keptIn", desc := "(I)Z" } : Jvm.MethodName) prog_16_method_7_code (2 : Nat) (Option.some Jvm.ClassFile.FieldType.boolean)]
set_option maxRecDepth 65536 in
theorem codes_eq : words1.filter isCode = codes1 := rfl
theorem w_codes : ∀ c ∈ words1.filter isCode, c.before args0 about1 = true := by
  rw [codes_eq]
  intro c hc
  simp only [codes1, List.mem_cons, List.not_mem_nil, or_false] at hc
  rcases hc with rfl | rfl | rfl
  · exact w_c0
  · exact w_c1
  · exact w_c2
set_option maxRecDepth 65536 in
theorem w_t1 : (words1.take 24).all (fun c => isCode c || c.before args0 about1) = true := by decide +kernel
set_option maxRecDepth 65536 in
theorem w_t2 : (words1.drop 24).all (fun c => isCode c || c.before args0 about1) = true := by decide +kernel
theorem w_tables : (allAtoms (Jvm.Cond.code x code maxLocals ret :: tables_1)).before args0 about1 = true := by
  rw [allAtoms_all]
  show words1.all (fun c => c.before args0 about1) = true
  refine all_split ?_ w_codes
  rw [← List.take_append_drop 24 words1, List.all_append, w_t1, w_t2]
  rfl
set_option maxRecDepth 65536 in
theorem w_case : (Jvm.Cond.and given_1 narrow_1).before args0 about1 = true := by decide +kernel
theorem w_applies : (headSpec (Jvm.Cond.code x code maxLocals ret :: tables_1) room_1).applies x e0.platform about1 = true :=
  (Spec.applies_iff w_frames).mpr ⟨w_running, w_runnable, w_alone, w_named, w_hears, w_ripe, w_room, w_tables⟩
theorem atStart : AtStart classFile x code maxLocals ret World_1 tables_1 room_1 Calls_1 rest_1 Pre_1 launch0 p0 e0 about1 theMethod args0 below0 :=
  ⟨lists_1, trivial, launch0.admits_env _ _ _, launch0.least_env, fairChoices_fair.cas, fairChoices_fair.clock, w_frames, w_args, w_heap, w_applies, trivial, trivial, w_case⟩
end start1
theorem witness_1 : WitnessClaimed_1 := ⟨start1.p0, start1.e0, start1.about1, start1.theMethod, start1.args0, start1.below0, start1.atStart⟩
end Jvm.Pilot.@@N@@
