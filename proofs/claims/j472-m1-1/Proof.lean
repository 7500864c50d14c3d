import JvmDerived
import JvmDerived.Pilot.@@N@@Statement
import JvmDerived.Pilot.@@N@@Code
set_option linter.unusedVariables false
set_option linter.unusedSimpArgs false
namespace Jvm.RoadKit
open Sem ClassFile Op Lib Jvm.Stand Jvm.Free Jvm.LawKit
section New
variable {p : Program} {l : Launch} {e : Env} {R : Room} {s : State} {m : MethodId} {args : Array Value} {below : List Frame} {meth : Method} {c : Code} {T : State} {locs : List Loc} {cells slots : Nat}
theorem retI (X : Stand p l e R s m args below meth c T locs cells slots) (hx : p.tables.exec = Jvm.exec) {pc : Nat} {Ls : Array Slot} {z : Int32} {rest : List Value} (hret : meth.sig.returnType = some .int) (hd : decode c.code pc = .ok (.ireturn, 1)) {fs : List Frame}
    (hl : ∀ (f : JFrame) (acts : List Action), f.method = m → f.locked = none → f.entered = [] → (doReturn e (T.setTop f) acts (some (.int z))).1 = T.setFrames fs) : Steps p.tables e below (T.setTop (mkF m pc Ls (.int z :: rest))) (T.setFrames fs) := by
  have hm' : T.vm.method? m = some meth := X.method'
  have hn : narrow .int (.int z) = .int z := rfl
  show Steps p.tables e below (T.setTop { method := m, pc := pc, locals := Ls, stack := _ :: rest, locked := none }) _
  jvm_step X.here [X.here.top, hx, hd, hm', hret, hn]
  first | (intro acts; rw [hl _ acts rfl rfl rfl]) | rw [hl _ _ rfl rfl rfl]
  exact Steps.refl _
end New
end Jvm.RoadKit
namespace Jvm.Pilot.@@N@@
open Jvm Jvm.ClassFile Sem Op Lib Jvm.Free Jvm.Stand Jvm.LawKit Jvm.RoadKit Bundle Jvm.Pilot.@@N@@.Jvm.D
theorem own_ne {args : Array Value} {s : State} {t1 t2 : Term} {C n d : String} {x1 x2 : Addr} {i j : Int32} (e1 : t1.eval args s none [] s = some (.ref x1)) (e2 : t2.eval args s none [] s = some (.ref x2))
    (h1 : (Cond.eq (Term.field t1 C n d) (Term.int i)).value args s none s [] = some true) (h2 : (Cond.eq (Term.field t2 C n d) (Term.int j)).value args s none s [] = some true) (hij : i ≠ j) : ¬ (x1 = x2) := by
  intro q
  subst q
  have a := eqv_i (Term.int_eval i) h1
  have b := eqv_i (Term.int_eval j) h2
  rw [fld_at e1] at a
  rw [fld_at e2] at b
  exact hij (Value.int.inj (Option.some.inj (a.symm.trans b)))
theorem own_fint {args : Array Value} {s : State} {t : Term} {C n d : String} {x : Addr} {i : Int32} (e : t.eval args s none [] s = some (.ref x)) (h : (Cond.eq (Term.field t C n d) (Term.int i)).value args s none s [] = some true) : Fld s s.heap x C n d (.int i) := by
  have a := eqv_i (Term.int_eval i) h
  rw [fld_at e] at a
  exact Fld.start a
theorem own_fnull {args : Array Value} {s : State} {t : Term} {C n d : String} {x : Addr} (e : t.eval args s none [] s = some (.ref x)) (h : (Cond.eq (Term.field t C n d) Term.null).value args s none s [] = some true) : Fld s s.heap x C n d .null := by
  have a := null_v h
  rw [fld_at e] at a
  exact Fld.start a
theorem own_fref {args : Array Value} {s : State} {t F : Term} {C n d : String} {x y : Addr} (e : t.eval args s none [] s = some (.ref x)) (hF : F.eval args s none [] s = some (.ref y)) (h : (Cond.eq (Term.field t C n d) F).value args s none s [] = some true) : Fld s s.heap x C n d (.ref y) := by
  have a : (Term.field t C n d).eval args s none [] s = some (.ref y) := by
    simp only [Cond.value, hF] at h
    cases hX : (Term.field t C n d).eval args s none [] s with
    | none => simp [hX] at h
    | some w => cases w <;> simp [hX] at h ⊢ <;> exact h
  rw [fld_at e] at a
  exact Fld.start a
theorem d1_0 : decode prog_13_method_1_code 0 = .ok (.aload_n 0, 1) := by decide +kernel
theorem d1_1 : decode prog_13_method_1_code 1 = .ok (.invokespecial 1, 3) := by decide +kernel
theorem wd_6 {Z : State} {a0 : Array Value} (hw : ∀ d ∈ tables_1, d.before a0 Z = true) : ((Jvm.Cond.methodLink "com/example/castellan/castellan/command/CommandReport" (1 : Nat) ({ cls := "java/lang/Object", name := "<init>", desc := "()V" } : Jvm.MethodName))).before a0 Z = true := hw _ (List.mem_of_getElem? (i := 6) rfl)
theorem wd_7 {Z : State} {a0 : Array Value} (hw : ∀ d ∈ tables_1, d.before a0 Z = true) : ((Jvm.Cond.instanceMethod ({ cls := "java/lang/Object", name := "<init>", desc := "()V" } : Jvm.MethodName))).before a0 Z = true := hw _ (List.mem_of_getElem? (i := 7) rfl)
theorem wd_8 {Z : State} {a0 : Array Value} (hw : ∀ d ∈ tables_1, d.before a0 Z = true) : ((Jvm.Cond.code ({ cls := "java/lang/Object", name := "<init>", desc := "()V" } : Jvm.MethodName) object_method_1_code (1 : Nat) (Option.none : Option Jvm.ClassFile.FieldType))).before a0 Z = true := hw _ (List.mem_of_getElem? (i := 8) rfl)
theorem d1_4 : decode prog_13_method_1_code 4 = .ok (.aload_n 0, 1) := by decide +kernel
theorem d1_5 : decode prog_13_method_1_code 5 = .ok (.getstatic 7, 3) := by decide +kernel
theorem wd_9 {Z : State} {a0 : Array Value} (hw : ∀ d ∈ tables_1, d.before a0 Z = true) : ((Jvm.Cond.fieldLink "com/example/castellan/castellan/command/CommandReport" (7 : Nat) "com/example/castellan/castellan/command/CommandReport$ExitCode" "SUCCESS" "Lcom/example/castellan/castellan/command/CommandReport$ExitCode;")).before a0 Z = true := hw _ (List.mem_of_getElem? (i := 9) rfl)
theorem d1_8 : decode prog_13_method_1_code 8 = .ok (.putfield 13, 3) := by decide +kernel
theorem wd_12 {Z : State} {a0 : Array Value} (hw : ∀ d ∈ tables_1, d.before a0 Z = true) : ((Jvm.Cond.fieldLink "com/example/castellan/castellan/command/CommandReport" (13 : Nat) "com/example/castellan/castellan/command/CommandReport" "exitCode" "Lcom/example/castellan/castellan/command/CommandReport$ExitCode;")).before a0 Z = true := hw _ (List.mem_of_getElem? (i := 12) rfl)
theorem wd_13 {Z : State} {a0 : Array Value} (hw : ∀ d ∈ tables_1, d.before a0 Z = true) : ((Jvm.Cond.lays "com/example/castellan/castellan/command/CommandReport" "com/example/castellan/castellan/command/CommandReport" "exitCode" "Lcom/example/castellan/castellan/command/CommandReport$ExitCode;")).before a0 Z = true := hw _ (List.mem_of_getElem? (i := 13) rfl)
theorem wd_1 {Z : State} {a0 : Array Value} (hw : ∀ d ∈ tables_1, d.before a0 Z = true) : ((Jvm.Cond.instantiable "com/example/castellan/castellan/command/CommandReport" (2 : Nat))).before a0 Z = true := hw _ (List.mem_of_getElem? (i := 1) rfl)
theorem d1_11 : decode prog_13_method_1_code 11 = .ok (.return_, 1) := by decide +kernel
theorem wd_20 {Z : State} {a0 : Array Value} (hw : ∀ d ∈ tables_1, d.before a0 Z = true) : ((Jvm.Cond.lays "com/example/castellan/castellan/command/CommandReport" "com/example/castellan/castellan/command/CommandReport" "message" "Ljava/lang/String;")).before a0 Z = true := hw _ (List.mem_of_getElem? (i := 20) rfl)
theorem sl_0 {Z : State} {a0 : Array Value} (hw : ∀ d ∈ tables_1, d.before a0 Z = true) : RoadKit.slotOf Z "com/example/castellan/castellan/command/CommandReport" "message" "Ljava/lang/String;" ≠ RoadKit.slotOf Z "com/example/castellan/castellan/command/CommandReport" "exitCode" "Lcom/example/castellan/castellan/command/CommandReport$ExitCode;" := slot_ne (Or.inl (wd_20 hw)) (Or.inl (wd_13 hw)) (by decide) (t := (.object "java/lang/String")) (t' := (.object "com/example/castellan/castellan/command/CommandReport$ExitCode")) (by decide) (by decide)
theorem pn_com_example_castellan_castellan_command_CommandReport : plainName "com/example/castellan/castellan/command/CommandReport" = true := by first | (simp [plainName, overriddenIn]; done) | decide +kernel
theorem ef_1 (m : MethodId) (x0 : Addr) : entryFrame m #[(.ref x0)] 1 = mkF m 0 #[.val (.ref x0)] [] := by first | (simp [entryFrame, mkF, argsToLocals, Value.category]; done) | rfl
def Q1 (Z : State) (vr0 : Addr) (u_message_vr0 : Value) (w_SUCCESS : Addr) (u_exitCode_vr0 : Value) (h0 : Heap) (n0 : Nat) (v : Option Value) (h : Heap) (L : List Loc) : Prop := v = none ∧ Fr n0 L ∧ Keep h0 h [vr0] ∧ Fld Z h vr0 "com/example/castellan/castellan/command/CommandReport" "exitCode" "Lcom/example/castellan/castellan/command/CommandReport$ExitCode;" (.ref w_SUCCESS) ∧ Fld Z h vr0 "com/example/castellan/castellan/command/CommandReport" "message" "Ljava/lang/String;" u_message_vr0
set_option maxRecDepth 65536 in
set_option maxHeartbeats 40000000 in
theorem rm1 (l : Launch) (Z : State) (a0 : Array Value) (hw : ∀ d ∈ tables_1, d.before a0 Z = true) (ws : List Jvm.Cond) (vr0 : Addr) (u_message_vr0 : Value) (w_SUCCESS : Addr) (u_exitCode_vr0 : Value) (h0 : Heap) (n0 : Nat) (Z0 : n0 ≤ h0.size) (F_message_vr0 : Fld Z h0 vr0 "com/example/castellan/castellan/command/CommandReport" "message" "Ljava/lang/String;" u_message_vr0) (S_SUCCESS : Sta Z Z.heap "com/example/castellan/castellan/command/CommandReport$ExitCode" "SUCCESS" "Lcom/example/castellan/castellan/command/CommandReport$ExitCode;" (.ref w_SUCCESS)) (O0 : Old Z n0 h0) (E_vr0 : Exa Z h0 vr0 "com/example/castellan/castellan/command/CommandReport") (F_exitCode_vr0 : Fld Z h0 vr0 "com/example/castellan/castellan/command/CommandReport" "exitCode" "Lcom/example/castellan/castellan/command/CommandReport$ExitCode;" u_exitCode_vr0) (g_vr0 : n0 ≤ vr0) :
    MetFree l (⟨"com/example/castellan/castellan/command/CommandReport", "<init>", "()V"⟩ : MethodName) (head1 (Jvm.Cond.code (⟨"com/example/castellan/castellan/command/CommandReport", "<init>", "()V"⟩ : MethodName) prog_13_method_1_code 1 none :: ws) ({ frames := 1, cells := 0, slots := 0, locals := 12 } : Room)) (fun a U => a = #[(.ref vr0)] ∧ Z.Warmed39 U.vm ∧ U.heap = h0) (fun _ _ _ _ _ => True) (fun _ U o U' => ∃ v L, o = .returned v ∧ Q1 Z vr0 u_message_vr0 w_SUCCESS u_exitCode_vr0 h0 n0 v U'.heap L ∧ FrameEnd U o U' L ({ frames := 1, cells := 0, slots := 0, locals := 12 } : Room).cells ({ frames := 1, cells := 0, slots := 0, locals := 12 } : Room).slots) := by
  refine MetFree.of_bodySF (plainFor_of_name pn_com_example_castellan_castellan_command_CommandReport) hisR ?_
  intro p e s m args below meth c s₁ Bd hml0 hP hK
  obtain ⟨rfl, hZ, hh⟩ := hP
  have hx := Bd.exec
  have hby := Bd.bytes
  have hml : c.maxLocals = 1 := hml0
  have hown : s.vm.findClass "com/example/castellan/castellan/command/CommandReport" = some m.cls := findClass_of_methodNamed Bd.named
  have hnm := (name_of_methodNamed Bd.named Bd.method).1
  have X0 : Stand p l e ({ frames := 1, cells := 0, slots := 0, locals := 12 } : Room) s m #[(.ref vr0)] below meth c s₁ [] 0 0 := Stand.of_body Bd
  have e0 : s₁.heap = h0 := by rw [← hh, Bd.state]; rfl
  have N0 := Fr.nil n0
  have pre0 : ∀ t, Steps p.tables e below (s₁.setTop (mkF m 0 #[.val (.ref vr0)] [])) t → Steps p.tables e below (s₁.setTop (entryFrame m #[(.ref vr0)] 1)) t := fun t k => castTop (ef_1 m vr0) k
  obtain ⟨T1, X1, e1, st1⟩ := initO X0 hx hZ hown (wd_6 hw) (wd_7 hw) (wd_8 hw) e0 (g := (mkF m 1 #[.val (.ref vr0)] [(.ref vr0)])) rfl (by rw [hml]; rfl) rfl (hb hby d1_1) (by decide) (W := 0) (by show 2 * 0 + _ ≤ _; exact Nat.le_of_eq rfl) (by decide)
  obtain ⟨T2, X2, e2, st2⟩ := getS2 X1 hx hZ hown (host := "") (Or.inl (wd_9 hw)) Via.refl e1 (S_SUCCESS.ext O0.2) (g := (mkF m 5 #[.val (.ref vr0)] [(.ref vr0)])) rfl (hb hby d1_5)
  obtain ⟨T3, h3, X3, e3, W3, st3⟩ := putF X2 hx hZ hown (host := "") (Or.inl (wd_12 hw)) Via.refl e2 F_exitCode_vr0 E_vr0 (Or.inl (wd_13 hw)) (wd_1 hw) (ty := (.object "com/example/castellan/castellan/command/CommandReport$ExitCode")) (by decide) rfl rfl (g := (mkF m 8 #[.val (.ref vr0)] [(.ref w_SUCCESS), (.ref vr0)])) rfl rfl (hb hby d1_8)
  have Fw3 := F_exitCode_vr0.same W3
  have N3 := Fr.snoc X3 N0 g_vr0
  have K3 : Keep h0 h3 [vr0] := (Keep.refl h0 [vr0]).wr W3 (Or.inl (List.mem_of_getElem? (i := 0) rfl))
  obtain ⟨fs, hr, hrun, hended, hW, hsame⟩ := X3.leave (v := none) (fun _ => rfl)
  refine ⟨_, _, pre0 _ ?_, hrun, hended, _, _, rfl, ?_, ⟨_, rfl⟩, hW, hsame.mono (by decide) (by decide)⟩
  · show Steps p.tables e below (s₁.setTop (mkF m 0 #[.val (.ref vr0)] [])) _
    refine XS.aloadN X0.here hx rfl (hb hby d1_0) rfl rfl ?_
    show Steps p.tables e below (s₁.setTop (mkF m 1 #[.val (.ref vr0)] [(.ref vr0)])) _
    refine st1 _ ?_
    show Steps p.tables e below (T1.setTop (mkF m 4 #[.val (.ref vr0)] [])) _
    refine XS.aloadN X1.here hx rfl (hb hby d1_4) rfl rfl ?_
    show Steps p.tables e below (T1.setTop (mkF m 5 #[.val (.ref vr0)] [(.ref vr0)])) _
    refine st2 _ ?_
    show Steps p.tables e below (T2.setTop (mkF m 8 #[.val (.ref vr0)] [(.ref w_SUCCESS), (.ref vr0)])) _
    refine st3 _ ?_
    show Steps p.tables e below (T3.setTop (mkF m 11 #[.val (.ref vr0)] [])) _
    exact X3.returnOut hx Bd.returns (hb hby d1_11) hr
  · show Q1 Z vr0 u_message_vr0 w_SUCCESS u_exitCode_vr0 h0 n0 _ T3.heap _
    rw [e3]
    exact ⟨rfl, N3, K3, Fw3, (F_message_vr0.other W3 (Or.inr (sl_0 hw)))⟩
theorem d3_0 : decode prog_13_method_5_code 0 = .ok (.aload_n 0, 1) := by decide +kernel
theorem d3_1 : decode prog_13_method_5_code 1 = .ok (.aload_n 1, 1) := by decide +kernel
theorem d3_2 : decode prog_13_method_5_code 2 = .ok (.putfield 25, 3) := by decide +kernel
theorem wd_19 {Z : State} {a0 : Array Value} (hw : ∀ d ∈ tables_1, d.before a0 Z = true) : ((Jvm.Cond.fieldLink "com/example/castellan/castellan/command/CommandReport" (25 : Nat) "com/example/castellan/castellan/command/CommandReport" "message" "Ljava/lang/String;")).before a0 Z = true := hw _ (List.mem_of_getElem? (i := 19) rfl)
theorem d3_5 : decode prog_13_method_5_code 5 = .ok (.return_, 1) := by decide +kernel
theorem sl_1 {Z : State} {a0 : Array Value} (hw : ∀ d ∈ tables_1, d.before a0 Z = true) : RoadKit.slotOf Z "com/example/castellan/castellan/command/CommandReport" "exitCode" "Lcom/example/castellan/castellan/command/CommandReport$ExitCode;" ≠ RoadKit.slotOf Z "com/example/castellan/castellan/command/CommandReport" "message" "Ljava/lang/String;" := slot_ne (Or.inl (wd_13 hw)) (Or.inl (wd_20 hw)) (by decide) (t := (.object "com/example/castellan/castellan/command/CommandReport$ExitCode")) (t' := (.object "java/lang/String")) (by decide) (by decide)
theorem ef_3_R (m : MethodId) (x0 : Addr) (x1 : Addr) : entryFrame m #[(.ref x0), (.ref x1)] 2 = mkF m 0 #[.val (.ref x0), .val (.ref x1)] [] := by first | (simp [entryFrame, mkF, argsToLocals, Value.category]; done) | rfl
def Q3_R (Z : State) (vr0 : Addr) (vr1 : Addr) (u_exitCode_vr0 : Value) (u_message_vr0 : Value) (h0 : Heap) (n0 : Nat) (v : Option Value) (h : Heap) (L : List Loc) : Prop := v = none ∧ Fr n0 L ∧ Keep h0 h [vr0] ∧ Fld Z h vr0 "com/example/castellan/castellan/command/CommandReport" "exitCode" "Lcom/example/castellan/castellan/command/CommandReport$ExitCode;" u_exitCode_vr0 ∧ Fld Z h vr0 "com/example/castellan/castellan/command/CommandReport" "message" "Ljava/lang/String;" (.ref vr1)
set_option maxRecDepth 65536 in
set_option maxHeartbeats 40000000 in
theorem rm3_R (l : Launch) (Z : State) (a0 : Array Value) (hw : ∀ d ∈ tables_1, d.before a0 Z = true) (ws : List Jvm.Cond) (vr0 : Addr) (vr1 : Addr) (u_exitCode_vr0 : Value) (u_message_vr0 : Value) (h0 : Heap) (n0 : Nat) (Z0 : n0 ≤ h0.size) (F_exitCode_vr0 : Fld Z h0 vr0 "com/example/castellan/castellan/command/CommandReport" "exitCode" "Lcom/example/castellan/castellan/command/CommandReport$ExitCode;" u_exitCode_vr0) (E_vr0 : Exa Z h0 vr0 "com/example/castellan/castellan/command/CommandReport") (F_message_vr0 : Fld Z h0 vr0 "com/example/castellan/castellan/command/CommandReport" "message" "Ljava/lang/String;" u_message_vr0) (g_vr0 : n0 ≤ vr0) :
    MetFree l (⟨"com/example/castellan/castellan/command/CommandReport", "setMessage", "(Ljava/lang/String;)V"⟩ : MethodName) (head1 (Jvm.Cond.code (⟨"com/example/castellan/castellan/command/CommandReport", "setMessage", "(Ljava/lang/String;)V"⟩ : MethodName) prog_13_method_5_code 2 none :: ws) ({ frames := 0, cells := 0, slots := 0, locals := 0 } : Room)) (fun a U => a = #[(.ref vr0), (.ref vr1)] ∧ Z.Warmed39 U.vm ∧ U.heap = h0) (fun _ _ _ _ _ => True) (fun _ U o U' => ∃ v L, o = .returned v ∧ Q3_R Z vr0 vr1 u_exitCode_vr0 u_message_vr0 h0 n0 v U'.heap L ∧ FrameEnd U o U' L ({ frames := 0, cells := 0, slots := 0, locals := 0 } : Room).cells ({ frames := 0, cells := 0, slots := 0, locals := 0 } : Room).slots) := by
  refine MetFree.of_bodySF (plainFor_of_name pn_com_example_castellan_castellan_command_CommandReport) hisR ?_
  intro p e s m args below meth c s₁ Bd hml0 hP hK
  obtain ⟨rfl, hZ, hh⟩ := hP
  have hx := Bd.exec
  have hby := Bd.bytes
  have hml : c.maxLocals = 2 := hml0
  have hown : s.vm.findClass "com/example/castellan/castellan/command/CommandReport" = some m.cls := findClass_of_methodNamed Bd.named
  have hnm := (name_of_methodNamed Bd.named Bd.method).1
  have X0 : Stand p l e ({ frames := 0, cells := 0, slots := 0, locals := 0 } : Room) s m #[(.ref vr0), (.ref vr1)] below meth c s₁ [] 0 0 := Stand.of_body Bd
  have e0 : s₁.heap = h0 := by rw [← hh, Bd.state]; rfl
  have N0 := Fr.nil n0
  have pre0 : ∀ t, Steps p.tables e below (s₁.setTop (mkF m 0 #[.val (.ref vr0), .val (.ref vr1)] [])) t → Steps p.tables e below (s₁.setTop (entryFrame m #[(.ref vr0), (.ref vr1)] 2)) t := fun t k => castTop (ef_3_R m vr0 vr1) k
  obtain ⟨T1, h1, X1, e1, W1, st1⟩ := putF X0 hx hZ hown (host := "") (Or.inl (wd_19 hw)) Via.refl e0 F_message_vr0 E_vr0 (Or.inl (wd_20 hw)) (wd_1 hw) (ty := (.object "java/lang/String")) (by decide) rfl rfl (g := (mkF m 2 #[.val (.ref vr0), .val (.ref vr1)] [(.ref vr1), (.ref vr0)])) rfl rfl (hb hby d3_2)
  have Fw1 := F_message_vr0.same W1
  have N1 := Fr.snoc X1 N0 g_vr0
  have K1 : Keep h0 h1 [vr0] := (Keep.refl h0 [vr0]).wr W1 (Or.inl (List.mem_of_getElem? (i := 0) rfl))
  obtain ⟨fs, hr, hrun, hended, hW, hsame⟩ := X1.leave (v := none) (fun _ => rfl)
  refine ⟨_, _, pre0 _ ?_, hrun, hended, _, _, rfl, ?_, ⟨_, rfl⟩, hW, hsame.mono (by decide) (by decide)⟩
  · show Steps p.tables e below (s₁.setTop (mkF m 0 #[.val (.ref vr0), .val (.ref vr1)] [])) _
    refine XS.aloadN X0.here hx rfl (hb hby d3_0) rfl rfl ?_
    show Steps p.tables e below (s₁.setTop (mkF m 1 #[.val (.ref vr0), .val (.ref vr1)] [(.ref vr0)])) _
    refine XS.aloadN X0.here hx rfl (hb hby d3_1) rfl rfl ?_
    show Steps p.tables e below (s₁.setTop (mkF m 2 #[.val (.ref vr0), .val (.ref vr1)] [(.ref vr1), (.ref vr0)])) _
    refine st1 _ ?_
    show Steps p.tables e below (T1.setTop (mkF m 5 #[.val (.ref vr0), .val (.ref vr1)] [])) _
    exact X1.returnOut hx Bd.returns (hb hby d3_5) hr
  · show Q3_R Z vr0 vr1 u_exitCode_vr0 u_message_vr0 h0 n0 _ T1.heap _
    rw [e1]
    exact ⟨rfl, N1, K1, (F_exitCode_vr0.other W1 (Or.inr (sl_1 hw))), Fw1⟩
theorem d8_0 : decode prog_13_method_4_code 0 = .ok (.aload_n 0, 1) := by decide +kernel
theorem d8_1 : decode prog_13_method_4_code 1 = .ok (.getfield 25, 3) := by decide +kernel
theorem d8_4 : decode prog_13_method_4_code 4 = .ok (.areturn, 1) := by decide +kernel
theorem ef_8_R (m : MethodId) (x0 : Addr) : entryFrame m #[(.ref x0)] 1 = mkF m 0 #[.val (.ref x0)] [] := by first | (simp [entryFrame, mkF, argsToLocals, Value.category]; done) | rfl
def Q8_R (Z : State) (vr0 : Addr) (w_message_vr0 : Addr) (h0 : Heap) (n0 : Nat) (v : Option Value) (h : Heap) (L : List Loc) : Prop := v = some (.ref w_message_vr0) ∧ Fr n0 L ∧ h = h0
set_option maxRecDepth 65536 in
set_option maxHeartbeats 40000000 in
theorem rm8_R (l : Launch) (Z : State) (a0 : Array Value) (hw : ∀ d ∈ tables_1, d.before a0 Z = true) (ws : List Jvm.Cond) (vr0 : Addr) (w_message_vr0 : Addr) (h0 : Heap) (n0 : Nat) (Z0 : n0 ≤ h0.size) (F_message_vr0 : Fld Z h0 vr0 "com/example/castellan/castellan/command/CommandReport" "message" "Ljava/lang/String;" (.ref w_message_vr0)) :
    MetFree l (⟨"com/example/castellan/castellan/command/CommandReport", "getMessage", "()Ljava/lang/String;"⟩ : MethodName) (head1 (Jvm.Cond.code (⟨"com/example/castellan/castellan/command/CommandReport", "getMessage", "()Ljava/lang/String;"⟩ : MethodName) prog_13_method_4_code 1 (some (.object "java/lang/String")) :: ws) ({ frames := 0, cells := 0, slots := 0, locals := 0 } : Room)) (fun a U => a = #[(.ref vr0)] ∧ Z.Warmed39 U.vm ∧ U.heap = h0) (fun _ _ _ _ _ => True) (fun _ U o U' => ∃ v L, o = .returned v ∧ Q8_R Z vr0 w_message_vr0 h0 n0 v U'.heap L ∧ FrameEnd U o U' L ({ frames := 0, cells := 0, slots := 0, locals := 0 } : Room).cells ({ frames := 0, cells := 0, slots := 0, locals := 0 } : Room).slots) := by
  refine MetFree.of_bodySF (plainFor_of_name pn_com_example_castellan_castellan_command_CommandReport) hisR ?_
  intro p e s m args below meth c s₁ Bd hml0 hP hK
  obtain ⟨rfl, hZ, hh⟩ := hP
  have hx := Bd.exec
  have hby := Bd.bytes
  have hml : c.maxLocals = 1 := hml0
  have hown : s.vm.findClass "com/example/castellan/castellan/command/CommandReport" = some m.cls := findClass_of_methodNamed Bd.named
  have hnm := (name_of_methodNamed Bd.named Bd.method).1
  have X0 : Stand p l e ({ frames := 0, cells := 0, slots := 0, locals := 0 } : Room) s m #[(.ref vr0)] below meth c s₁ [] 0 0 := Stand.of_body Bd
  have e0 : s₁.heap = h0 := by rw [← hh, Bd.state]; rfl
  have N0 := Fr.nil n0
  have pre0 : ∀ t, Steps p.tables e below (s₁.setTop (mkF m 0 #[.val (.ref vr0)] [])) t → Steps p.tables e below (s₁.setTop (entryFrame m #[(.ref vr0)] 1)) t := fun t k => castTop (ef_8_R m vr0) k
  obtain ⟨T1, X1, e1, st1⟩ := getF X0 hx hZ hown (host := "") (Or.inl (wd_19 hw)) Via.refl e0 F_message_vr0 (g := (mkF m 1 #[.val (.ref vr0)] [(.ref vr0)])) rfl rfl (hb hby d8_1)
  obtain ⟨fs, hr, hrun, hended, hW, hsame⟩ := X1.leave (v := some (.ref w_message_vr0)) (fun h => by rw [Bd.returns] at h; cases h)
  refine ⟨_, _, pre0 _ ?_, hrun, hended, _, _, rfl, ?_, ⟨_, rfl⟩, hW, hsame.mono (by decide) (by decide)⟩
  · show Steps p.tables e below (s₁.setTop (mkF m 0 #[.val (.ref vr0)] [])) _
    refine XS.aloadN X0.here hx rfl (hb hby d8_0) rfl rfl ?_
    show Steps p.tables e below (s₁.setTop (mkF m 1 #[.val (.ref vr0)] [(.ref vr0)])) _
    refine st1 _ ?_
    show Steps p.tables e below (T1.setTop (mkF m 4 #[.val (.ref vr0)] [(.ref w_message_vr0)])) _
    jvm_step X1.here [X1.here.top, hx, (hb hby d8_4), X1.method', Bd.returns, Value.isRef, FieldType.isReference]
    first | (intro acts; rw [hr _ acts rfl rfl rfl]) | rw [hr _ _ rfl rfl rfl]
    exact Steps.refl _
  · show Q8_R Z vr0 w_message_vr0 h0 n0 _ T1.heap _
    rw [e1]
    exact ⟨rfl, N0, rfl⟩
theorem ef_3_N (m : MethodId) (x0 : Addr) : entryFrame m #[(.ref x0), .null] 2 = mkF m 0 #[.val (.ref x0), .val .null] [] := by first | (simp [entryFrame, mkF, argsToLocals, Value.category]; done) | rfl
def Q3_N (Z : State) (vr0 : Addr) (u_exitCode_vr0 : Value) (u_message_vr0 : Value) (h0 : Heap) (n0 : Nat) (v : Option Value) (h : Heap) (L : List Loc) : Prop := v = none ∧ Fr n0 L ∧ Keep h0 h [vr0] ∧ Fld Z h vr0 "com/example/castellan/castellan/command/CommandReport" "exitCode" "Lcom/example/castellan/castellan/command/CommandReport$ExitCode;" u_exitCode_vr0 ∧ Fld Z h vr0 "com/example/castellan/castellan/command/CommandReport" "message" "Ljava/lang/String;" .null
set_option maxRecDepth 65536 in
set_option maxHeartbeats 40000000 in
theorem rm3_N (l : Launch) (Z : State) (a0 : Array Value) (hw : ∀ d ∈ tables_1, d.before a0 Z = true) (ws : List Jvm.Cond) (vr0 : Addr) (u_exitCode_vr0 : Value) (u_message_vr0 : Value) (h0 : Heap) (n0 : Nat) (Z0 : n0 ≤ h0.size) (F_exitCode_vr0 : Fld Z h0 vr0 "com/example/castellan/castellan/command/CommandReport" "exitCode" "Lcom/example/castellan/castellan/command/CommandReport$ExitCode;" u_exitCode_vr0) (E_vr0 : Exa Z h0 vr0 "com/example/castellan/castellan/command/CommandReport") (F_message_vr0 : Fld Z h0 vr0 "com/example/castellan/castellan/command/CommandReport" "message" "Ljava/lang/String;" u_message_vr0) (g_vr0 : n0 ≤ vr0) :
    MetFree l (⟨"com/example/castellan/castellan/command/CommandReport", "setMessage", "(Ljava/lang/String;)V"⟩ : MethodName) (head1 (Jvm.Cond.code (⟨"com/example/castellan/castellan/command/CommandReport", "setMessage", "(Ljava/lang/String;)V"⟩ : MethodName) prog_13_method_5_code 2 none :: ws) ({ frames := 0, cells := 0, slots := 0, locals := 0 } : Room)) (fun a U => a = #[(.ref vr0), .null] ∧ Z.Warmed39 U.vm ∧ U.heap = h0) (fun _ _ _ _ _ => True) (fun _ U o U' => ∃ v L, o = .returned v ∧ Q3_N Z vr0 u_exitCode_vr0 u_message_vr0 h0 n0 v U'.heap L ∧ FrameEnd U o U' L ({ frames := 0, cells := 0, slots := 0, locals := 0 } : Room).cells ({ frames := 0, cells := 0, slots := 0, locals := 0 } : Room).slots) := by
  refine MetFree.of_bodySF (plainFor_of_name pn_com_example_castellan_castellan_command_CommandReport) hisR ?_
  intro p e s m args below meth c s₁ Bd hml0 hP hK
  obtain ⟨rfl, hZ, hh⟩ := hP
  have hx := Bd.exec
  have hby := Bd.bytes
  have hml : c.maxLocals = 2 := hml0
  have hown : s.vm.findClass "com/example/castellan/castellan/command/CommandReport" = some m.cls := findClass_of_methodNamed Bd.named
  have hnm := (name_of_methodNamed Bd.named Bd.method).1
  have X0 : Stand p l e ({ frames := 0, cells := 0, slots := 0, locals := 0 } : Room) s m #[(.ref vr0), .null] below meth c s₁ [] 0 0 := Stand.of_body Bd
  have e0 : s₁.heap = h0 := by rw [← hh, Bd.state]; rfl
  have N0 := Fr.nil n0
  have pre0 : ∀ t, Steps p.tables e below (s₁.setTop (mkF m 0 #[.val (.ref vr0), .val .null] [])) t → Steps p.tables e below (s₁.setTop (entryFrame m #[(.ref vr0), .null] 2)) t := fun t k => castTop (ef_3_N m vr0) k
  obtain ⟨T1, h1, X1, e1, W1, st1⟩ := putF X0 hx hZ hown (host := "") (Or.inl (wd_19 hw)) Via.refl e0 F_message_vr0 E_vr0 (Or.inl (wd_20 hw)) (wd_1 hw) (ty := (.object "java/lang/String")) (by decide) rfl rfl (g := (mkF m 2 #[.val (.ref vr0), .val .null] [.null, (.ref vr0)])) rfl rfl (hb hby d3_2)
  have Fw1 := F_message_vr0.same W1
  have N1 := Fr.snoc X1 N0 g_vr0
  have K1 : Keep h0 h1 [vr0] := (Keep.refl h0 [vr0]).wr W1 (Or.inl (List.mem_of_getElem? (i := 0) rfl))
  obtain ⟨fs, hr, hrun, hended, hW, hsame⟩ := X1.leave (v := none) (fun _ => rfl)
  refine ⟨_, _, pre0 _ ?_, hrun, hended, _, _, rfl, ?_, ⟨_, rfl⟩, hW, hsame.mono (by decide) (by decide)⟩
  · show Steps p.tables e below (s₁.setTop (mkF m 0 #[.val (.ref vr0), .val .null] [])) _
    refine XS.aloadN X0.here hx rfl (hb hby d3_0) rfl rfl ?_
    show Steps p.tables e below (s₁.setTop (mkF m 1 #[.val (.ref vr0), .val .null] [(.ref vr0)])) _
    refine XS.aloadN X0.here hx rfl (hb hby d3_1) rfl rfl ?_
    show Steps p.tables e below (s₁.setTop (mkF m 2 #[.val (.ref vr0), .val .null] [.null, (.ref vr0)])) _
    refine st1 _ ?_
    show Steps p.tables e below (T1.setTop (mkF m 5 #[.val (.ref vr0), .val .null] [])) _
    exact X1.returnOut hx Bd.returns (hb hby d3_5) hr
  · show Q3_N Z vr0 u_exitCode_vr0 u_message_vr0 h0 n0 _ T1.heap _
    rw [e1]
    exact ⟨rfl, N1, K1, (F_exitCode_vr0.other W1 (Or.inr (sl_1 hw))), Fw1⟩
theorem ef_8_N (m : MethodId) (x0 : Addr) : entryFrame m #[(.ref x0)] 1 = mkF m 0 #[.val (.ref x0)] [] := by first | (simp [entryFrame, mkF, argsToLocals, Value.category]; done) | rfl
def Q8_N (Z : State) (vr0 : Addr) (h0 : Heap) (n0 : Nat) (v : Option Value) (h : Heap) (L : List Loc) : Prop := v = some .null ∧ Fr n0 L ∧ h = h0
set_option maxRecDepth 65536 in
set_option maxHeartbeats 40000000 in
theorem rm8_N (l : Launch) (Z : State) (a0 : Array Value) (hw : ∀ d ∈ tables_1, d.before a0 Z = true) (ws : List Jvm.Cond) (vr0 : Addr) (h0 : Heap) (n0 : Nat) (Z0 : n0 ≤ h0.size) (F_message_vr0 : Fld Z h0 vr0 "com/example/castellan/castellan/command/CommandReport" "message" "Ljava/lang/String;" .null) :
    MetFree l (⟨"com/example/castellan/castellan/command/CommandReport", "getMessage", "()Ljava/lang/String;"⟩ : MethodName) (head1 (Jvm.Cond.code (⟨"com/example/castellan/castellan/command/CommandReport", "getMessage", "()Ljava/lang/String;"⟩ : MethodName) prog_13_method_4_code 1 (some (.object "java/lang/String")) :: ws) ({ frames := 0, cells := 0, slots := 0, locals := 0 } : Room)) (fun a U => a = #[(.ref vr0)] ∧ Z.Warmed39 U.vm ∧ U.heap = h0) (fun _ _ _ _ _ => True) (fun _ U o U' => ∃ v L, o = .returned v ∧ Q8_N Z vr0 h0 n0 v U'.heap L ∧ FrameEnd U o U' L ({ frames := 0, cells := 0, slots := 0, locals := 0 } : Room).cells ({ frames := 0, cells := 0, slots := 0, locals := 0 } : Room).slots) := by
  refine MetFree.of_bodySF (plainFor_of_name pn_com_example_castellan_castellan_command_CommandReport) hisR ?_
  intro p e s m args below meth c s₁ Bd hml0 hP hK
  obtain ⟨rfl, hZ, hh⟩ := hP
  have hx := Bd.exec
  have hby := Bd.bytes
  have hml : c.maxLocals = 1 := hml0
  have hown : s.vm.findClass "com/example/castellan/castellan/command/CommandReport" = some m.cls := findClass_of_methodNamed Bd.named
  have hnm := (name_of_methodNamed Bd.named Bd.method).1
  have X0 : Stand p l e ({ frames := 0, cells := 0, slots := 0, locals := 0 } : Room) s m #[(.ref vr0)] below meth c s₁ [] 0 0 := Stand.of_body Bd
  have e0 : s₁.heap = h0 := by rw [← hh, Bd.state]; rfl
  have N0 := Fr.nil n0
  have pre0 : ∀ t, Steps p.tables e below (s₁.setTop (mkF m 0 #[.val (.ref vr0)] [])) t → Steps p.tables e below (s₁.setTop (entryFrame m #[(.ref vr0)] 1)) t := fun t k => castTop (ef_8_N m vr0) k
  obtain ⟨T1, X1, e1, st1⟩ := getF X0 hx hZ hown (host := "") (Or.inl (wd_19 hw)) Via.refl e0 F_message_vr0 (g := (mkF m 1 #[.val (.ref vr0)] [(.ref vr0)])) rfl rfl (hb hby d8_1)
  obtain ⟨fs, hr, hrun, hended, hW, hsame⟩ := X1.leave (v := some .null) (fun h => by rw [Bd.returns] at h; cases h)
  refine ⟨_, _, pre0 _ ?_, hrun, hended, _, _, rfl, ?_, ⟨_, rfl⟩, hW, hsame.mono (by decide) (by decide)⟩
  · show Steps p.tables e below (s₁.setTop (mkF m 0 #[.val (.ref vr0)] [])) _
    refine XS.aloadN X0.here hx rfl (hb hby d8_0) rfl rfl ?_
    show Steps p.tables e below (s₁.setTop (mkF m 1 #[.val (.ref vr0)] [(.ref vr0)])) _
    refine st1 _ ?_
    show Steps p.tables e below (T1.setTop (mkF m 4 #[.val (.ref vr0)] [.null])) _
    jvm_step X1.here [X1.here.top, hx, (hb hby d8_4), X1.method', Bd.returns, Value.isRef, FieldType.isReference]
    first | (intro acts; rw [hr _ acts rfl rfl rfl]) | rw [hr _ _ rfl rfl rfl]
    exact Steps.refl _
  · show Q8_N Z vr0 h0 n0 _ T1.heap _
    rw [e1]
    exact ⟨rfl, N0, rfl⟩
theorem d7_0 : decode prog_13_method_2_code 0 = .ok (.aload_n 0, 1) := by decide +kernel
theorem d7_1 : decode prog_13_method_2_code 1 = .ok (.getfield 13, 3) := by decide +kernel
theorem d7_4 : decode prog_13_method_2_code 4 = .ok (.areturn, 1) := by decide +kernel
theorem ef_7 (m : MethodId) (x0 : Addr) : entryFrame m #[(.ref x0)] 1 = mkF m 0 #[.val (.ref x0)] [] := by first | (simp [entryFrame, mkF, argsToLocals, Value.category]; done) | rfl
def Q7 (Z : State) (vr0 : Addr) (w_exitCode_vr0 : Addr) (h0 : Heap) (n0 : Nat) (v : Option Value) (h : Heap) (L : List Loc) : Prop := v = some (.ref w_exitCode_vr0) ∧ Fr n0 L ∧ h = h0
set_option maxRecDepth 65536 in
set_option maxHeartbeats 40000000 in
theorem rm7 (l : Launch) (Z : State) (a0 : Array Value) (hw : ∀ d ∈ tables_1, d.before a0 Z = true) (ws : List Jvm.Cond) (vr0 : Addr) (w_exitCode_vr0 : Addr) (h0 : Heap) (n0 : Nat) (Z0 : n0 ≤ h0.size) (F_exitCode_vr0 : Fld Z h0 vr0 "com/example/castellan/castellan/command/CommandReport" "exitCode" "Lcom/example/castellan/castellan/command/CommandReport$ExitCode;" (.ref w_exitCode_vr0)) :
    MetFree l (⟨"com/example/castellan/castellan/command/CommandReport", "getExitCode", "()Lcom/example/castellan/castellan/command/CommandReport$ExitCode;"⟩ : MethodName) (head1 (Jvm.Cond.code (⟨"com/example/castellan/castellan/command/CommandReport", "getExitCode", "()Lcom/example/castellan/castellan/command/CommandReport$ExitCode;"⟩ : MethodName) prog_13_method_2_code 1 (some (.object "com/example/castellan/castellan/command/CommandReport$ExitCode")) :: ws) ({ frames := 0, cells := 0, slots := 0, locals := 0 } : Room)) (fun a U => a = #[(.ref vr0)] ∧ Z.Warmed39 U.vm ∧ U.heap = h0) (fun _ _ _ _ _ => True) (fun _ U o U' => ∃ v L, o = .returned v ∧ Q7 Z vr0 w_exitCode_vr0 h0 n0 v U'.heap L ∧ FrameEnd U o U' L ({ frames := 0, cells := 0, slots := 0, locals := 0 } : Room).cells ({ frames := 0, cells := 0, slots := 0, locals := 0 } : Room).slots) := by
  refine MetFree.of_bodySF (plainFor_of_name pn_com_example_castellan_castellan_command_CommandReport) hisR ?_
  intro p e s m args below meth c s₁ Bd hml0 hP hK
  obtain ⟨rfl, hZ, hh⟩ := hP
  have hx := Bd.exec
  have hby := Bd.bytes
  have hml : c.maxLocals = 1 := hml0
  have hown : s.vm.findClass "com/example/castellan/castellan/command/CommandReport" = some m.cls := findClass_of_methodNamed Bd.named
  have hnm := (name_of_methodNamed Bd.named Bd.method).1
  have X0 : Stand p l e ({ frames := 0, cells := 0, slots := 0, locals := 0 } : Room) s m #[(.ref vr0)] below meth c s₁ [] 0 0 := Stand.of_body Bd
  have e0 : s₁.heap = h0 := by rw [← hh, Bd.state]; rfl
  have N0 := Fr.nil n0
  have pre0 : ∀ t, Steps p.tables e below (s₁.setTop (mkF m 0 #[.val (.ref vr0)] [])) t → Steps p.tables e below (s₁.setTop (entryFrame m #[(.ref vr0)] 1)) t := fun t k => castTop (ef_7 m vr0) k
  obtain ⟨T1, X1, e1, st1⟩ := getF X0 hx hZ hown (host := "") (Or.inl (wd_12 hw)) Via.refl e0 F_exitCode_vr0 (g := (mkF m 1 #[.val (.ref vr0)] [(.ref vr0)])) rfl rfl (hb hby d7_1)
  obtain ⟨fs, hr, hrun, hended, hW, hsame⟩ := X1.leave (v := some (.ref w_exitCode_vr0)) (fun h => by rw [Bd.returns] at h; cases h)
  refine ⟨_, _, pre0 _ ?_, hrun, hended, _, _, rfl, ?_, ⟨_, rfl⟩, hW, hsame.mono (by decide) (by decide)⟩
  · show Steps p.tables e below (s₁.setTop (mkF m 0 #[.val (.ref vr0)] [])) _
    refine XS.aloadN X0.here hx rfl (hb hby d7_0) rfl rfl ?_
    show Steps p.tables e below (s₁.setTop (mkF m 1 #[.val (.ref vr0)] [(.ref vr0)])) _
    refine st1 _ ?_
    show Steps p.tables e below (T1.setTop (mkF m 4 #[.val (.ref vr0)] [(.ref w_exitCode_vr0)])) _
    jvm_step X1.here [X1.here.top, hx, (hb hby d7_4), X1.method', Bd.returns, Value.isRef, FieldType.isReference]
    first | (intro acts; rw [hr _ acts rfl rfl rfl]) | rw [hr _ _ rfl rfl rfl]
    exact Steps.refl _
  · show Q7 Z vr0 w_exitCode_vr0 h0 n0 _ T1.heap _
    rw [e1]
    exact ⟨rfl, N0, rfl⟩
theorem d6_0 : decode jdk_31_method_11_code 0 = .ok (.aload_n 0, 1) := by decide +kernel
theorem d6_1 : decode jdk_31_method_11_code 1 = .ok (.ifnonnull 12, 3) := by decide +kernel
theorem d6_13 : decode jdk_31_method_11_code 13 = .ok (.aload_n 0, 1) := by decide +kernel
theorem d6_14 : decode jdk_31_method_11_code 14 = .ok (.areturn, 1) := by decide +kernel
theorem pn_java_util_Objects : plainName "java/util/Objects" = true := by first | (simp [plainName, overriddenIn]; done) | decide +kernel
theorem ef_6 (m : MethodId) (x0 : Addr) (x1 : Addr) : entryFrame m #[(.ref x0), (.ref x1)] 2 = mkF m 0 #[.val (.ref x0), .val (.ref x1)] [] := by first | (simp [entryFrame, mkF, argsToLocals, Value.category]; done) | rfl
def Q6 (Z : State) (vr0 : Addr) (vr1 : Addr) (h0 : Heap) (n0 : Nat) (v : Option Value) (h : Heap) (L : List Loc) : Prop := v = some (.ref vr0) ∧ Fr n0 L ∧ h = h0
set_option maxRecDepth 65536 in
set_option maxHeartbeats 40000000 in
theorem rm6 (l : Launch) (Z : State) (a0 : Array Value) (hw : ∀ d ∈ tables_1, d.before a0 Z = true) (ws : List Jvm.Cond) (vr0 : Addr) (vr1 : Addr) (h0 : Heap) (n0 : Nat) (Z0 : n0 ≤ h0.size) :
    MetFree l (⟨"java/util/Objects", "requireNonNull", "(Ljava/lang/Object;Ljava/lang/String;)Ljava/lang/Object;"⟩ : MethodName) (head1 (Jvm.Cond.code (⟨"java/util/Objects", "requireNonNull", "(Ljava/lang/Object;Ljava/lang/String;)Ljava/lang/Object;"⟩ : MethodName) jdk_31_method_11_code 2 (some (.object "java/lang/Object")) :: ws) ({ frames := 0, cells := 0, slots := 0, locals := 0 } : Room)) (fun a U => a = #[(.ref vr0), (.ref vr1)] ∧ Z.Warmed39 U.vm ∧ U.heap = h0) (fun _ _ _ _ _ => True) (fun _ U o U' => ∃ v L, o = .returned v ∧ Q6 Z vr0 vr1 h0 n0 v U'.heap L ∧ FrameEnd U o U' L ({ frames := 0, cells := 0, slots := 0, locals := 0 } : Room).cells ({ frames := 0, cells := 0, slots := 0, locals := 0 } : Room).slots) := by
  refine MetFree.of_bodySF (plainFor_of_name pn_java_util_Objects) hisR ?_
  intro p e s m args below meth c s₁ Bd hml0 hP hK
  obtain ⟨rfl, hZ, hh⟩ := hP
  have hx := Bd.exec
  have hby := Bd.bytes
  have hml : c.maxLocals = 2 := hml0
  have hown : s.vm.findClass "java/util/Objects" = some m.cls := findClass_of_methodNamed Bd.named
  have hnm := (name_of_methodNamed Bd.named Bd.method).1
  have X0 : Stand p l e ({ frames := 0, cells := 0, slots := 0, locals := 0 } : Room) s m #[(.ref vr0), (.ref vr1)] below meth c s₁ [] 0 0 := Stand.of_body Bd
  have e0 : s₁.heap = h0 := by rw [← hh, Bd.state]; rfl
  have N0 := Fr.nil n0
  have pre0 : ∀ t, Steps p.tables e below (s₁.setTop (mkF m 0 #[.val (.ref vr0), .val (.ref vr1)] [])) t → Steps p.tables e below (s₁.setTop (entryFrame m #[(.ref vr0), (.ref vr1)] 2)) t := fun t k => castTop (ef_6 m vr0 vr1) k
  obtain ⟨fs, hr, hrun, hended, hW, hsame⟩ := X0.leave (v := some (.ref vr0)) (fun h => by rw [Bd.returns] at h; cases h)
  refine ⟨_, _, pre0 _ ?_, hrun, hended, _, _, rfl, ?_, ⟨_, rfl⟩, hW, hsame.mono (by decide) (by decide)⟩
  · show Steps p.tables e below (s₁.setTop (mkF m 0 #[.val (.ref vr0), .val (.ref vr1)] [])) _
    refine XS.aloadN X0.here hx rfl (hb hby d6_0) rfl rfl ?_
    show Steps p.tables e below (s₁.setTop (mkF m 1 #[.val (.ref vr0), .val (.ref vr1)] [(.ref vr0)])) _
    refine XS.ifnonnullYes X0.here hx rfl (pc0 := 1) (pc' := 13) rfl (hb hby d6_1) rfl (by decide) (by decide) ?_
    show Steps p.tables e below (s₁.setTop (mkF m 13 #[.val (.ref vr0), .val (.ref vr1)] [])) _
    refine XS.aloadN X0.here hx rfl (hb hby d6_13) rfl rfl ?_
    show Steps p.tables e below (s₁.setTop (mkF m 14 #[.val (.ref vr0), .val (.ref vr1)] [(.ref vr0)])) _
    jvm_step X0.here [X0.here.top, hx, (hb hby d6_14), X0.method', Bd.returns, Value.isRef, FieldType.isReference]
    first | (intro acts; rw [hr _ acts rfl rfl rfl]) | rw [hr _ _ rfl rfl rfl]
    exact Steps.refl _
  · show Q6 Z vr0 vr1 h0 n0 _ s₁.heap _
    rw [e0]
    exact ⟨rfl, N0, rfl⟩
theorem d5_0 : decode prog_13_method_3_code 0 = .ok (.aload_n 0, 1) := by decide +kernel
theorem d5_1 : decode prog_13_method_3_code 1 = .ok (.aload_n 1, 1) := by decide +kernel
theorem d5_2 : decode prog_13_method_3_code 2 = .ok (.ldc 18, 2) := by decide +kernel
theorem wd_32 {Z : State} {a0 : Array Value} (hw : ∀ d ∈ tables_1, d.before a0 Z = true) : ((Jvm.Cond.stringLink "com/example/castellan/castellan/command/CommandReport" (18 : Nat) "exitCode")).before a0 Z = true := hw _ (List.mem_of_getElem? (i := 32) rfl)
theorem d5_4 : decode prog_13_method_3_code 4 = .ok (.invokestatic 19, 3) := by decide +kernel
theorem wd_40 {Z : State} {a0 : Array Value} (hw : ∀ d ∈ tables_1, d.before a0 Z = true) : ((Jvm.Cond.methodLink "com/example/castellan/castellan/command/CommandReport" (19 : Nat) ({ cls := "java/util/Objects", name := "requireNonNull", desc := "(Ljava/lang/Object;Ljava/lang/String;)Ljava/lang/Object;" } : Jvm.MethodName))).before a0 Z = true := hw _ (List.mem_of_getElem? (i := 40) rfl)
theorem wd_43 {Z : State} {a0 : Array Value} (hw : ∀ d ∈ tables_1, d.before a0 Z = true) : ((Jvm.Cond.code ({ cls := "java/util/Objects", name := "requireNonNull", desc := "(Ljava/lang/Object;Ljava/lang/String;)Ljava/lang/Object;" } : Jvm.MethodName) jdk_31_method_11_code (2 : Nat) (Option.some (Jvm.ClassFile.FieldType.object "java/lang/Object")))).before a0 Z = true := hw _ (List.mem_of_getElem? (i := 43) rfl)
theorem wd_42 {Z : State} {a0 : Array Value} (hw : ∀ d ∈ tables_1, d.before a0 Z = true) : ((Jvm.Cond.initialized "java/util/Objects")).before a0 Z = true := hw _ (List.mem_of_getElem? (i := 42) rfl)
theorem pd_4 : parseMethodDescriptor "(Ljava/lang/Object;Ljava/lang/String;)Ljava/lang/Object;" = some ⟨[(.object "java/lang/Object"), (.object "java/lang/String")], some (.object "java/lang/Object")⟩ := by decide +kernel
theorem wd_41 {Z : State} {a0 : Array Value} (hw : ∀ d ∈ tables_1, d.before a0 Z = true) : ((Jvm.Cond.static ({ cls := "java/util/Objects", name := "requireNonNull", desc := "(Ljava/lang/Object;Ljava/lang/String;)Ljava/lang/Object;" } : Jvm.MethodName))).before a0 Z = true := hw _ (List.mem_of_getElem? (i := 41) rfl)
theorem d5_7 : decode prog_13_method_3_code 7 = .ok (.checkcast 8, 3) := by decide +kernel
theorem wd_44 {Z : State} {a0 : Array Value} (hw : ∀ d ∈ tables_1, d.before a0 Z = true) : ((Jvm.Cond.classLink "com/example/castellan/castellan/command/CommandReport" (8 : Nat) "com/example/castellan/castellan/command/CommandReport$ExitCode")).before a0 Z = true := hw _ (List.mem_of_getElem? (i := 44) rfl)
theorem d5_10 : decode prog_13_method_3_code 10 = .ok (.putfield 13, 3) := by decide +kernel
theorem d5_13 : decode prog_13_method_3_code 13 = .ok (.return_, 1) := by decide +kernel
theorem ef_5 (m : MethodId) (x0 : Addr) (x1 : Addr) : entryFrame m #[(.ref x0), (.ref x1)] 2 = mkF m 0 #[.val (.ref x0), .val (.ref x1)] [] := by first | (simp [entryFrame, mkF, argsToLocals, Value.category]; done) | rfl
def Q5 (Z : State) (vr0 : Addr) (vr1 : Addr) (u_message_vr0 : Value) (u_exitCode_vr0 : Value) (h0 : Heap) (n0 : Nat) (v : Option Value) (h : Heap) (L : List Loc) : Prop := v = none ∧ Fr n0 L ∧ Keep h0 h [vr0] ∧ Fld Z h vr0 "com/example/castellan/castellan/command/CommandReport" "exitCode" "Lcom/example/castellan/castellan/command/CommandReport$ExitCode;" (.ref vr1) ∧ Fld Z h vr0 "com/example/castellan/castellan/command/CommandReport" "message" "Ljava/lang/String;" u_message_vr0
set_option maxRecDepth 65536 in
set_option maxHeartbeats 40000000 in
theorem rm5 (l : Launch) (Z : State) (a0 : Array Value) (hw : ∀ d ∈ tables_1, d.before a0 Z = true) (ws : List Jvm.Cond) (vr0 : Addr) (vr1 : Addr) (u_message_vr0 : Value) (u_exitCode_vr0 : Value) (h0 : Heap) (n0 : Nat) (Z0 : n0 ≤ h0.size) (E_vr0 : Exa Z h0 vr0 "com/example/castellan/castellan/command/CommandReport") (E_vr1 : Exa Z Z.heap vr1 "com/example/castellan/castellan/command/CommandReport$ExitCode") (O0 : Old Z n0 h0) (F_message_vr0 : Fld Z h0 vr0 "com/example/castellan/castellan/command/CommandReport" "message" "Ljava/lang/String;" u_message_vr0) (F_exitCode_vr0 : Fld Z h0 vr0 "com/example/castellan/castellan/command/CommandReport" "exitCode" "Lcom/example/castellan/castellan/command/CommandReport$ExitCode;" u_exitCode_vr0) (g_vr0 : n0 ≤ vr0) :
    MetFree l (⟨"com/example/castellan/castellan/command/CommandReport", "setExitCode", "(Lcom/example/castellan/castellan/command/CommandReport$ExitCode;)V"⟩ : MethodName) (head1 (Jvm.Cond.code (⟨"com/example/castellan/castellan/command/CommandReport", "setExitCode", "(Lcom/example/castellan/castellan/command/CommandReport$ExitCode;)V"⟩ : MethodName) prog_13_method_3_code 2 none :: ws) ({ frames := 1, cells := 2, slots := 36, locals := 14 } : Room)) (fun a U => a = #[(.ref vr0), (.ref vr1)] ∧ Z.Warmed39 U.vm ∧ U.heap = h0) (fun _ _ _ _ _ => True) (fun _ U o U' => ∃ v L, o = .returned v ∧ Q5 Z vr0 vr1 u_message_vr0 u_exitCode_vr0 h0 n0 v U'.heap L ∧ ReturnedEndW U o U' L ({ frames := 1, cells := 2, slots := 36, locals := 14 } : Room).cells ({ frames := 1, cells := 2, slots := 36, locals := 14 } : Room).slots) := by
  refine MetFree.of_bodySF (plainFor_of_name pn_com_example_castellan_castellan_command_CommandReport) hisR ?_
  intro p e s m args below meth c s₁ Bd hml0 hP hK
  obtain ⟨rfl, hZ, hh⟩ := hP
  have hx := Bd.exec
  have hby := Bd.bytes
  have hml : c.maxLocals = 2 := hml0
  have hown : s.vm.findClass "com/example/castellan/castellan/command/CommandReport" = some m.cls := findClass_of_methodNamed Bd.named
  have hnm := (name_of_methodNamed Bd.named Bd.method).1
  have X0 : Stand p l e ({ frames := 1, cells := 2, slots := 36, locals := 14 } : Room) s m #[(.ref vr0), (.ref vr1)] below meth c s₁ [] 0 0 := Stand.of_body Bd
  have e0 : s₁.heap = h0 := by rw [← hh, Bd.state]; rfl
  have N0 := Fr.nil n0
  have pre0 : ∀ t, Steps p.tables e below (s₁.setTop (mkF m 0 #[.val (.ref vr0), .val (.ref vr1)] [])) t → Steps p.tables e below (s₁.setTop (entryFrame m #[(.ref vr0), (.ref vr1)] 2)) t := fun t k => castTop (ef_5 m vr0 vr1) k
  have wS : ∀ a ∈ Bundle.stringAtoms, a.before a0 Z = true := fun d hd => hw d ((by decide +kernel : ∀ d ∈ Bundle.stringAtoms, d ∈ tables_1) d hd)
  obtain ⟨lt1, T1, h1, k1, X1, e1, E1, hS1, hk1, hZ1, hown1, st1⟩ := ldcS (s := s) (vm0 := s.vm) X0 hx hZ hown (wd_32 hw) wS e0 ((State.WarmedH.refl s).since 0) (Nat.zero_le _) (g := (mkF m 2 #[.val (.ref vr0), .val (.ref vr1)] [(.ref vr1), (.ref vr0)])) rfl (hb hby d5_2) (n := 32) (by decide) (by decide) (by decide) (by decide)
  have K1 : Keep h0 h1 [vr0] := (Keep.refl h0 [vr0]).ext E1
  obtain ⟨_, _, ⟨T2, L2, k2, n2⟩, -, X2, ⟨Lc2, hQ2, l2, y2, z2⟩, st2⟩ := Jvm.LawKit.callS X1 hx (y := (⟨"java/util/Objects", "requireNonNull", "(Ljava/lang/Object;Ljava/lang/String;)Ljava/lang/Object;"⟩ : MethodName)) hown1 (mvT hZ1 (wd_40 hw)) (mvT hZ1 (wd_41 hw)) (mvT hZ1 (wd_42 hw)) (mvT hZ1 (wd_43 hw)) (by decide) (backOf (W := 1) (rm6 l Z a0 hw [] vr1 lt1 h1 n0 (Nat.le_trans Z0 E1.1) ) hZ1 (wd_43 hw) (wd_42 hw) (by decide) (by decide)) (g := (mkF m 4 #[.val (.ref vr0), .val (.ref vr1)] [(.ref lt1), (.ref vr1), (.ref vr0)])) rfl (by rw [hml]; rfl) (argsL := [(.ref vr1), (.ref lt1)]) (rest := [(.ref vr0)]) (lenOf pd_4 rfl) rfl (by show 2 * 0 + _ ≤ _; exact Nat.le_of_eq rfl) (hb hby d5_4) (fun _ _ => ⟨rfl, e1, (by decide : 2 + 0 ≤ _), (by decide : 36 + 0 ≤ _)⟩)
  dsimp only [Pt.U, Pt.locs, Pt.cells, Pt.slots] at X2 l2 y2 z2 st2 hQ2
  subst l2 y2 z2
  obtain ⟨rfl, N2q, p2_0⟩ := hQ2
  have N2 := Fr.app N0 N2q
  have e2 : T2.heap = h1 := p2_0
  obtain ⟨T3, X3, e3, st3⟩ := castY X2 hx hZ1 hown1 (wd_44 hw) e2 (Ins.self (E_vr1.ext (O0.ext E1).2)) (g := (mkF m 7 #[.val (.ref vr0), .val (.ref vr1)] [(.ref vr1), (.ref vr0)])) rfl rfl (hb hby d5_7)
  obtain ⟨T4, h4, X4, e4, W4, st4⟩ := putF X3 hx hZ1 hown1 (host := "") (Or.inl (wd_12 hw)) Via.refl e3 (F_exitCode_vr0.ext E1) (E_vr0.ext E1) (Or.inl (wd_13 hw)) (wd_1 hw) (ty := (.object "com/example/castellan/castellan/command/CommandReport$ExitCode")) (by decide) rfl rfl (g := (mkF m 10 #[.val (.ref vr0), .val (.ref vr1)] [(.ref vr1), (.ref vr0)])) rfl rfl (hb hby d5_10)
  have Fw4 := (F_exitCode_vr0.ext E1).same W4
  have N4 := Fr.snoc X4 N2 g_vr0
  have K4 : Keep h0 h4 [vr0] := K1.wr W4 (Or.inl (List.mem_of_getElem? (i := 0) rfl))
  obtain ⟨fs, hr, hrun, hended, hREW⟩ := X4.leaveW (s := s) (vm₁ := T1.vm) hS1 (Nat.le_trans (Nat.le_trans hk1 (Keep.of_wr W4).1) (Nat.le_of_eq (congrArg Array.size e4.symm))) (v := none) (fun _ => rfl)
  refine ⟨_, _, pre0 _ ?_, hrun, hended, _, _, rfl, ?_, hREW.1, hREW.2.1, hREW.2.2.1, hREW.2.2.2.mono (by decide) (by decide)⟩
  · show Steps p.tables e below (s₁.setTop (mkF m 0 #[.val (.ref vr0), .val (.ref vr1)] [])) _
    refine XS.aloadN X0.here hx rfl (hb hby d5_0) rfl rfl ?_
    show Steps p.tables e below (s₁.setTop (mkF m 1 #[.val (.ref vr0), .val (.ref vr1)] [(.ref vr0)])) _
    refine XS.aloadN X0.here hx rfl (hb hby d5_1) rfl rfl ?_
    show Steps p.tables e below (s₁.setTop (mkF m 2 #[.val (.ref vr0), .val (.ref vr1)] [(.ref vr1), (.ref vr0)])) _
    refine st1 _ ?_
    show Steps p.tables e below (T1.setTop (mkF m 4 #[.val (.ref vr0), .val (.ref vr1)] [(.ref lt1), (.ref vr1), (.ref vr0)])) _
    refine st2 _ ?_
    show Steps p.tables e below (T2.setTop (mkF m 7 #[.val (.ref vr0), .val (.ref vr1)] [(.ref vr1), (.ref vr0)])) _
    refine st3 _ ?_
    show Steps p.tables e below (T3.setTop (mkF m 10 #[.val (.ref vr0), .val (.ref vr1)] [(.ref vr1), (.ref vr0)])) _
    refine st4 _ ?_
    show Steps p.tables e below (T4.setTop (mkF m 13 #[.val (.ref vr0), .val (.ref vr1)] [])) _
    exact X4.returnOut hx Bd.returns (hb hby d5_13) hr
  · show Q5 Z vr0 vr1 u_message_vr0 u_exitCode_vr0 h0 n0 _ T4.heap _
    rw [e4]
    exact ⟨rfl, N4, K4, Fw4, ((F_message_vr0.ext E1).other W4 (Or.inr (sl_0 hw)))⟩
theorem d4_0 : decode method_2_code 0 = .ok (.iload_n 0, 1) := by decide +kernel
theorem d4_1 : decode method_2_code 1 = .ok (.ldc 7, 2) := by decide +kernel
theorem wd_25 {Z : State} {a0 : Array Value} (hw : ∀ d ∈ tables_1, d.before a0 Z = true) : ((Jvm.Cond.constant "com/example/castellan/castellan/command/CommandReportSetExitCodePinLaw" (7 : Nat) (2147483647 : Int32))).before a0 Z = true := hw _ (List.mem_of_getElem? (i := 25) rfl)
theorem d4_3 : decode method_2_code 3 = .ok (.iand, 1) := by decide +kernel
theorem d4_4 : decode method_2_code 4 = .ok (.iconst 3, 1) := by decide +kernel
theorem d4_5 : decode method_2_code 5 = .ok (.irem, 1) := by decide +kernel
theorem d4_6 : decode method_2_code 6 = .ok (.istore_n 1, 1) := by decide +kernel
theorem d4_7 : decode method_2_code 7 = .ok (.iload_n 1, 1) := by decide +kernel
theorem d4_8 : decode method_2_code 8 = .ok (.ifCond .ne 7, 3) := by decide +kernel
theorem d4_11 : decode method_2_code 11 = .ok (.getstatic 8, 3) := by decide +kernel
theorem wd_26 {Z : State} {a0 : Array Value} (hw : ∀ d ∈ tables_1, d.before a0 Z = true) : ((Jvm.Cond.fieldLink "com/example/castellan/castellan/command/CommandReportSetExitCodePinLaw" (8 : Nat) "com/example/castellan/castellan/command/CommandReport$ExitCode" "SUCCESS" "Lcom/example/castellan/castellan/command/CommandReport$ExitCode;")).before a0 Z = true := hw _ (List.mem_of_getElem? (i := 26) rfl)
theorem d4_14 : decode method_2_code 14 = .ok (.areturn, 1) := by decide +kernel
theorem pn_com_example_castellan_castellan_command_CommandReportSetExitCodePinLaw : plainName "com/example/castellan/castellan/command/CommandReportSetExitCodePinLaw" = true := by first | (simp [plainName, overriddenIn]; done) | decide +kernel
theorem ef_4_SUCCESS (m : MethodId) (x0 : Int32) : entryFrame m #[(.int x0)] 2 = mkF m 0 #[.val (.int x0), .unset] [] := by first | (simp [entryFrame, mkF, argsToLocals, Value.category]; done) | rfl
def Q4_SUCCESS (Z : State) (vi0 : Int32) (w_SUCCESS : Addr) (h0 : Heap) (n0 : Nat) (v : Option Value) (h : Heap) (L : List Loc) : Prop := ∃ w : Addr, v = some (.ref w) ∧ Fr n0 L ∧ h = h0 ∧ Exa Z Z.heap w "com/example/castellan/castellan/command/CommandReport$ExitCode"
set_option maxRecDepth 65536 in
set_option maxHeartbeats 40000000 in
theorem rm4_SUCCESS (l : Launch) (Z : State) (a0 : Array Value) (hw : ∀ d ∈ tables_1, d.before a0 Z = true) (ws : List Jvm.Cond) (vi0 : Int32) (w_SUCCESS : Addr) (h0 : Heap) (n0 : Nat) (Z0 : n0 ≤ h0.size) (E_w_SUCCESS : Exa Z Z.heap w_SUCCESS "com/example/castellan/castellan/command/CommandReport$ExitCode") (hc8 : ((vi0 &&& (2147483647 : Int32)) % (3 : Int32)) = (0 : Int32)) (S_SUCCESS : Sta Z Z.heap "com/example/castellan/castellan/command/CommandReport$ExitCode" "SUCCESS" "Lcom/example/castellan/castellan/command/CommandReport$ExitCode;" (.ref w_SUCCESS)) (O0 : Old Z n0 h0) :
    MetFree l (⟨"com/example/castellan/castellan/command/CommandReportSetExitCodePinLaw", "pick", "(I)Lcom/example/castellan/castellan/command/CommandReport$ExitCode;"⟩ : MethodName) (head1 (Jvm.Cond.code (⟨"com/example/castellan/castellan/command/CommandReportSetExitCodePinLaw", "pick", "(I)Lcom/example/castellan/castellan/command/CommandReport$ExitCode;"⟩ : MethodName) method_2_code 2 (some (.object "com/example/castellan/castellan/command/CommandReport$ExitCode")) :: ws) ({ frames := 0, cells := 0, slots := 0, locals := 0 } : Room)) (fun a U => a = #[(.int vi0)] ∧ Z.Warmed39 U.vm ∧ U.heap = h0) (fun _ _ _ _ _ => True) (fun _ U o U' => ∃ v L, o = .returned v ∧ Q4_SUCCESS Z vi0 w_SUCCESS h0 n0 v U'.heap L ∧ FrameEnd U o U' L ({ frames := 0, cells := 0, slots := 0, locals := 0 } : Room).cells ({ frames := 0, cells := 0, slots := 0, locals := 0 } : Room).slots) := by
  refine MetFree.of_bodySF (plainFor_of_name pn_com_example_castellan_castellan_command_CommandReportSetExitCodePinLaw) hisR ?_
  intro p e s m args below meth c s₁ Bd hml0 hP hK
  obtain ⟨rfl, hZ, hh⟩ := hP
  have hx := Bd.exec
  have hby := Bd.bytes
  have hml : c.maxLocals = 2 := hml0
  have hown : s.vm.findClass "com/example/castellan/castellan/command/CommandReportSetExitCodePinLaw" = some m.cls := findClass_of_methodNamed Bd.named
  have hnm := (name_of_methodNamed Bd.named Bd.method).1
  have X0 : Stand p l e ({ frames := 0, cells := 0, slots := 0, locals := 0 } : Room) s m #[(.int vi0)] below meth c s₁ [] 0 0 := Stand.of_body Bd
  have e0 : s₁.heap = h0 := by rw [← hh, Bd.state]; rfl
  have N0 := Fr.nil n0
  have pre0 : ∀ t, Steps p.tables e below (s₁.setTop (mkF m 0 #[.val (.int vi0), .unset] [])) t → Steps p.tables e below (s₁.setTop (entryFrame m #[(.int vi0)] 2)) t := fun t k => castTop (ef_4_SUCCESS m vi0) k
  obtain ⟨T1, X1, e1, st1⟩ := getS2 X0 hx hZ hown (host := "") (Or.inl (wd_26 hw)) Via.refl e0 (S_SUCCESS.ext O0.2) (g := (mkF m 11 #[.val (.int vi0), .val (.int ((vi0 &&& (2147483647 : Int32)) % (3 : Int32)))] [])) rfl (hb hby d4_11)
  obtain ⟨fs, hr, hrun, hended, hW, hsame⟩ := X1.leave (v := some (.ref w_SUCCESS)) (fun h => by rw [Bd.returns] at h; cases h)
  refine ⟨_, _, pre0 _ ?_, hrun, hended, _, _, rfl, ?_, ⟨_, rfl⟩, hW, hsame.mono (by decide) (by decide)⟩
  · show Steps p.tables e below (s₁.setTop (mkF m 0 #[.val (.int vi0), .unset] [])) _
    refine XS.iloadN X0.here hx rfl (hb hby d4_0) rfl ?_
    show Steps p.tables e below (s₁.setTop (mkF m 1 #[.val (.int vi0), .unset] [(.int vi0)])) _
    refine X0.ldcInt hx hown (mvT hZ (wd_25 hw)) (g := (mkF m 1 #[.val (.int vi0), .unset] [(.int vi0)])) rfl (hb hby d4_1) _ ?_
    show Steps p.tables e below (s₁.setTop (mkF m 3 #[.val (.int vi0), .unset] [(.int (2147483647 : Int32)), (.int vi0)])) _
    refine XS.iand X0.here hx rfl (hb hby d4_3) rfl ?_
    show Steps p.tables e below (s₁.setTop (mkF m 4 #[.val (.int vi0), .unset] [(.int (vi0 &&& (2147483647 : Int32)))])) _
    refine XS.iconst X0.here hx rfl (hb hby d4_4) ?_
    show Steps p.tables e below (s₁.setTop (mkF m 5 #[.val (.int vi0), .unset] [(.int (3 : Int32)), (.int (vi0 &&& (2147483647 : Int32)))])) _
    refine iremM X0 hx rfl (hb hby d4_5) rfl (by decide) ?_
    show Steps p.tables e below (s₁.setTop (mkF m 6 #[.val (.int vi0), .unset] [(.int ((vi0 &&& (2147483647 : Int32)) % (3 : Int32)))])) _
    refine XS.istoreN X0.here hx rfl (hb hby d4_6) rfl (l' := #[.val (.int vi0), .val (.int ((vi0 &&& (2147483647 : Int32)) % (3 : Int32)))]) rfl ?_
    show Steps p.tables e below (s₁.setTop (mkF m 7 #[.val (.int vi0), .val (.int ((vi0 &&& (2147483647 : Int32)) % (3 : Int32)))] [])) _
    refine XS.iloadN X0.here hx rfl (hb hby d4_7) rfl ?_
    show Steps p.tables e below (s₁.setTop (mkF m 8 #[.val (.int vi0), .val (.int ((vi0 &&& (2147483647 : Int32)) % (3 : Int32)))] [(.int ((vi0 &&& (2147483647 : Int32)) % (3 : Int32)))])) _
    refine XS.ifNo X0.here hx rfl (hb hby d4_8) rfl ((if0 _ _).trans (teq hc8).2) ?_
    show Steps p.tables e below (s₁.setTop (mkF m 11 #[.val (.int vi0), .val (.int ((vi0 &&& (2147483647 : Int32)) % (3 : Int32)))] [])) _
    refine st1 _ ?_
    show Steps p.tables e below (T1.setTop (mkF m 14 #[.val (.int vi0), .val (.int ((vi0 &&& (2147483647 : Int32)) % (3 : Int32)))] [(.ref w_SUCCESS)])) _
    jvm_step X1.here [X1.here.top, hx, (hb hby d4_14), X1.method', Bd.returns, Value.isRef, FieldType.isReference]
    first | (intro acts; rw [hr _ acts rfl rfl rfl]) | rw [hr _ _ rfl rfl rfl]
    exact Steps.refl _
  · show Q4_SUCCESS Z vi0 w_SUCCESS h0 n0 _ T1.heap _
    rw [e1]
    exact ⟨w_SUCCESS, rfl, N0, rfl, E_w_SUCCESS⟩
theorem d4_15 : decode method_2_code 15 = .ok (.iload_n 1, 1) := by decide +kernel
theorem d4_16 : decode method_2_code 16 = .ok (.iconst 1, 1) := by decide +kernel
theorem d4_17 : decode method_2_code 17 = .ok (.if_icmp .ne 7, 3) := by decide +kernel
theorem d4_20 : decode method_2_code 20 = .ok (.getstatic 14, 3) := by decide +kernel
theorem wd_75 {Z : State} {a0 : Array Value} (hw : ∀ d ∈ tables_1, d.before a0 Z = true) : ((Jvm.Cond.fieldLink "com/example/castellan/castellan/command/CommandReportSetExitCodePinLaw" (14 : Nat) "com/example/castellan/castellan/command/CommandReport$ExitCode" "WARNING" "Lcom/example/castellan/castellan/command/CommandReport$ExitCode;")).before a0 Z = true := hw _ (List.mem_of_getElem? (i := 75) rfl)
theorem d4_23 : decode method_2_code 23 = .ok (.areturn, 1) := by decide +kernel
theorem ef_4_WARNING (m : MethodId) (x0 : Int32) : entryFrame m #[(.int x0)] 2 = mkF m 0 #[.val (.int x0), .unset] [] := by first | (simp [entryFrame, mkF, argsToLocals, Value.category]; done) | rfl
def Q4_WARNING (Z : State) (vi0 : Int32) (w_WARNING : Addr) (h0 : Heap) (n0 : Nat) (v : Option Value) (h : Heap) (L : List Loc) : Prop := ∃ w : Addr, v = some (.ref w) ∧ Fr n0 L ∧ h = h0 ∧ Exa Z Z.heap w "com/example/castellan/castellan/command/CommandReport$ExitCode"
set_option maxRecDepth 65536 in
set_option maxHeartbeats 40000000 in
theorem rm4_WARNING (l : Launch) (Z : State) (a0 : Array Value) (hw : ∀ d ∈ tables_1, d.before a0 Z = true) (ws : List Jvm.Cond) (vi0 : Int32) (w_WARNING : Addr) (h0 : Heap) (n0 : Nat) (Z0 : n0 ≤ h0.size) (E_w_WARNING : Exa Z Z.heap w_WARNING "com/example/castellan/castellan/command/CommandReport$ExitCode") (hc8 : ¬ (((vi0 &&& (2147483647 : Int32)) % (3 : Int32)) = (0 : Int32))) (hc17 : ((vi0 &&& (2147483647 : Int32)) % (3 : Int32)) = (1 : Int32)) (S_WARNING : Sta Z Z.heap "com/example/castellan/castellan/command/CommandReport$ExitCode" "WARNING" "Lcom/example/castellan/castellan/command/CommandReport$ExitCode;" (.ref w_WARNING)) (O0 : Old Z n0 h0) :
    MetFree l (⟨"com/example/castellan/castellan/command/CommandReportSetExitCodePinLaw", "pick", "(I)Lcom/example/castellan/castellan/command/CommandReport$ExitCode;"⟩ : MethodName) (head1 (Jvm.Cond.code (⟨"com/example/castellan/castellan/command/CommandReportSetExitCodePinLaw", "pick", "(I)Lcom/example/castellan/castellan/command/CommandReport$ExitCode;"⟩ : MethodName) method_2_code 2 (some (.object "com/example/castellan/castellan/command/CommandReport$ExitCode")) :: ws) ({ frames := 0, cells := 0, slots := 0, locals := 0 } : Room)) (fun a U => a = #[(.int vi0)] ∧ Z.Warmed39 U.vm ∧ U.heap = h0) (fun _ _ _ _ _ => True) (fun _ U o U' => ∃ v L, o = .returned v ∧ Q4_WARNING Z vi0 w_WARNING h0 n0 v U'.heap L ∧ FrameEnd U o U' L ({ frames := 0, cells := 0, slots := 0, locals := 0 } : Room).cells ({ frames := 0, cells := 0, slots := 0, locals := 0 } : Room).slots) := by
  refine MetFree.of_bodySF (plainFor_of_name pn_com_example_castellan_castellan_command_CommandReportSetExitCodePinLaw) hisR ?_
  intro p e s m args below meth c s₁ Bd hml0 hP hK
  obtain ⟨rfl, hZ, hh⟩ := hP
  have hx := Bd.exec
  have hby := Bd.bytes
  have hml : c.maxLocals = 2 := hml0
  have hown : s.vm.findClass "com/example/castellan/castellan/command/CommandReportSetExitCodePinLaw" = some m.cls := findClass_of_methodNamed Bd.named
  have hnm := (name_of_methodNamed Bd.named Bd.method).1
  have X0 : Stand p l e ({ frames := 0, cells := 0, slots := 0, locals := 0 } : Room) s m #[(.int vi0)] below meth c s₁ [] 0 0 := Stand.of_body Bd
  have e0 : s₁.heap = h0 := by rw [← hh, Bd.state]; rfl
  have N0 := Fr.nil n0
  have pre0 : ∀ t, Steps p.tables e below (s₁.setTop (mkF m 0 #[.val (.int vi0), .unset] [])) t → Steps p.tables e below (s₁.setTop (entryFrame m #[(.int vi0)] 2)) t := fun t k => castTop (ef_4_WARNING m vi0) k
  obtain ⟨T1, X1, e1, st1⟩ := getS2 X0 hx hZ hown (host := "") (Or.inl (wd_75 hw)) Via.refl e0 (S_WARNING.ext O0.2) (g := (mkF m 20 #[.val (.int vi0), .val (.int ((vi0 &&& (2147483647 : Int32)) % (3 : Int32)))] [])) rfl (hb hby d4_20)
  obtain ⟨fs, hr, hrun, hended, hW, hsame⟩ := X1.leave (v := some (.ref w_WARNING)) (fun h => by rw [Bd.returns] at h; cases h)
  refine ⟨_, _, pre0 _ ?_, hrun, hended, _, _, rfl, ?_, ⟨_, rfl⟩, hW, hsame.mono (by decide) (by decide)⟩
  · show Steps p.tables e below (s₁.setTop (mkF m 0 #[.val (.int vi0), .unset] [])) _
    refine XS.iloadN X0.here hx rfl (hb hby d4_0) rfl ?_
    show Steps p.tables e below (s₁.setTop (mkF m 1 #[.val (.int vi0), .unset] [(.int vi0)])) _
    refine X0.ldcInt hx hown (mvT hZ (wd_25 hw)) (g := (mkF m 1 #[.val (.int vi0), .unset] [(.int vi0)])) rfl (hb hby d4_1) _ ?_
    show Steps p.tables e below (s₁.setTop (mkF m 3 #[.val (.int vi0), .unset] [(.int (2147483647 : Int32)), (.int vi0)])) _
    refine XS.iand X0.here hx rfl (hb hby d4_3) rfl ?_
    show Steps p.tables e below (s₁.setTop (mkF m 4 #[.val (.int vi0), .unset] [(.int (vi0 &&& (2147483647 : Int32)))])) _
    refine XS.iconst X0.here hx rfl (hb hby d4_4) ?_
    show Steps p.tables e below (s₁.setTop (mkF m 5 #[.val (.int vi0), .unset] [(.int (3 : Int32)), (.int (vi0 &&& (2147483647 : Int32)))])) _
    refine iremM X0 hx rfl (hb hby d4_5) rfl (by decide) ?_
    show Steps p.tables e below (s₁.setTop (mkF m 6 #[.val (.int vi0), .unset] [(.int ((vi0 &&& (2147483647 : Int32)) % (3 : Int32)))])) _
    refine XS.istoreN X0.here hx rfl (hb hby d4_6) rfl (l' := #[.val (.int vi0), .val (.int ((vi0 &&& (2147483647 : Int32)) % (3 : Int32)))]) rfl ?_
    show Steps p.tables e below (s₁.setTop (mkF m 7 #[.val (.int vi0), .val (.int ((vi0 &&& (2147483647 : Int32)) % (3 : Int32)))] [])) _
    refine XS.iloadN X0.here hx rfl (hb hby d4_7) rfl ?_
    show Steps p.tables e below (s₁.setTop (mkF m 8 #[.val (.int vi0), .val (.int ((vi0 &&& (2147483647 : Int32)) % (3 : Int32)))] [(.int ((vi0 &&& (2147483647 : Int32)) % (3 : Int32)))])) _
    refine XS.ifYes X0.here hx rfl (pc0 := 8) (pc' := 15) rfl (hb hby d4_8) rfl ((if0 _ _).trans (feq hc8).2) (by decide) (by decide) ?_
    show Steps p.tables e below (s₁.setTop (mkF m 15 #[.val (.int vi0), .val (.int ((vi0 &&& (2147483647 : Int32)) % (3 : Int32)))] [])) _
    refine XS.iloadN X0.here hx rfl (hb hby d4_15) rfl ?_
    show Steps p.tables e below (s₁.setTop (mkF m 16 #[.val (.int vi0), .val (.int ((vi0 &&& (2147483647 : Int32)) % (3 : Int32)))] [(.int ((vi0 &&& (2147483647 : Int32)) % (3 : Int32)))])) _
    refine XS.iconst X0.here hx rfl (hb hby d4_16) ?_
    show Steps p.tables e below (s₁.setTop (mkF m 17 #[.val (.int vi0), .val (.int ((vi0 &&& (2147483647 : Int32)) % (3 : Int32)))] [(.int (1 : Int32)), (.int ((vi0 &&& (2147483647 : Int32)) % (3 : Int32)))])) _
    refine XS.icmpNo X0.here hx rfl (hb hby d4_17) rfl (teq hc17).2 ?_
    show Steps p.tables e below (s₁.setTop (mkF m 20 #[.val (.int vi0), .val (.int ((vi0 &&& (2147483647 : Int32)) % (3 : Int32)))] [])) _
    refine st1 _ ?_
    show Steps p.tables e below (T1.setTop (mkF m 23 #[.val (.int vi0), .val (.int ((vi0 &&& (2147483647 : Int32)) % (3 : Int32)))] [(.ref w_WARNING)])) _
    jvm_step X1.here [X1.here.top, hx, (hb hby d4_23), X1.method', Bd.returns, Value.isRef, FieldType.isReference]
    first | (intro acts; rw [hr _ acts rfl rfl rfl]) | rw [hr _ _ rfl rfl rfl]
    exact Steps.refl _
  · show Q4_WARNING Z vi0 w_WARNING h0 n0 _ T1.heap _
    rw [e1]
    exact ⟨w_WARNING, rfl, N0, rfl, E_w_WARNING⟩
theorem d4_24 : decode method_2_code 24 = .ok (.getstatic 17, 3) := by decide +kernel
theorem wd_77 {Z : State} {a0 : Array Value} (hw : ∀ d ∈ tables_1, d.before a0 Z = true) : ((Jvm.Cond.fieldLink "com/example/castellan/castellan/command/CommandReportSetExitCodePinLaw" (17 : Nat) "com/example/castellan/castellan/command/CommandReport$ExitCode" "FAILURE" "Lcom/example/castellan/castellan/command/CommandReport$ExitCode;")).before a0 Z = true := hw _ (List.mem_of_getElem? (i := 77) rfl)
theorem d4_27 : decode method_2_code 27 = .ok (.areturn, 1) := by decide +kernel
theorem ef_4_FAILURE (m : MethodId) (x0 : Int32) : entryFrame m #[(.int x0)] 2 = mkF m 0 #[.val (.int x0), .unset] [] := by first | (simp [entryFrame, mkF, argsToLocals, Value.category]; done) | rfl
def Q4_FAILURE (Z : State) (vi0 : Int32) (w_FAILURE : Addr) (h0 : Heap) (n0 : Nat) (v : Option Value) (h : Heap) (L : List Loc) : Prop := ∃ w : Addr, v = some (.ref w) ∧ Fr n0 L ∧ h = h0 ∧ Exa Z Z.heap w "com/example/castellan/castellan/command/CommandReport$ExitCode"
set_option maxRecDepth 65536 in
set_option maxHeartbeats 40000000 in
theorem rm4_FAILURE (l : Launch) (Z : State) (a0 : Array Value) (hw : ∀ d ∈ tables_1, d.before a0 Z = true) (ws : List Jvm.Cond) (vi0 : Int32) (w_FAILURE : Addr) (h0 : Heap) (n0 : Nat) (Z0 : n0 ≤ h0.size) (E_w_FAILURE : Exa Z Z.heap w_FAILURE "com/example/castellan/castellan/command/CommandReport$ExitCode") (hc8 : ¬ (((vi0 &&& (2147483647 : Int32)) % (3 : Int32)) = (0 : Int32))) (hc17 : ¬ (((vi0 &&& (2147483647 : Int32)) % (3 : Int32)) = (1 : Int32))) (S_FAILURE : Sta Z Z.heap "com/example/castellan/castellan/command/CommandReport$ExitCode" "FAILURE" "Lcom/example/castellan/castellan/command/CommandReport$ExitCode;" (.ref w_FAILURE)) (O0 : Old Z n0 h0) :
    MetFree l (⟨"com/example/castellan/castellan/command/CommandReportSetExitCodePinLaw", "pick", "(I)Lcom/example/castellan/castellan/command/CommandReport$ExitCode;"⟩ : MethodName) (head1 (Jvm.Cond.code (⟨"com/example/castellan/castellan/command/CommandReportSetExitCodePinLaw", "pick", "(I)Lcom/example/castellan/castellan/command/CommandReport$ExitCode;"⟩ : MethodName) method_2_code 2 (some (.object "com/example/castellan/castellan/command/CommandReport$ExitCode")) :: ws) ({ frames := 0, cells := 0, slots := 0, locals := 0 } : Room)) (fun a U => a = #[(.int vi0)] ∧ Z.Warmed39 U.vm ∧ U.heap = h0) (fun _ _ _ _ _ => True) (fun _ U o U' => ∃ v L, o = .returned v ∧ Q4_FAILURE Z vi0 w_FAILURE h0 n0 v U'.heap L ∧ FrameEnd U o U' L ({ frames := 0, cells := 0, slots := 0, locals := 0 } : Room).cells ({ frames := 0, cells := 0, slots := 0, locals := 0 } : Room).slots) := by
  refine MetFree.of_bodySF (plainFor_of_name pn_com_example_castellan_castellan_command_CommandReportSetExitCodePinLaw) hisR ?_
  intro p e s m args below meth c s₁ Bd hml0 hP hK
  obtain ⟨rfl, hZ, hh⟩ := hP
  have hx := Bd.exec
  have hby := Bd.bytes
  have hml : c.maxLocals = 2 := hml0
  have hown : s.vm.findClass "com/example/castellan/castellan/command/CommandReportSetExitCodePinLaw" = some m.cls := findClass_of_methodNamed Bd.named
  have hnm := (name_of_methodNamed Bd.named Bd.method).1
  have X0 : Stand p l e ({ frames := 0, cells := 0, slots := 0, locals := 0 } : Room) s m #[(.int vi0)] below meth c s₁ [] 0 0 := Stand.of_body Bd
  have e0 : s₁.heap = h0 := by rw [← hh, Bd.state]; rfl
  have N0 := Fr.nil n0
  have pre0 : ∀ t, Steps p.tables e below (s₁.setTop (mkF m 0 #[.val (.int vi0), .unset] [])) t → Steps p.tables e below (s₁.setTop (entryFrame m #[(.int vi0)] 2)) t := fun t k => castTop (ef_4_FAILURE m vi0) k
  obtain ⟨T1, X1, e1, st1⟩ := getS2 X0 hx hZ hown (host := "") (Or.inl (wd_77 hw)) Via.refl e0 (S_FAILURE.ext O0.2) (g := (mkF m 24 #[.val (.int vi0), .val (.int ((vi0 &&& (2147483647 : Int32)) % (3 : Int32)))] [])) rfl (hb hby d4_24)
  obtain ⟨fs, hr, hrun, hended, hW, hsame⟩ := X1.leave (v := some (.ref w_FAILURE)) (fun h => by rw [Bd.returns] at h; cases h)
  refine ⟨_, _, pre0 _ ?_, hrun, hended, _, _, rfl, ?_, ⟨_, rfl⟩, hW, hsame.mono (by decide) (by decide)⟩
  · show Steps p.tables e below (s₁.setTop (mkF m 0 #[.val (.int vi0), .unset] [])) _
    refine XS.iloadN X0.here hx rfl (hb hby d4_0) rfl ?_
    show Steps p.tables e below (s₁.setTop (mkF m 1 #[.val (.int vi0), .unset] [(.int vi0)])) _
    refine X0.ldcInt hx hown (mvT hZ (wd_25 hw)) (g := (mkF m 1 #[.val (.int vi0), .unset] [(.int vi0)])) rfl (hb hby d4_1) _ ?_
    show Steps p.tables e below (s₁.setTop (mkF m 3 #[.val (.int vi0), .unset] [(.int (2147483647 : Int32)), (.int vi0)])) _
    refine XS.iand X0.here hx rfl (hb hby d4_3) rfl ?_
    show Steps p.tables e below (s₁.setTop (mkF m 4 #[.val (.int vi0), .unset] [(.int (vi0 &&& (2147483647 : Int32)))])) _
    refine XS.iconst X0.here hx rfl (hb hby d4_4) ?_
    show Steps p.tables e below (s₁.setTop (mkF m 5 #[.val (.int vi0), .unset] [(.int (3 : Int32)), (.int (vi0 &&& (2147483647 : Int32)))])) _
    refine iremM X0 hx rfl (hb hby d4_5) rfl (by decide) ?_
    show Steps p.tables e below (s₁.setTop (mkF m 6 #[.val (.int vi0), .unset] [(.int ((vi0 &&& (2147483647 : Int32)) % (3 : Int32)))])) _
    refine XS.istoreN X0.here hx rfl (hb hby d4_6) rfl (l' := #[.val (.int vi0), .val (.int ((vi0 &&& (2147483647 : Int32)) % (3 : Int32)))]) rfl ?_
    show Steps p.tables e below (s₁.setTop (mkF m 7 #[.val (.int vi0), .val (.int ((vi0 &&& (2147483647 : Int32)) % (3 : Int32)))] [])) _
    refine XS.iloadN X0.here hx rfl (hb hby d4_7) rfl ?_
    show Steps p.tables e below (s₁.setTop (mkF m 8 #[.val (.int vi0), .val (.int ((vi0 &&& (2147483647 : Int32)) % (3 : Int32)))] [(.int ((vi0 &&& (2147483647 : Int32)) % (3 : Int32)))])) _
    refine XS.ifYes X0.here hx rfl (pc0 := 8) (pc' := 15) rfl (hb hby d4_8) rfl ((if0 _ _).trans (feq hc8).2) (by decide) (by decide) ?_
    show Steps p.tables e below (s₁.setTop (mkF m 15 #[.val (.int vi0), .val (.int ((vi0 &&& (2147483647 : Int32)) % (3 : Int32)))] [])) _
    refine XS.iloadN X0.here hx rfl (hb hby d4_15) rfl ?_
    show Steps p.tables e below (s₁.setTop (mkF m 16 #[.val (.int vi0), .val (.int ((vi0 &&& (2147483647 : Int32)) % (3 : Int32)))] [(.int ((vi0 &&& (2147483647 : Int32)) % (3 : Int32)))])) _
    refine XS.iconst X0.here hx rfl (hb hby d4_16) ?_
    show Steps p.tables e below (s₁.setTop (mkF m 17 #[.val (.int vi0), .val (.int ((vi0 &&& (2147483647 : Int32)) % (3 : Int32)))] [(.int (1 : Int32)), (.int ((vi0 &&& (2147483647 : Int32)) % (3 : Int32)))])) _
    refine XS.icmpYes X0.here hx rfl (pc0 := 17) (pc' := 24) rfl (hb hby d4_17) rfl (feq hc17).2 (by decide) (by decide) ?_
    show Steps p.tables e below (s₁.setTop (mkF m 24 #[.val (.int vi0), .val (.int ((vi0 &&& (2147483647 : Int32)) % (3 : Int32)))] [])) _
    refine st1 _ ?_
    show Steps p.tables e below (T1.setTop (mkF m 27 #[.val (.int vi0), .val (.int ((vi0 &&& (2147483647 : Int32)) % (3 : Int32)))] [(.ref w_FAILURE)])) _
    jvm_step X1.here [X1.here.top, hx, (hb hby d4_27), X1.method', Bd.returns, Value.isRef, FieldType.isReference]
    first | (intro acts; rw [hr _ acts rfl rfl rfl]) | rw [hr _ _ rfl rfl rfl]
    exact Steps.refl _
  · show Q4_FAILURE Z vi0 w_FAILURE h0 n0 _ T1.heap _
    rw [e1]
    exact ⟨w_FAILURE, rfl, N0, rfl, E_w_FAILURE⟩
def QPick (Z : State) (vi0 : Int32) (w_SUCCESS : Addr) (w_WARNING : Addr) (w_FAILURE : Addr) (h0 : Heap) (n0 : Nat) (v : Option Value) (h : Heap) (L : List Loc) : Prop := ∃ w : Addr, v = some (.ref w) ∧ Fr n0 L ∧ h = h0 ∧ Exa Z Z.heap w "com/example/castellan/castellan/command/CommandReport$ExitCode"
set_option maxRecDepth 65536 in
set_option maxHeartbeats 4000000 in
theorem rmPick (l : Launch) (Z : State) (a0 : Array Value) (hw : ∀ d ∈ tables_1, d.before a0 Z = true) (ws : List Jvm.Cond) (vi0 : Int32) (w_SUCCESS : Addr) (w_WARNING : Addr) (w_FAILURE : Addr) (h0 : Heap) (n0 : Nat) (Z0 : n0 ≤ h0.size) (E_w_SUCCESS : Exa Z Z.heap w_SUCCESS "com/example/castellan/castellan/command/CommandReport$ExitCode") (S_SUCCESS : Sta Z Z.heap "com/example/castellan/castellan/command/CommandReport$ExitCode" "SUCCESS" "Lcom/example/castellan/castellan/command/CommandReport$ExitCode;" (.ref w_SUCCESS)) (O0 : Old Z n0 h0) (E_w_WARNING : Exa Z Z.heap w_WARNING "com/example/castellan/castellan/command/CommandReport$ExitCode") (S_WARNING : Sta Z Z.heap "com/example/castellan/castellan/command/CommandReport$ExitCode" "WARNING" "Lcom/example/castellan/castellan/command/CommandReport$ExitCode;" (.ref w_WARNING)) (E_w_FAILURE : Exa Z Z.heap w_FAILURE "com/example/castellan/castellan/command/CommandReport$ExitCode") (S_FAILURE : Sta Z Z.heap "com/example/castellan/castellan/command/CommandReport$ExitCode" "FAILURE" "Lcom/example/castellan/castellan/command/CommandReport$ExitCode;" (.ref w_FAILURE)) :
    MetFree l (⟨"com/example/castellan/castellan/command/CommandReportSetExitCodePinLaw", "pick", "(I)Lcom/example/castellan/castellan/command/CommandReport$ExitCode;"⟩ : MethodName) (head1 (Jvm.Cond.code (⟨"com/example/castellan/castellan/command/CommandReportSetExitCodePinLaw", "pick", "(I)Lcom/example/castellan/castellan/command/CommandReport$ExitCode;"⟩ : MethodName) method_2_code 2 (some (.object "com/example/castellan/castellan/command/CommandReport$ExitCode")) :: ws) ({ frames := 0, cells := 0, slots := 0, locals := 0 } : Room)) (fun a U => a = #[(.int vi0)] ∧ Z.Warmed39 U.vm ∧ U.heap = h0) (fun _ _ _ _ _ => True) (fun _ U o U' => ∃ v L, o = .returned v ∧ QPick Z vi0 w_SUCCESS w_WARNING w_FAILURE h0 n0 v U'.heap L ∧ FrameEnd U o U' L ({ frames := 0, cells := 0, slots := 0, locals := 0 } : Room).cells ({ frames := 0, cells := 0, slots := 0, locals := 0 } : Room).slots) := by
  by_cases hc8 : ((vi0 &&& (2147483647 : Int32)) % (3 : Int32)) = (0 : Int32)
  · exact rm4_SUCCESS l Z a0 hw ws vi0 w_SUCCESS h0 n0 Z0 E_w_SUCCESS hc8 S_SUCCESS O0
  · skip
    by_cases hc17 : ((vi0 &&& (2147483647 : Int32)) % (3 : Int32)) = (1 : Int32)
    · exact rm4_WARNING l Z a0 hw ws vi0 w_WARNING h0 n0 Z0 E_w_WARNING hc8 hc17 S_WARNING O0
    · skip
      exact rm4_FAILURE l Z a0 hw ws vi0 w_FAILURE h0 n0 Z0 E_w_FAILURE hc8 hc17 S_FAILURE O0
theorem d10_0 : decode jdk_43_method_3_code 0 = .ok (.iload_n 0, 1) := by decide +kernel
theorem d10_1 : decode jdk_43_method_3_code 1 = .ok (.sipush 255, 3) := by decide +kernel
theorem d10_4 : decode jdk_43_method_3_code 4 = .ok (.if_icmp .gt 7, 3) := by decide +kernel
theorem d10_7 : decode jdk_43_method_3_code 7 = .ok (.iconst 1, 1) := by decide +kernel
theorem d10_8 : decode jdk_43_method_3_code 8 = .ok (.goto 4, 3) := by decide +kernel
theorem d10_12 : decode jdk_43_method_3_code 12 = .ok (.ireturn, 1) := by decide +kernel
theorem pn_java_lang_StringLatin1 : plainName "java/lang/StringLatin1" = true := by first | (simp [plainName, overriddenIn]; done) | decide +kernel
theorem ef_10 (m : MethodId) (x0 : Int32) : entryFrame m #[(.int x0)] 1 = mkF m 0 #[.val (.int x0)] [] := by first | (simp [entryFrame, mkF, argsToLocals, Value.category]; done) | rfl
def Q10 (Z : State) (vi0 : Int32) (h0 : Heap) (n0 : Nat) (v : Option Value) (h : Heap) (L : List Loc) : Prop := v = some (.int (1 : Int32)) ∧ Fr n0 L ∧ h = h0
set_option maxRecDepth 65536 in
set_option maxHeartbeats 40000000 in
theorem rm10 (l : Launch) (Z : State) (a0 : Array Value) (hw : ∀ d ∈ tables_1, d.before a0 Z = true) (ws : List Jvm.Cond) (vi0 : Int32) (h0 : Heap) (n0 : Nat) (Z0 : n0 ≤ h0.size) (hc4 : ¬ ((255 : Int32) < vi0)) :
    MetFree l (⟨"java/lang/StringLatin1", "canEncode", "(C)Z"⟩ : MethodName) (head1 (Jvm.Cond.code (⟨"java/lang/StringLatin1", "canEncode", "(C)Z"⟩ : MethodName) jdk_43_method_3_code 1 (some .boolean) :: ws) ({ frames := 0, cells := 0, slots := 0, locals := 0 } : Room)) (fun a U => a = #[(.int vi0)] ∧ Z.Warmed39 U.vm ∧ U.heap = h0) (fun _ _ _ _ _ => True) (fun _ U o U' => ∃ v L, o = .returned v ∧ Q10 Z vi0 h0 n0 v U'.heap L ∧ FrameEnd U o U' L ({ frames := 0, cells := 0, slots := 0, locals := 0 } : Room).cells ({ frames := 0, cells := 0, slots := 0, locals := 0 } : Room).slots) := by
  refine MetFree.of_bodySF (plainFor_of_name pn_java_lang_StringLatin1) hisR ?_
  intro p e s m args below meth c s₁ Bd hml0 hP hK
  obtain ⟨rfl, hZ, hh⟩ := hP
  have hx := Bd.exec
  have hby := Bd.bytes
  have hml : c.maxLocals = 1 := hml0
  have hown : s.vm.findClass "java/lang/StringLatin1" = some m.cls := findClass_of_methodNamed Bd.named
  have hnm := (name_of_methodNamed Bd.named Bd.method).1
  have X0 : Stand p l e ({ frames := 0, cells := 0, slots := 0, locals := 0 } : Room) s m #[(.int vi0)] below meth c s₁ [] 0 0 := Stand.of_body Bd
  have e0 : s₁.heap = h0 := by rw [← hh, Bd.state]; rfl
  have N0 := Fr.nil n0
  have pre0 : ∀ t, Steps p.tables e below (s₁.setTop (mkF m 0 #[.val (.int vi0)] [])) t → Steps p.tables e below (s₁.setTop (entryFrame m #[(.int vi0)] 1)) t := fun t k => castTop (ef_10 m vi0) k
  obtain ⟨fs, hr, hrun, hended, hW, hsame⟩ := X0.leave (v := some (.int (1 : Int32))) (fun h => by rw [Bd.returns] at h; cases h)
  refine ⟨_, _, pre0 _ ?_, hrun, hended, _, _, rfl, ?_, ⟨_, rfl⟩, hW, hsame.mono (by decide) (by decide)⟩
  · show Steps p.tables e below (s₁.setTop (mkF m 0 #[.val (.int vi0)] [])) _
    refine XS.iloadN X0.here hx rfl (hb hby d10_0) rfl ?_
    show Steps p.tables e below (s₁.setTop (mkF m 1 #[.val (.int vi0)] [(.int vi0)])) _
    refine XS.sipush X0.here hx rfl (hb hby d10_1) ?_
    show Steps p.tables e below (s₁.setTop (mkF m 4 #[.val (.int vi0)] [(.int (255 : Int32)), (.int vi0)])) _
    refine XS.icmpNo X0.here hx rfl (hb hby d10_4) rfl (flt hc4).2.2.1 ?_
    show Steps p.tables e below (s₁.setTop (mkF m 7 #[.val (.int vi0)] [])) _
    refine XS.iconst X0.here hx rfl (hb hby d10_7) ?_
    show Steps p.tables e below (s₁.setTop (mkF m 8 #[.val (.int vi0)] [(.int (1 : Int32))])) _
    refine XS.goto X0.here hx rfl (pc0 := 8) (pc' := 12) rfl (hb hby d10_8) (by decide) (by decide) ?_
    show Steps p.tables e below (s₁.setTop (mkF m 12 #[.val (.int vi0)] [(.int (1 : Int32))])) _
    exact retN X0 hx (t := .boolean) Bd.returns (by simp) (hb hby d10_12) hr
  · show Q10 Z vi0 h0 n0 _ s₁.heap _
    rw [e0]
    exact ⟨rfl, N0, rfl⟩
theorem d11_0 : decode jdk_43_method_46_code 0 = .ok (.iconst 1, 1) := by decide +kernel
theorem d11_1 : decode jdk_43_method_46_code 1 = .ok (.newarray .byte, 2) := by decide +kernel
theorem wd_35 {Z : State} {a0 : Array Value} (hw : ∀ d ∈ tables_1, d.before a0 Z = true) : ((Jvm.Cond.arrayClass Jvm.ClassFile.FieldType.byte)).before a0 Z = true := hw _ (List.mem_of_getElem? (i := 35) rfl)
theorem d11_3 : decode jdk_43_method_46_code 3 = .ok (.dup, 1) := by decide +kernel
theorem d11_4 : decode jdk_43_method_46_code 4 = .ok (.iconst 0, 1) := by decide +kernel
theorem d11_5 : decode jdk_43_method_46_code 5 = .ok (.iload_n 0, 1) := by decide +kernel
theorem d11_6 : decode jdk_43_method_46_code 6 = .ok (.i2b, 1) := by decide +kernel
theorem d11_7 : decode jdk_43_method_46_code 7 = .ok (.bastore, 1) := by decide +kernel
theorem d11_8 : decode jdk_43_method_46_code 8 = .ok (.areturn, 1) := by decide +kernel
theorem ef_11 (m : MethodId) (x0 : Int32) : entryFrame m #[(.int x0)] 1 = mkF m 0 #[.val (.int x0)] [] := by first | (simp [entryFrame, mkF, argsToLocals, Value.category]; done) | rfl
def Q11 (Z : State) (vi0 : Int32) (h0 : Heap) (n0 : Nat) (v : Option Value) (h : Heap) (L : List Loc) : Prop := ∃ t : Addr, ∃ kt : ClassId, v = some (.ref t) ∧ Fr n0 L ∧ Keep h0 h [] ∧ h0.size ≤ t ∧ Arv Z h t kt .byte (1 : Int32) [(.int (vi0.toInt8.toInt32).toInt8.toInt32)] (.int (0 : Int32))
set_option maxRecDepth 65536 in
set_option maxHeartbeats 40000000 in
theorem rm11 (l : Launch) (Z : State) (a0 : Array Value) (hw : ∀ d ∈ tables_1, d.before a0 Z = true) (ws : List Jvm.Cond) (vi0 : Int32) (h0 : Heap) (n0 : Nat) (Z0 : n0 ≤ h0.size) :
    MetFree l (⟨"java/lang/StringLatin1", "toBytes", "(C)[B"⟩ : MethodName) (head1 (Jvm.Cond.code (⟨"java/lang/StringLatin1", "toBytes", "(C)[B"⟩ : MethodName) jdk_43_method_46_code 1 (some (.array .byte)) :: ws) ({ frames := 0, cells := 1, slots := 1, locals := 0 } : Room)) (fun a U => a = #[(.int vi0)] ∧ Z.Warmed39 U.vm ∧ U.heap = h0) (fun _ _ _ _ _ => True) (fun _ U o U' => ∃ v L, o = .returned v ∧ Q11 Z vi0 h0 n0 v U'.heap L ∧ FrameEnd U o U' L ({ frames := 0, cells := 1, slots := 1, locals := 0 } : Room).cells ({ frames := 0, cells := 1, slots := 1, locals := 0 } : Room).slots) := by
  refine MetFree.of_bodySF (plainFor_of_name pn_java_lang_StringLatin1) hisR ?_
  intro p e s m args below meth c s₁ Bd hml0 hP hK
  obtain ⟨rfl, hZ, hh⟩ := hP
  have hx := Bd.exec
  have hby := Bd.bytes
  have hml : c.maxLocals = 1 := hml0
  have hown : s.vm.findClass "java/lang/StringLatin1" = some m.cls := findClass_of_methodNamed Bd.named
  have hnm := (name_of_methodNamed Bd.named Bd.method).1
  have X0 : Stand p l e ({ frames := 0, cells := 1, slots := 1, locals := 0 } : Room) s m #[(.int vi0)] below meth c s₁ [] 0 0 := Stand.of_body Bd
  have e0 : s₁.heap = h0 := by rw [← hh, Bd.state]; rfl
  have N0 := Fr.nil n0
  have pre0 : ∀ t, Steps p.tables e below (s₁.setTop (mkF m 0 #[.val (.int vi0)] [])) t → Steps p.tables e below (s₁.setTop (entryFrame m #[(.int vi0)] 1)) t := fun t k => castTop (ef_11 m vi0) k
  obtain ⟨T1, h1, k1, X1, e1, E1, A1, st1⟩ := newP X0 hx hZ (aty := .byte) (wd_35 hw) e0 (g := (mkF m 1 #[.val (.int vi0)] [(.int (1 : Int32))])) rfl (hb hby d11_1) rfl (by decide) (cap := 1) (by decide) (by decide) (by decide) (by decide)
  obtain ⟨b1, g1⟩ : ∃ z, z = h0.size := ⟨_, rfl⟩
  rw [← g1] at A1 st1
  have g_b1 : n0 ≤ b1 := Nat.le_trans Z0 (Nat.le_of_eq g1.symm)
  have sz_b1 : h0.size ≤ b1 := Nat.le_trans (Keep.refl h0 []).1 (Nat.le_of_eq g1.symm)
  have K1 : Keep h0 h1 [] := (Keep.refl h0 []).ext E1
  have V_b1 : Arv Z h1 b1 k1 .byte (1 : Int32) [(.int (0 : Int32))] (.int (0 : Int32)) := (Arv.new A1 (by decide)).pad (pad_rep [] (.int (0 : Int32)) 1)
  obtain ⟨cl2, Ar2, q2, Sz2, Ng2, Hh2, Gg2⟩ := V_b1
  have hin2 : ¬ ((0 : Int32) < 0 ∨ cl2.slots.size ≤ ((0 : Int32)).toNatClampNeg) := inb_of Sz2 ⟨by decide, by decide⟩
  obtain ⟨T2, h2, X2, e2, W2, st2⟩ := stB X1 hx hZ e1 Ar2 (j := (0 : Int32)) hin2 (g := (mkF m 7 #[.val (.int vi0)] [(.int (vi0.toInt8.toInt32)), (.int (0 : Int32)), (.ref b1), (.ref b1)])) rfl rfl (hb hby d11_7)
  have V_b1_2 : Arv Z h2 b1 k1 .byte (1 : Int32) [(.int (vi0.toInt8.toInt32).toInt8.toInt32)] (.int (0 : Int32)) := Arv.set Ar2 q2 Sz2 Ng2 Hh2 Gg2 (fits_nar_byte _) W2 0 rfl (Nat.le_of_ble_eq_true rfl)
  have N2 := Fr.snoc X2 N0 g_b1
  have K2 : Keep h0 h2 [] := K1.wr W2 (Or.inr sz_b1)
  obtain ⟨fs, hr, hrun, hended, hW, hsame⟩ := X2.leave (v := some (.ref b1)) (fun h => by rw [Bd.returns] at h; cases h)
  refine ⟨_, _, pre0 _ ?_, hrun, hended, _, _, rfl, ?_, ⟨_, rfl⟩, hW, hsame.mono (by decide) (by decide)⟩
  · show Steps p.tables e below (s₁.setTop (mkF m 0 #[.val (.int vi0)] [])) _
    refine XS.iconst X0.here hx rfl (hb hby d11_0) ?_
    show Steps p.tables e below (s₁.setTop (mkF m 1 #[.val (.int vi0)] [(.int (1 : Int32))])) _
    refine st1 _ ?_
    show Steps p.tables e below (T1.setTop (mkF m 3 #[.val (.int vi0)] [(.ref b1)])) _
    refine XS.dup X1.here hx rfl (hb hby d11_3) rfl rfl ?_
    show Steps p.tables e below (T1.setTop (mkF m 4 #[.val (.int vi0)] [(.ref b1), (.ref b1)])) _
    refine XS.iconst X1.here hx rfl (hb hby d11_4) ?_
    show Steps p.tables e below (T1.setTop (mkF m 5 #[.val (.int vi0)] [(.int (0 : Int32)), (.ref b1), (.ref b1)])) _
    refine XS.iloadN X1.here hx rfl (hb hby d11_5) rfl ?_
    show Steps p.tables e below (T1.setTop (mkF m 6 #[.val (.int vi0)] [(.int vi0), (.int (0 : Int32)), (.ref b1), (.ref b1)])) _
    refine XS.i2b X1.here hx rfl (hb hby d11_6) rfl ?_
    show Steps p.tables e below (T1.setTop (mkF m 7 #[.val (.int vi0)] [(.int (vi0.toInt8.toInt32)), (.int (0 : Int32)), (.ref b1), (.ref b1)])) _
    refine st2 _ ?_
    show Steps p.tables e below (T2.setTop (mkF m 8 #[.val (.int vi0)] [(.ref b1)])) _
    jvm_step X2.here [X2.here.top, hx, (hb hby d11_8), X2.method', Bd.returns, Value.isRef, FieldType.isReference]
    first | (intro acts; rw [hr _ acts rfl rfl rfl]) | rw [hr _ _ rfl rfl rfl]
    exact Steps.refl _
  · show Q11 Z vi0 h0 n0 _ T2.heap _
    rw [e2]
    exact ⟨b1, k1, rfl, N2, K2, sz_b1, V_b1_2⟩
theorem d12_0 : decode jdk_42_method_151_code 0 = .ok (.aload_n 0, 1) := by decide +kernel
theorem d12_1 : decode jdk_42_method_151_code 1 = .ok (.invokespecial 1, 3) := by decide +kernel
theorem wd_72 {Z : State} {a0 : Array Value} (hw : ∀ d ∈ tables_1, d.before a0 Z = true) : ((Jvm.Cond.methodLink "java/lang/String" (1 : Nat) ({ cls := "java/lang/Object", name := "<init>", desc := "()V" } : Jvm.MethodName))).before a0 Z = true := hw _ (List.mem_of_getElem? (i := 72) rfl)
theorem d12_4 : decode jdk_42_method_151_code 4 = .ok (.aload_n 0, 1) := by decide +kernel
theorem d12_5 : decode jdk_42_method_151_code 5 = .ok (.aload_n 1, 1) := by decide +kernel
theorem d12_6 : decode jdk_42_method_151_code 6 = .ok (.putfield 9, 3) := by decide +kernel
theorem wd_73 {Z : State} {a0 : Array Value} (hw : ∀ d ∈ tables_1, d.before a0 Z = true) : ((Jvm.Cond.fieldLink "java/lang/String" (9 : Nat) "java/lang/String" "value" "[B")).before a0 Z = true := hw _ (List.mem_of_getElem? (i := 73) rfl)
theorem wd_36 {Z : State} {a0 : Array Value} (hw : ∀ d ∈ tables_1, d.before a0 Z = true) : ((Jvm.Cond.laysFinal "java/lang/String" "java/lang/String" "value" "[B")).before a0 Z = true := hw _ (List.mem_of_getElem? (i := 36) rfl)
theorem wd_34 {Z : State} {a0 : Array Value} (hw : ∀ d ∈ tables_1, d.before a0 Z = true) : ((Jvm.Cond.instantiable "java/lang/String" (4 : Nat))).before a0 Z = true := hw _ (List.mem_of_getElem? (i := 34) rfl)
theorem d12_9 : decode jdk_42_method_151_code 9 = .ok (.aload_n 0, 1) := by decide +kernel
theorem d12_10 : decode jdk_42_method_151_code 10 = .ok (.iload_n 2, 1) := by decide +kernel
theorem d12_11 : decode jdk_42_method_151_code 11 = .ok (.putfield 15, 3) := by decide +kernel
theorem wd_74 {Z : State} {a0 : Array Value} (hw : ∀ d ∈ tables_1, d.before a0 Z = true) : ((Jvm.Cond.fieldLink "java/lang/String" (15 : Nat) "java/lang/String" "coder" "B")).before a0 Z = true := hw _ (List.mem_of_getElem? (i := 74) rfl)
theorem wd_37 {Z : State} {a0 : Array Value} (hw : ∀ d ∈ tables_1, d.before a0 Z = true) : ((Jvm.Cond.laysFinal "java/lang/String" "java/lang/String" "coder" "B")).before a0 Z = true := hw _ (List.mem_of_getElem? (i := 37) rfl)
theorem sl_2 {Z : State} {a0 : Array Value} (hw : ∀ d ∈ tables_1, d.before a0 Z = true) : RoadKit.slotOf Z "java/lang/String" "coder" "B" ≠ RoadKit.slotOf Z "java/lang/String" "value" "[B" := slot_ne (Or.inr (wd_37 hw)) (Or.inr (wd_36 hw)) (by decide) (t := .byte) (t' := (.array .byte)) (by decide) (by decide)
theorem d12_14 : decode jdk_42_method_151_code 14 = .ok (.return_, 1) := by decide +kernel
theorem pn_java_lang_String : plainName "java/lang/String" = true := by first | (simp [plainName, overriddenIn]; done) | decide +kernel
theorem ef_12 (m : MethodId) (x0 : Addr) (x1 : Addr) (x2 : Int32) : entryFrame m #[(.ref x0), (.ref x1), (.int x2)] 3 = mkF m 0 #[.val (.ref x0), .val (.ref x1), .val (.int x2)] [] := by first | (simp [entryFrame, mkF, argsToLocals, Value.category]; done) | rfl
def Q12 (Z : State) (vr0 : Addr) (vr1 : Addr) (vi2 : Int32) (u_value_vr0 : Value) (u_coder_vr0 : Value) (h0 : Heap) (n0 : Nat) (v : Option Value) (h : Heap) (L : List Loc) : Prop := v = none ∧ Fr n0 L ∧ Keep h0 h [vr0]
set_option maxRecDepth 65536 in
set_option maxHeartbeats 40000000 in
theorem rm12 (l : Launch) (Z : State) (a0 : Array Value) (hw : ∀ d ∈ tables_1, d.before a0 Z = true) (ws : List Jvm.Cond) (vr0 : Addr) (vr1 : Addr) (vi2 : Int32) (u_value_vr0 : Value) (u_coder_vr0 : Value) (h0 : Heap) (n0 : Nat) (Z0 : n0 ≤ h0.size) (E_vr0 : Exa Z h0 vr0 "java/lang/String") (F_value_vr0 : Fld Z h0 vr0 "java/lang/String" "value" "[B" u_value_vr0) (g_vr0 : n0 ≤ vr0) (F_coder_vr0 : Fld Z h0 vr0 "java/lang/String" "coder" "B" u_coder_vr0) :
    MetFree l (⟨"java/lang/String", "<init>", "([BB)V"⟩ : MethodName) (head1 (Jvm.Cond.code (⟨"java/lang/String", "<init>", "([BB)V"⟩ : MethodName) jdk_42_method_151_code 3 none :: ws) ({ frames := 1, cells := 0, slots := 0, locals := 12 } : Room)) (fun a U => a = #[(.ref vr0), (.ref vr1), (.int vi2)] ∧ Z.Warmed39 U.vm ∧ U.heap = h0) (fun _ _ _ _ _ => True) (fun _ U o U' => ∃ v L, o = .returned v ∧ Q12 Z vr0 vr1 vi2 u_value_vr0 u_coder_vr0 h0 n0 v U'.heap L ∧ FrameEnd U o U' L ({ frames := 1, cells := 0, slots := 0, locals := 12 } : Room).cells ({ frames := 1, cells := 0, slots := 0, locals := 12 } : Room).slots) := by
  refine MetFree.of_bodySF (plainFor_of_name pn_java_lang_String) hisR ?_
  intro p e s m args below meth c s₁ Bd hml0 hP hK
  obtain ⟨rfl, hZ, hh⟩ := hP
  have hx := Bd.exec
  have hby := Bd.bytes
  have hml : c.maxLocals = 3 := hml0
  have hown : s.vm.findClass "java/lang/String" = some m.cls := findClass_of_methodNamed Bd.named
  have hnm := (name_of_methodNamed Bd.named Bd.method).1
  have X0 : Stand p l e ({ frames := 1, cells := 0, slots := 0, locals := 12 } : Room) s m #[(.ref vr0), (.ref vr1), (.int vi2)] below meth c s₁ [] 0 0 := Stand.of_body Bd
  have e0 : s₁.heap = h0 := by rw [← hh, Bd.state]; rfl
  have N0 := Fr.nil n0
  have pre0 : ∀ t, Steps p.tables e below (s₁.setTop (mkF m 0 #[.val (.ref vr0), .val (.ref vr1), .val (.int vi2)] [])) t → Steps p.tables e below (s₁.setTop (entryFrame m #[(.ref vr0), (.ref vr1), (.int vi2)] 3)) t := fun t k => castTop (ef_12 m vr0 vr1 vi2) k
  obtain ⟨T1, X1, e1, st1⟩ := initO X0 hx hZ hown (wd_72 hw) (wd_7 hw) (wd_8 hw) e0 (g := (mkF m 1 #[.val (.ref vr0), .val (.ref vr1), .val (.int vi2)] [(.ref vr0)])) rfl (by rw [hml]; rfl) rfl (hb hby d12_1) (by decide) (W := 0) (by show 2 * 0 + _ ≤ _; exact Nat.le_of_eq rfl) (by decide)
  obtain ⟨T2, h2, X2, e2, W2, st2⟩ := putF X1 hx hZ hown (host := "") (Or.inl (wd_73 hw)) Via.refl e1 F_value_vr0 E_vr0 (Or.inr ⟨(wd_36 hw), rfl, hnm⟩) (wd_34 hw) (ty := (.array .byte)) (by decide) rfl rfl (g := (mkF m 6 #[.val (.ref vr0), .val (.ref vr1), .val (.int vi2)] [(.ref vr1), (.ref vr0)])) rfl rfl (hb hby d12_6)
  have Fw2 := F_value_vr0.same W2
  have N2 := Fr.snoc X2 N0 g_vr0
  have K2 : Keep h0 h2 [vr0] := (Keep.refl h0 [vr0]).wr W2 (Or.inl (List.mem_of_getElem? (i := 0) rfl))
  obtain ⟨T3, h3, X3, e3, W3, st3⟩ := putFN X2 hx hZ hown (wd_74 hw) Via.refl e2 (F_coder_vr0.other W2 (Or.inr (sl_2 hw))) (E_vr0.wr W2) (Or.inr ⟨(wd_37 hw), rfl, hnm⟩) (wd_34 hw) (ty := .byte) (v := (.int vi2)) (v' := (.int (nar .byte vi2))) (by decide) rfl (fits_nar_byte _) (g := (mkF m 11 #[.val (.ref vr0), .val (.ref vr1), .val (.int vi2)] [(.int vi2), (.ref vr0)])) rfl rfl (hb hby d12_11)
  have Fw3 := (F_coder_vr0.other W2 (Or.inr (sl_2 hw))).same W3
  have N3 := Fr.snoc X3 N2 g_vr0
  have K3 : Keep h0 h3 [vr0] := K2.wr W3 (Or.inl (List.mem_of_getElem? (i := 0) rfl))
  obtain ⟨fs, hr, hrun, hended, hW, hsame⟩ := X3.leave (v := none) (fun _ => rfl)
  refine ⟨_, _, pre0 _ ?_, hrun, hended, _, _, rfl, ?_, ⟨_, rfl⟩, hW, hsame.mono (by decide) (by decide)⟩
  · show Steps p.tables e below (s₁.setTop (mkF m 0 #[.val (.ref vr0), .val (.ref vr1), .val (.int vi2)] [])) _
    refine XS.aloadN X0.here hx rfl (hb hby d12_0) rfl rfl ?_
    show Steps p.tables e below (s₁.setTop (mkF m 1 #[.val (.ref vr0), .val (.ref vr1), .val (.int vi2)] [(.ref vr0)])) _
    refine st1 _ ?_
    show Steps p.tables e below (T1.setTop (mkF m 4 #[.val (.ref vr0), .val (.ref vr1), .val (.int vi2)] [])) _
    refine XS.aloadN X1.here hx rfl (hb hby d12_4) rfl rfl ?_
    show Steps p.tables e below (T1.setTop (mkF m 5 #[.val (.ref vr0), .val (.ref vr1), .val (.int vi2)] [(.ref vr0)])) _
    refine XS.aloadN X1.here hx rfl (hb hby d12_5) rfl rfl ?_
    show Steps p.tables e below (T1.setTop (mkF m 6 #[.val (.ref vr0), .val (.ref vr1), .val (.int vi2)] [(.ref vr1), (.ref vr0)])) _
    refine st2 _ ?_
    show Steps p.tables e below (T2.setTop (mkF m 9 #[.val (.ref vr0), .val (.ref vr1), .val (.int vi2)] [])) _
    refine XS.aloadN X2.here hx rfl (hb hby d12_9) rfl rfl ?_
    show Steps p.tables e below (T2.setTop (mkF m 10 #[.val (.ref vr0), .val (.ref vr1), .val (.int vi2)] [(.ref vr0)])) _
    refine XS.iloadN X2.here hx rfl (hb hby d12_10) rfl ?_
    show Steps p.tables e below (T2.setTop (mkF m 11 #[.val (.ref vr0), .val (.ref vr1), .val (.int vi2)] [(.int vi2), (.ref vr0)])) _
    refine st3 _ ?_
    show Steps p.tables e below (T3.setTop (mkF m 14 #[.val (.ref vr0), .val (.ref vr1), .val (.int vi2)] [])) _
    exact X3.returnOut hx Bd.returns (hb hby d12_14) hr
  · show Q12 Z vr0 vr1 vi2 u_value_vr0 u_coder_vr0 h0 n0 _ T3.heap _
    rw [e3]
    exact ⟨rfl, N3, K3⟩
theorem d9_0 : decode jdk_42_method_139_code 0 = .ok (.getstatic 38, 3) := by decide +kernel
theorem wd_59 {Z : State} {a0 : Array Value} (hw : ∀ d ∈ tables_1, d.before a0 Z = true) : ((Jvm.Cond.fieldLink "java/lang/String" (38 : Nat) "java/lang/String" "COMPACT_STRINGS" "Z")).before a0 Z = true := hw _ (List.mem_of_getElem? (i := 59) rfl)
theorem d9_3 : decode jdk_42_method_139_code 3 = .ok (.ifCond .eq 23, 3) := by decide +kernel
theorem d9_6 : decode jdk_42_method_139_code 6 = .ok (.iload_n 0, 1) := by decide +kernel
theorem d9_7 : decode jdk_42_method_139_code 7 = .ok (.invokestatic 1015, 3) := by decide +kernel
theorem wd_60 {Z : State} {a0 : Array Value} (hw : ∀ d ∈ tables_1, d.before a0 Z = true) : ((Jvm.Cond.methodLink "java/lang/String" (1015 : Nat) ({ cls := "java/lang/StringLatin1", name := "canEncode", desc := "(C)Z" } : Jvm.MethodName))).before a0 Z = true := hw _ (List.mem_of_getElem? (i := 60) rfl)
theorem wd_63 {Z : State} {a0 : Array Value} (hw : ∀ d ∈ tables_1, d.before a0 Z = true) : ((Jvm.Cond.code ({ cls := "java/lang/StringLatin1", name := "canEncode", desc := "(C)Z" } : Jvm.MethodName) jdk_43_method_3_code (1 : Nat) (Option.some Jvm.ClassFile.FieldType.boolean))).before a0 Z = true := hw _ (List.mem_of_getElem? (i := 63) rfl)
theorem wd_62 {Z : State} {a0 : Array Value} (hw : ∀ d ∈ tables_1, d.before a0 Z = true) : ((Jvm.Cond.initialized "java/lang/StringLatin1")).before a0 Z = true := hw _ (List.mem_of_getElem? (i := 62) rfl)
theorem pd_8 : parseMethodDescriptor "(C)Z" = some ⟨[.char], some .boolean⟩ := by decide +kernel
theorem wd_61 {Z : State} {a0 : Array Value} (hw : ∀ d ∈ tables_1, d.before a0 Z = true) : ((Jvm.Cond.static ({ cls := "java/lang/StringLatin1", name := "canEncode", desc := "(C)Z" } : Jvm.MethodName))).before a0 Z = true := hw _ (List.mem_of_getElem? (i := 61) rfl)
theorem d9_10 : decode jdk_42_method_139_code 10 = .ok (.ifCond .eq 16, 3) := by decide +kernel
theorem d9_13 : decode jdk_42_method_139_code 13 = .ok (.new 10, 3) := by decide +kernel
theorem wd_64 {Z : State} {a0 : Array Value} (hw : ∀ d ∈ tables_1, d.before a0 Z = true) : ((Jvm.Cond.classLink "java/lang/String" (10 : Nat) "java/lang/String")).before a0 Z = true := hw _ (List.mem_of_getElem? (i := 64) rfl)
theorem wd_33 {Z : State} {a0 : Array Value} (hw : ∀ d ∈ tables_1, d.before a0 Z = true) : ((Jvm.Cond.initialized "java/lang/String")).before a0 Z = true := hw _ (List.mem_of_getElem? (i := 33) rfl)
theorem d9_16 : decode jdk_42_method_139_code 16 = .ok (.dup, 1) := by decide +kernel
theorem d9_17 : decode jdk_42_method_139_code 17 = .ok (.iload_n 0, 1) := by decide +kernel
theorem d9_18 : decode jdk_42_method_139_code 18 = .ok (.invokestatic 1018, 3) := by decide +kernel
theorem wd_65 {Z : State} {a0 : Array Value} (hw : ∀ d ∈ tables_1, d.before a0 Z = true) : ((Jvm.Cond.methodLink "java/lang/String" (1018 : Nat) ({ cls := "java/lang/StringLatin1", name := "toBytes", desc := "(C)[B" } : Jvm.MethodName))).before a0 Z = true := hw _ (List.mem_of_getElem? (i := 65) rfl)
theorem wd_67 {Z : State} {a0 : Array Value} (hw : ∀ d ∈ tables_1, d.before a0 Z = true) : ((Jvm.Cond.code ({ cls := "java/lang/StringLatin1", name := "toBytes", desc := "(C)[B" } : Jvm.MethodName) jdk_43_method_46_code (1 : Nat) (Option.some (Jvm.ClassFile.FieldType.array Jvm.ClassFile.FieldType.byte)))).before a0 Z = true := hw _ (List.mem_of_getElem? (i := 67) rfl)
theorem pd_9 : parseMethodDescriptor "(C)[B" = some ⟨[.char], some (.array .byte)⟩ := by decide +kernel
theorem wd_66 {Z : State} {a0 : Array Value} (hw : ∀ d ∈ tables_1, d.before a0 Z = true) : ((Jvm.Cond.static ({ cls := "java/lang/StringLatin1", name := "toBytes", desc := "(C)[B" } : Jvm.MethodName))).before a0 Z = true := hw _ (List.mem_of_getElem? (i := 66) rfl)
theorem d9_21 : decode jdk_42_method_139_code 21 = .ok (.iconst 0, 1) := by decide +kernel
theorem d9_22 : decode jdk_42_method_139_code 22 = .ok (.invokespecial 209, 3) := by decide +kernel
theorem wd_68 {Z : State} {a0 : Array Value} (hw : ∀ d ∈ tables_1, d.before a0 Z = true) : ((Jvm.Cond.methodLink "java/lang/String" (209 : Nat) ({ cls := "java/lang/String", name := "<init>", desc := "([BB)V" } : Jvm.MethodName))).before a0 Z = true := hw _ (List.mem_of_getElem? (i := 68) rfl)
theorem wd_71 {Z : State} {a0 : Array Value} (hw : ∀ d ∈ tables_1, d.before a0 Z = true) : ((Jvm.Cond.code ({ cls := "java/lang/String", name := "<init>", desc := "([BB)V" } : Jvm.MethodName) jdk_42_method_151_code (3 : Nat) (Option.none : Option Jvm.ClassFile.FieldType))).before a0 Z = true := hw _ (List.mem_of_getElem? (i := 71) rfl)
theorem pd_10 : parseMethodDescriptor "([BB)V" = some ⟨[(.array .byte), .byte], none⟩ := by decide +kernel
theorem wd_69 {Z : State} {a0 : Array Value} (hw : ∀ d ∈ tables_1, d.before a0 Z = true) : ((Jvm.Cond.instanceMethod ({ cls := "java/lang/String", name := "<init>", desc := "([BB)V" } : Jvm.MethodName))).before a0 Z = true := hw _ (List.mem_of_getElem? (i := 69) rfl)
theorem d9_25 : decode jdk_42_method_139_code 25 = .ok (.areturn, 1) := by decide +kernel
theorem ef_9 (m : MethodId) (x0 : Int32) : entryFrame m #[(.int x0)] 1 = mkF m 0 #[.val (.int x0)] [] := by first | (simp [entryFrame, mkF, argsToLocals, Value.category]; done) | rfl
def Q9 (Z : State) (vi0 : Int32) (w_COMPACT_STRINGS : Int32) (h0 : Heap) (n0 : Nat) (v : Option Value) (h : Heap) (L : List Loc) : Prop := ∃ r : Addr, v = some (.ref r) ∧ Fr n0 L ∧ Keep h0 h [] ∧ h0.size ≤ r ∧ Exa Z h r "java/lang/String"
set_option maxRecDepth 65536 in
set_option maxHeartbeats 40000000 in
theorem rm9 (l : Launch) (Z : State) (a0 : Array Value) (hw : ∀ d ∈ tables_1, d.before a0 Z = true) (ws : List Jvm.Cond) (vi0 : Int32) (w_COMPACT_STRINGS : Int32) (h0 : Heap) (n0 : Nat) (Z0 : n0 ≤ h0.size) (S_COMPACT_STRINGS : Sta Z Z.heap "java/lang/String" "COMPACT_STRINGS" "Z" (.int w_COMPACT_STRINGS)) (O0 : Old Z n0 h0) (hc3 : ¬ (w_COMPACT_STRINGS = (0 : Int32))) (c7_hc4 : ¬ ((255 : Int32) < vi0)) :
    MetFree l (⟨"java/lang/String", "valueOf", "(C)Ljava/lang/String;"⟩ : MethodName) (head1 (Jvm.Cond.code (⟨"java/lang/String", "valueOf", "(C)Ljava/lang/String;"⟩ : MethodName) jdk_42_method_139_code 1 (some (.object "java/lang/String")) :: ws) ({ frames := 2, cells := 2, slots := 5, locals := 27 } : Room)) (fun a U => a = #[(.int vi0)] ∧ Z.Warmed39 U.vm ∧ U.heap = h0) (fun _ _ _ _ _ => True) (fun _ U o U' => ∃ v L, o = .returned v ∧ Q9 Z vi0 w_COMPACT_STRINGS h0 n0 v U'.heap L ∧ FrameEnd U o U' L ({ frames := 2, cells := 2, slots := 5, locals := 27 } : Room).cells ({ frames := 2, cells := 2, slots := 5, locals := 27 } : Room).slots) := by
  refine MetFree.of_bodySF (plainFor_of_name pn_java_lang_String) hisR ?_
  intro p e s m args below meth c s₁ Bd hml0 hP hK
  obtain ⟨rfl, hZ, hh⟩ := hP
  have hx := Bd.exec
  have hby := Bd.bytes
  have hml : c.maxLocals = 1 := hml0
  have hown : s.vm.findClass "java/lang/String" = some m.cls := findClass_of_methodNamed Bd.named
  have hnm := (name_of_methodNamed Bd.named Bd.method).1
  have X0 : Stand p l e ({ frames := 2, cells := 2, slots := 5, locals := 27 } : Room) s m #[(.int vi0)] below meth c s₁ [] 0 0 := Stand.of_body Bd
  have e0 : s₁.heap = h0 := by rw [← hh, Bd.state]; rfl
  have N0 := Fr.nil n0
  have pre0 : ∀ t, Steps p.tables e below (s₁.setTop (mkF m 0 #[.val (.int vi0)] [])) t → Steps p.tables e below (s₁.setTop (entryFrame m #[(.int vi0)] 1)) t := fun t k => castTop (ef_9 m vi0) k
  obtain ⟨T1, X1, e1, st1⟩ := getS2 X0 hx hZ hown (host := "") (Or.inl (wd_59 hw)) Via.refl e0 (S_COMPACT_STRINGS.ext O0.2) (g := (mkF m 0 #[.val (.int vi0)] [])) rfl (hb hby d9_0)
  obtain ⟨_, _, ⟨T2, L2, k2, n2⟩, -, X2, ⟨Lc2, hQ2, l2, y2, z2⟩, st2⟩ := Jvm.LawKit.callS X1 hx (y := (⟨"java/lang/StringLatin1", "canEncode", "(C)Z"⟩ : MethodName)) hown (mvT hZ (wd_60 hw)) (mvT hZ (wd_61 hw)) (mvT hZ (wd_62 hw)) (mvT hZ (wd_63 hw)) (by decide) (backOf (W := 0) (rm10 l Z a0 hw [] vi0 h0 n0 Z0 c7_hc4) hZ (wd_63 hw) (wd_62 hw) (by decide) (by decide)) (g := (mkF m 7 #[.val (.int vi0)] [(.int vi0)])) rfl (by rw [hml]; rfl) (argsL := [(.int vi0)]) (rest := []) (lenOf pd_8 rfl) rfl (by show 2 * 0 + _ ≤ _; exact Nat.le_of_eq rfl) (hb hby d9_7) (fun _ _ => ⟨rfl, e1, (by decide : 0 + 0 ≤ _), (by decide : 0 + 0 ≤ _)⟩)
  dsimp only [Pt.U, Pt.locs, Pt.cells, Pt.slots] at X2 l2 y2 z2 st2 hQ2
  subst l2 y2 z2
  obtain ⟨rfl, N2q, p2_0⟩ := hQ2
  have N2 := Fr.app N0 N2q
  have e2 : T2.heap = h0 := p2_0
  obtain ⟨T3, h3, X3, e3, E3, A3, D3, -, st3⟩ := newO X2 hx hZ hown (wd_64 hw) (wd_34 hw) (wd_33 hw) e2 (g := (mkF m 13 #[.val (.int vi0)] [])) rfl (hb hby d9_13) (by decide) (by decide)
  obtain ⟨b3, g3⟩ : ∃ z, z = h0.size := ⟨_, rfl⟩
  rw [← g3] at A3 D3 st3
  have g_b3 : n0 ≤ b3 := Nat.le_trans Z0 (Nat.le_of_eq g3.symm)
  have sz_b3 : h0.size ≤ b3 := Nat.le_trans (Keep.refl h0 []).1 (Nat.le_of_eq g3.symm)
  have K3 : Keep h0 h3 [] := (Keep.refl h0 []).ext E3
  have F_value_b3 : Fld Z h3 b3 "java/lang/String" "value" "[B" .null := D3 (Or.inr (wd_36 hw)) (ty := (.array .byte)) (by decide)
  have F_coder_b3 : Fld Z h3 b3 "java/lang/String" "coder" "B" (.int (0 : Int32)) := D3 (Or.inr (wd_37 hw)) (ty := .byte) (by decide)
  obtain ⟨_, _, ⟨T4, L4, k4, n4⟩, -, X4, ⟨Lc4, hQ4, l4, y4, z4⟩, st4⟩ := Jvm.LawKit.callS X3 hx (y := (⟨"java/lang/StringLatin1", "toBytes", "(C)[B"⟩ : MethodName)) hown (mvT hZ (wd_65 hw)) (mvT hZ (wd_66 hw)) (mvT hZ (wd_62 hw)) (mvT hZ (wd_67 hw)) (by decide) (backOf (W := 2) (rm11 l Z a0 hw [] vi0 h3 n0 (Nat.le_trans Z0 E3.1) ) hZ (wd_67 hw) (wd_62 hw) (by decide) (by decide)) (g := (mkF m 18 #[.val (.int vi0)] [(.int vi0), (.ref b3), (.ref b3)])) rfl (by rw [hml]; rfl) (argsL := [(.int vi0)]) (rest := [(.ref b3), (.ref b3)]) (lenOf pd_9 rfl) rfl (by show 2 * 0 + _ ≤ _; exact Nat.le_of_eq rfl) (hb hby d9_18) (fun _ _ => ⟨rfl, e3, (by decide : 1 + 1 ≤ _), (by decide : 4 + 1 ≤ _)⟩)
  dsimp only [Pt.U, Pt.locs, Pt.cells, Pt.slots] at X4 l4 y4 z4 st4 hQ4
  subst l4 y4 z4
  obtain ⟨t4, kt4, rfl, N4q, p4_0, p4_1, p4_2⟩ := hQ4
  have N4 := Fr.app N2 N4q
  have g_t4 : n0 ≤ t4 := Nat.le_trans (Nat.le_trans Z0 E3.1) p4_1
  have sz_t4 : h0.size ≤ t4 := Nat.le_trans K3.1 p4_1
  have K4 : Keep h0 T4.heap [] := K3.trans p4_0 all0
  obtain ⟨_, _, ⟨T5, L5, k5, n5⟩, -, X5, ⟨Lc5, hQ5, l5, y5, z5⟩, st5⟩ := X4.specialBack hx (y := (⟨"java/lang/String", "<init>", "([BB)V"⟩ : MethodName)) rfl hown (mvT hZ (wd_68 hw)) (mvT hZ (wd_69 hw)) (mvT hZ (wd_71 hw)) (by decide) (backOf (W := 1) (rm12 l Z a0 hw [] b3 t4 (0 : Int32) .null (.int (0 : Int32)) T4.heap n0 (Nat.le_trans (Nat.le_trans Z0 E3.1) p4_0.1) (A3.keep p4_0) (F_value_b3.keep p4_0 nin0) g_b3 (F_coder_b3.keep p4_0 nin0)) hZ (wd_71 hw) (wd_33 hw) (by decide) (by decide)) (g := (mkF m 22 #[.val (.int vi0)] [(.int (0 : Int32)), (.ref t4), (.ref b3), (.ref b3)])) rfl (by rw [hml]; rfl) (Steps.refl _) (a := b3) (argsL := [(.ref t4), (.int (0 : Int32))]) (rest := [(.ref b3)]) (lenOf pd_10 rfl) rfl (by show 2 * 0 + _ ≤ _; exact Nat.le_of_eq rfl) (hb hby d9_22) (fun _ _ => ⟨rfl, rfl, (by decide : 2 + 0 ≤ _), (by decide : 5 + 0 ≤ _)⟩)
  dsimp only [Pt.U, Pt.locs, Pt.cells, Pt.slots] at X5 l5 y5 z5 st5 hQ5
  subst l5 y5 z5
  obtain ⟨rfl, N5q, p5_0⟩ := hQ5
  have N5 := Fr.app N4 N5q
  have K5 : Keep h0 T5.heap [] := K4.trans p5_0 (allS (Or.inr sz_b3) all0)
  obtain ⟨fs, hr, hrun, hended, hW, hsame⟩ := X5.leave (v := some (.ref b3)) (fun h => by rw [Bd.returns] at h; cases h)
  refine ⟨_, _, pre0 _ ?_, hrun, hended, _, _, rfl, ?_, ⟨_, rfl⟩, hW, hsame.mono (by decide) (by decide)⟩
  · show Steps p.tables e below (s₁.setTop (mkF m 0 #[.val (.int vi0)] [])) _
    refine st1 _ ?_
    show Steps p.tables e below (T1.setTop (mkF m 3 #[.val (.int vi0)] [(.int w_COMPACT_STRINGS)])) _
    refine XS.ifNo X1.here hx rfl (hb hby d9_3) rfl ((if0 _ _).trans (feq hc3).1) ?_
    show Steps p.tables e below (T1.setTop (mkF m 6 #[.val (.int vi0)] [])) _
    refine XS.iloadN X1.here hx rfl (hb hby d9_6) rfl ?_
    show Steps p.tables e below (T1.setTop (mkF m 7 #[.val (.int vi0)] [(.int vi0)])) _
    refine st2 _ ?_
    show Steps p.tables e below (T2.setTop (mkF m 10 #[.val (.int vi0)] [(.int (1 : Int32))])) _
    refine XS.ifNo X2.here hx rfl (hb hby d9_10) rfl ((if0 _ _).trans (feq (by decide : ¬ ((1 : Int32) = (0 : Int32)))).1) ?_
    show Steps p.tables e below (T2.setTop (mkF m 13 #[.val (.int vi0)] [])) _
    refine st3 _ ?_
    show Steps p.tables e below (T3.setTop (mkF m 16 #[.val (.int vi0)] [(.ref b3)])) _
    refine XS.dup X3.here hx rfl (hb hby d9_16) rfl rfl ?_
    show Steps p.tables e below (T3.setTop (mkF m 17 #[.val (.int vi0)] [(.ref b3), (.ref b3)])) _
    refine XS.iloadN X3.here hx rfl (hb hby d9_17) rfl ?_
    show Steps p.tables e below (T3.setTop (mkF m 18 #[.val (.int vi0)] [(.int vi0), (.ref b3), (.ref b3)])) _
    refine st4 _ ?_
    show Steps p.tables e below (T4.setTop (mkF m 21 #[.val (.int vi0)] [(.ref t4), (.ref b3), (.ref b3)])) _
    refine XS.iconst X4.here hx rfl (hb hby d9_21) ?_
    show Steps p.tables e below (T4.setTop (mkF m 22 #[.val (.int vi0)] [(.int (0 : Int32)), (.ref t4), (.ref b3), (.ref b3)])) _
    refine st5.trans ?_
    show Steps p.tables e below (T5.setTop (mkF m 25 #[.val (.int vi0)] [(.ref b3)])) _
    jvm_step X5.here [X5.here.top, hx, (hb hby d9_25), X5.method', Bd.returns, Value.isRef, FieldType.isReference]
    first | (intro acts; rw [hr _ acts rfl rfl rfl]) | rw [hr _ _ rfl rfl rfl]
    exact Steps.refl _
  · show Q9 Z vi0 w_COMPACT_STRINGS h0 n0 _ T5.heap _
    exact ⟨b3, rfl, N5, K5, sz_b3, ((A3.keep p4_0).keep p5_0)⟩
theorem own_c255 (x : Int32) : ¬ ((255 : Int32) < ((x &&& (255 : Int32)).toUInt32.toUInt16.toUInt32.toInt32)) := by
  have t : ∀ k : Fin 256, ¬ (255 : Int32) < ((Int32.ofNat k.val).toUInt32.toUInt16.toUInt32.toInt32) := by decide +kernel
  have h : (x &&& 255).toBitVec.toNat < 256 := by
    simp only [Int32.toBitVec_and, BitVec.toNat_and]
    exact Nat.lt_succ_of_le Nat.and_le_right
  have e : (x &&& 255) = Int32.ofNat (x &&& 255).toBitVec.toNat := by
    apply Int32.toBitVec_inj.mp
    show _ = BitVec.ofNat 32 _
    rw [BitVec.ofNat_toNat]; simp
  rw [e]
  exact t ⟨_, h⟩
theorem wd_0 {Z : State} {a0 : Array Value} (hw : ∀ d ∈ tables_1, d.before a0 Z = true) : ((Jvm.Cond.classLink "com/example/castellan/castellan/command/CommandReportSetExitCodePinLaw" (20 : Nat) "com/example/castellan/castellan/command/CommandReport")).before a0 Z = true := hw _ (List.mem_of_getElem? (i := 0) rfl)
theorem wd_2 {Z : State} {a0 : Array Value} (hw : ∀ d ∈ tables_1, d.before a0 Z = true) : ((Jvm.Cond.initialized "com/example/castellan/castellan/command/CommandReport")).before a0 Z = true := hw _ (List.mem_of_getElem? (i := 2) rfl)
theorem wd_3 {Z : State} {a0 : Array Value} (hw : ∀ d ∈ tables_1, d.before a0 Z = true) : ((Jvm.Cond.methodLink "com/example/castellan/castellan/command/CommandReportSetExitCodePinLaw" (22 : Nat) ({ cls := "com/example/castellan/castellan/command/CommandReport", name := "<init>", desc := "()V" } : Jvm.MethodName))).before a0 Z = true := hw _ (List.mem_of_getElem? (i := 3) rfl)
theorem wd_5 {Z : State} {a0 : Array Value} (hw : ∀ d ∈ tables_1, d.before a0 Z = true) : ((Jvm.Cond.code ({ cls := "com/example/castellan/castellan/command/CommandReport", name := "<init>", desc := "()V" } : Jvm.MethodName) prog_13_method_1_code (1 : Nat) (Option.none : Option Jvm.ClassFile.FieldType))).before a0 Z = true := hw _ (List.mem_of_getElem? (i := 5) rfl)
theorem pd_0 : parseMethodDescriptor "()V" = some ⟨[], none⟩ := by decide +kernel
theorem wd_4 {Z : State} {a0 : Array Value} (hw : ∀ d ∈ tables_1, d.before a0 Z = true) : ((Jvm.Cond.instanceMethod ({ cls := "com/example/castellan/castellan/command/CommandReport", name := "<init>", desc := "()V" } : Jvm.MethodName))).before a0 Z = true := hw _ (List.mem_of_getElem? (i := 4) rfl)
theorem wd_56 {Z : State} {a0 : Array Value} (hw : ∀ d ∈ tables_1, d.before a0 Z = true) : ((Jvm.Cond.methodLink "com/example/castellan/castellan/command/CommandReportSetExitCodePinLaw" (23 : Nat) ({ cls := "java/lang/String", name := "valueOf", desc := "(C)Ljava/lang/String;" } : Jvm.MethodName))).before a0 Z = true := hw _ (List.mem_of_getElem? (i := 56) rfl)
theorem wd_58 {Z : State} {a0 : Array Value} (hw : ∀ d ∈ tables_1, d.before a0 Z = true) : ((Jvm.Cond.code ({ cls := "java/lang/String", name := "valueOf", desc := "(C)Ljava/lang/String;" } : Jvm.MethodName) jdk_42_method_139_code (1 : Nat) (Option.some (Jvm.ClassFile.FieldType.object "java/lang/String")))).before a0 Z = true := hw _ (List.mem_of_getElem? (i := 58) rfl)
theorem pd_7 : parseMethodDescriptor "(C)Ljava/lang/String;" = some ⟨[.char], some (.object "java/lang/String")⟩ := by decide +kernel
theorem wd_57 {Z : State} {a0 : Array Value} (hw : ∀ d ∈ tables_1, d.before a0 Z = true) : ((Jvm.Cond.static ({ cls := "java/lang/String", name := "valueOf", desc := "(C)Ljava/lang/String;" } : Jvm.MethodName))).before a0 Z = true := hw _ (List.mem_of_getElem? (i := 57) rfl)
theorem wd_14 {Z : State} {a0 : Array Value} (hw : ∀ d ∈ tables_1, d.before a0 Z = true) : ((Jvm.Cond.methodLink "com/example/castellan/castellan/command/CommandReportSetExitCodePinLaw" (29 : Nat) ({ cls := "com/example/castellan/castellan/command/CommandReport", name := "setMessage", desc := "(Ljava/lang/String;)V" } : Jvm.MethodName))).before a0 Z = true := hw _ (List.mem_of_getElem? (i := 14) rfl)
theorem wd_18 {Z : State} {a0 : Array Value} (hw : ∀ d ∈ tables_1, d.before a0 Z = true) : ((Jvm.Cond.code ({ cls := "com/example/castellan/castellan/command/CommandReport", name := "setMessage", desc := "(Ljava/lang/String;)V" } : Jvm.MethodName) prog_13_method_5_code (2 : Nat) (Option.none : Option Jvm.ClassFile.FieldType))).before a0 Z = true := hw _ (List.mem_of_getElem? (i := 18) rfl)
theorem pd_1 : parseMethodDescriptor "(Ljava/lang/String;)V" = some ⟨[(.object "java/lang/String")], none⟩ := by decide +kernel
theorem wd_17 {Z : State} {a0 : Array Value} (hw : ∀ d ∈ tables_1, d.before a0 Z = true) : ((Jvm.Cond.selects "com/example/castellan/castellan/command/CommandReport" ({ cls := "com/example/castellan/castellan/command/CommandReport", name := "setMessage", desc := "(Ljava/lang/String;)V" } : Jvm.MethodName) ({ cls := "com/example/castellan/castellan/command/CommandReport", name := "setMessage", desc := "(Ljava/lang/String;)V" } : Jvm.MethodName))).before a0 Z = true := hw _ (List.mem_of_getElem? (i := 17) rfl)
theorem wd_15 {Z : State} {a0 : Array Value} (hw : ∀ d ∈ tables_1, d.before a0 Z = true) : ((Jvm.Cond.declares ({ cls := "com/example/castellan/castellan/command/CommandReport", name := "setMessage", desc := "(Ljava/lang/String;)V" } : Jvm.MethodName))).before a0 Z = true := hw _ (List.mem_of_getElem? (i := 15) rfl)
theorem wd_16 {Z : State} {a0 : Array Value} (hw : ∀ d ∈ tables_1, d.before a0 Z = true) : ((Jvm.Cond.instanceMethod ({ cls := "com/example/castellan/castellan/command/CommandReport", name := "setMessage", desc := "(Ljava/lang/String;)V" } : Jvm.MethodName))).before a0 Z = true := hw _ (List.mem_of_getElem? (i := 16) rfl)
theorem wd_21 {Z : State} {a0 : Array Value} (hw : ∀ d ∈ tables_1, d.before a0 Z = true) : ((Jvm.Cond.methodLink "com/example/castellan/castellan/command/CommandReportSetExitCodePinLaw" (33 : Nat) ({ cls := "com/example/castellan/castellan/command/CommandReportSetExitCodePinLaw", name := "pick", desc := "(I)Lcom/example/castellan/castellan/command/CommandReport$ExitCode;" } : Jvm.MethodName))).before a0 Z = true := hw _ (List.mem_of_getElem? (i := 21) rfl)
theorem wd_24 {Z : State} {a0 : Array Value} (hw : ∀ d ∈ tables_1, d.before a0 Z = true) : ((Jvm.Cond.code ({ cls := "com/example/castellan/castellan/command/CommandReportSetExitCodePinLaw", name := "pick", desc := "(I)Lcom/example/castellan/castellan/command/CommandReport$ExitCode;" } : Jvm.MethodName) method_2_code (2 : Nat) (Option.some (Jvm.ClassFile.FieldType.object "com/example/castellan/castellan/command/CommandReport$ExitCode")))).before a0 Z = true := hw _ (List.mem_of_getElem? (i := 24) rfl)
theorem wd_23 {Z : State} {a0 : Array Value} (hw : ∀ d ∈ tables_1, d.before a0 Z = true) : ((Jvm.Cond.initialized "com/example/castellan/castellan/command/CommandReportSetExitCodePinLaw")).before a0 Z = true := hw _ (List.mem_of_getElem? (i := 23) rfl)
theorem pd_2 : parseMethodDescriptor "(I)Lcom/example/castellan/castellan/command/CommandReport$ExitCode;" = some ⟨[.int], some (.object "com/example/castellan/castellan/command/CommandReport$ExitCode")⟩ := by decide +kernel
theorem wd_22 {Z : State} {a0 : Array Value} (hw : ∀ d ∈ tables_1, d.before a0 Z = true) : ((Jvm.Cond.static ({ cls := "com/example/castellan/castellan/command/CommandReportSetExitCodePinLaw", name := "pick", desc := "(I)Lcom/example/castellan/castellan/command/CommandReport$ExitCode;" } : Jvm.MethodName))).before a0 Z = true := hw _ (List.mem_of_getElem? (i := 22) rfl)
theorem wd_27 {Z : State} {a0 : Array Value} (hw : ∀ d ∈ tables_1, d.before a0 Z = true) : ((Jvm.Cond.methodLink "com/example/castellan/castellan/command/CommandReportSetExitCodePinLaw" (39 : Nat) ({ cls := "com/example/castellan/castellan/command/CommandReport", name := "setExitCode", desc := "(Lcom/example/castellan/castellan/command/CommandReport$ExitCode;)V" } : Jvm.MethodName))).before a0 Z = true := hw _ (List.mem_of_getElem? (i := 27) rfl)
theorem wd_31 {Z : State} {a0 : Array Value} (hw : ∀ d ∈ tables_1, d.before a0 Z = true) : ((Jvm.Cond.code ({ cls := "com/example/castellan/castellan/command/CommandReport", name := "setExitCode", desc := "(Lcom/example/castellan/castellan/command/CommandReport$ExitCode;)V" } : Jvm.MethodName) prog_13_method_3_code (2 : Nat) (Option.none : Option Jvm.ClassFile.FieldType))).before a0 Z = true := hw _ (List.mem_of_getElem? (i := 31) rfl)
theorem pd_3 : parseMethodDescriptor "(Lcom/example/castellan/castellan/command/CommandReport$ExitCode;)V" = some ⟨[(.object "com/example/castellan/castellan/command/CommandReport$ExitCode")], none⟩ := by decide +kernel
theorem wd_30 {Z : State} {a0 : Array Value} (hw : ∀ d ∈ tables_1, d.before a0 Z = true) : ((Jvm.Cond.selects "com/example/castellan/castellan/command/CommandReport" ({ cls := "com/example/castellan/castellan/command/CommandReport", name := "setExitCode", desc := "(Lcom/example/castellan/castellan/command/CommandReport$ExitCode;)V" } : Jvm.MethodName) ({ cls := "com/example/castellan/castellan/command/CommandReport", name := "setExitCode", desc := "(Lcom/example/castellan/castellan/command/CommandReport$ExitCode;)V" } : Jvm.MethodName))).before a0 Z = true := hw _ (List.mem_of_getElem? (i := 30) rfl)
theorem wd_28 {Z : State} {a0 : Array Value} (hw : ∀ d ∈ tables_1, d.before a0 Z = true) : ((Jvm.Cond.declares ({ cls := "com/example/castellan/castellan/command/CommandReport", name := "setExitCode", desc := "(Lcom/example/castellan/castellan/command/CommandReport$ExitCode;)V" } : Jvm.MethodName))).before a0 Z = true := hw _ (List.mem_of_getElem? (i := 28) rfl)
theorem wd_29 {Z : State} {a0 : Array Value} (hw : ∀ d ∈ tables_1, d.before a0 Z = true) : ((Jvm.Cond.instanceMethod ({ cls := "com/example/castellan/castellan/command/CommandReport", name := "setExitCode", desc := "(Lcom/example/castellan/castellan/command/CommandReport$ExitCode;)V" } : Jvm.MethodName))).before a0 Z = true := hw _ (List.mem_of_getElem? (i := 29) rfl)
theorem wd_46 {Z : State} {a0 : Array Value} (hw : ∀ d ∈ tables_1, d.before a0 Z = true) : ((Jvm.Cond.methodLink "com/example/castellan/castellan/command/CommandReportSetExitCodePinLaw" (43 : Nat) ({ cls := "com/example/castellan/castellan/command/CommandReport", name := "getExitCode", desc := "()Lcom/example/castellan/castellan/command/CommandReport$ExitCode;" } : Jvm.MethodName))).before a0 Z = true := hw _ (List.mem_of_getElem? (i := 46) rfl)
theorem wd_50 {Z : State} {a0 : Array Value} (hw : ∀ d ∈ tables_1, d.before a0 Z = true) : ((Jvm.Cond.code ({ cls := "com/example/castellan/castellan/command/CommandReport", name := "getExitCode", desc := "()Lcom/example/castellan/castellan/command/CommandReport$ExitCode;" } : Jvm.MethodName) prog_13_method_2_code (1 : Nat) (Option.some (Jvm.ClassFile.FieldType.object "com/example/castellan/castellan/command/CommandReport$ExitCode")))).before a0 Z = true := hw _ (List.mem_of_getElem? (i := 50) rfl)
theorem pd_5 : parseMethodDescriptor "()Lcom/example/castellan/castellan/command/CommandReport$ExitCode;" = some ⟨[], some (.object "com/example/castellan/castellan/command/CommandReport$ExitCode")⟩ := by decide +kernel
theorem wd_49 {Z : State} {a0 : Array Value} (hw : ∀ d ∈ tables_1, d.before a0 Z = true) : ((Jvm.Cond.selects "com/example/castellan/castellan/command/CommandReport" ({ cls := "com/example/castellan/castellan/command/CommandReport", name := "getExitCode", desc := "()Lcom/example/castellan/castellan/command/CommandReport$ExitCode;" } : Jvm.MethodName) ({ cls := "com/example/castellan/castellan/command/CommandReport", name := "getExitCode", desc := "()Lcom/example/castellan/castellan/command/CommandReport$ExitCode;" } : Jvm.MethodName))).before a0 Z = true := hw _ (List.mem_of_getElem? (i := 49) rfl)
theorem wd_47 {Z : State} {a0 : Array Value} (hw : ∀ d ∈ tables_1, d.before a0 Z = true) : ((Jvm.Cond.declares ({ cls := "com/example/castellan/castellan/command/CommandReport", name := "getExitCode", desc := "()Lcom/example/castellan/castellan/command/CommandReport$ExitCode;" } : Jvm.MethodName))).before a0 Z = true := hw _ (List.mem_of_getElem? (i := 47) rfl)
theorem wd_48 {Z : State} {a0 : Array Value} (hw : ∀ d ∈ tables_1, d.before a0 Z = true) : ((Jvm.Cond.instanceMethod ({ cls := "com/example/castellan/castellan/command/CommandReport", name := "getExitCode", desc := "()Lcom/example/castellan/castellan/command/CommandReport$ExitCode;" } : Jvm.MethodName))).before a0 Z = true := hw _ (List.mem_of_getElem? (i := 48) rfl)
theorem wd_51 {Z : State} {a0 : Array Value} (hw : ∀ d ∈ tables_1, d.before a0 Z = true) : ((Jvm.Cond.methodLink "com/example/castellan/castellan/command/CommandReportSetExitCodePinLaw" (47 : Nat) ({ cls := "com/example/castellan/castellan/command/CommandReport", name := "getMessage", desc := "()Ljava/lang/String;" } : Jvm.MethodName))).before a0 Z = true := hw _ (List.mem_of_getElem? (i := 51) rfl)
theorem wd_55 {Z : State} {a0 : Array Value} (hw : ∀ d ∈ tables_1, d.before a0 Z = true) : ((Jvm.Cond.code ({ cls := "com/example/castellan/castellan/command/CommandReport", name := "getMessage", desc := "()Ljava/lang/String;" } : Jvm.MethodName) prog_13_method_4_code (1 : Nat) (Option.some (Jvm.ClassFile.FieldType.object "java/lang/String")))).before a0 Z = true := hw _ (List.mem_of_getElem? (i := 55) rfl)
theorem pd_6 : parseMethodDescriptor "()Ljava/lang/String;" = some ⟨[], some (.object "java/lang/String")⟩ := by decide +kernel
theorem wd_54 {Z : State} {a0 : Array Value} (hw : ∀ d ∈ tables_1, d.before a0 Z = true) : ((Jvm.Cond.selects "com/example/castellan/castellan/command/CommandReport" ({ cls := "com/example/castellan/castellan/command/CommandReport", name := "getMessage", desc := "()Ljava/lang/String;" } : Jvm.MethodName) ({ cls := "com/example/castellan/castellan/command/CommandReport", name := "getMessage", desc := "()Ljava/lang/String;" } : Jvm.MethodName))).before a0 Z = true := hw _ (List.mem_of_getElem? (i := 54) rfl)
theorem wd_52 {Z : State} {a0 : Array Value} (hw : ∀ d ∈ tables_1, d.before a0 Z = true) : ((Jvm.Cond.declares ({ cls := "com/example/castellan/castellan/command/CommandReport", name := "getMessage", desc := "()Ljava/lang/String;" } : Jvm.MethodName))).before a0 Z = true := hw _ (List.mem_of_getElem? (i := 52) rfl)
theorem wd_53 {Z : State} {a0 : Array Value} (hw : ∀ d ∈ tables_1, d.before a0 Z = true) : ((Jvm.Cond.instanceMethod ({ cls := "com/example/castellan/castellan/command/CommandReport", name := "getMessage", desc := "()Ljava/lang/String;" } : Jvm.MethodName))).before a0 Z = true := hw _ (List.mem_of_getElem? (i := 53) rfl)
theorem ef_0_R (m : MethodId) (x0 : Int32) (x1 : Int32) (x2 : Int32) : entryFrame m #[(.int x0), (.int x1), (.int x2)] maxLocals = mkF m 0 #[.val (.int x0), .val (.int x1), .val (.int x2), .unset, .unset, .unset, .unset, .unset, .unset, .unset] [] := by first | (simp [entryFrame, mkF, argsToLocals, Value.category, maxLocals]; done) | rfl
def Q0_R (Z : State) (vi0 : Int32) (vi1 : Int32) (vi2 : Int32) (w_SUCCESS : Addr) (w_COMPACT_STRINGS : Int32) (w_WARNING : Addr) (w_FAILURE : Addr) (h0 : Heap) (n0 : Nat) (v : Option Value) (h : Heap) (L : List Loc) : Prop := v = some (.int (1 : Int32)) ∧ Fr n0 L
set_option maxRecDepth 65536 in
set_option maxHeartbeats 40000000 in
theorem rm0_R (l : Launch) (Z : State) (a0 : Array Value) (hw : ∀ d ∈ tables_1, d.before a0 Z = true) (ws : List Jvm.Cond) (vi0 : Int32) (vi1 : Int32) (vi2 : Int32) (w_SUCCESS : Addr) (w_COMPACT_STRINGS : Int32) (w_WARNING : Addr) (w_FAILURE : Addr) (h0 : Heap) (n0 : Nat) (Z0 : n0 ≤ h0.size) (S_SUCCESS : Sta Z Z.heap "com/example/castellan/castellan/command/CommandReport$ExitCode" "SUCCESS" "Lcom/example/castellan/castellan/command/CommandReport$ExitCode;" (.ref w_SUCCESS)) (O0 : Old Z n0 h0) (hc11 : ¬ ((vi2 &&& (1 : Int32)) = (0 : Int32))) (S_COMPACT_STRINGS : Sta Z Z.heap "java/lang/String" "COMPACT_STRINGS" "Z" (.int w_COMPACT_STRINGS)) (c37_hc3 : ¬ (w_COMPACT_STRINGS = (0 : Int32))) (E_w_SUCCESS : Exa Z Z.heap w_SUCCESS "com/example/castellan/castellan/command/CommandReport$ExitCode") (E_w_WARNING : Exa Z Z.heap w_WARNING "com/example/castellan/castellan/command/CommandReport$ExitCode") (S_WARNING : Sta Z Z.heap "com/example/castellan/castellan/command/CommandReport$ExitCode" "WARNING" "Lcom/example/castellan/castellan/command/CommandReport$ExitCode;" (.ref w_WARNING)) (E_w_FAILURE : Exa Z Z.heap w_FAILURE "com/example/castellan/castellan/command/CommandReport$ExitCode") (S_FAILURE : Sta Z Z.heap "com/example/castellan/castellan/command/CommandReport$ExitCode" "FAILURE" "Lcom/example/castellan/castellan/command/CommandReport$ExitCode;" (.ref w_FAILURE)) :
    MetFree l x (head1 (Jvm.Cond.code x code maxLocals ret :: ws) room_1) (fun a U => a = #[(.int vi0), (.int vi1), (.int vi2)] ∧ Z.Warmed39 U.vm ∧ U.heap = h0) (fun _ _ _ _ _ => True) (fun _ U o U' => ∃ v L, o = .returned v ∧ Q0_R Z vi0 vi1 vi2 w_SUCCESS w_COMPACT_STRINGS w_WARNING w_FAILURE h0 n0 v U'.heap L ∧ ReturnedEndW U o U' L room_1.cells room_1.slots) := by
  refine MetFree.of_bodySF (plainFor_of_name pn_com_example_castellan_castellan_command_CommandReportSetExitCodePinLaw) hisR ?_
  intro p e s m args below meth c s₁ Bd hml0 hP hK
  obtain ⟨rfl, hZ, hh⟩ := hP
  have hx := Bd.exec
  have hby := Bd.bytes
  have hml : c.maxLocals = 10 := hml0
  have hown : s.vm.findClass "com/example/castellan/castellan/command/CommandReportSetExitCodePinLaw" = some m.cls := findClass_of_methodNamed Bd.named
  have hnm := (name_of_methodNamed Bd.named Bd.method).1
  have X0 : Stand p l e room_1 s m #[(.int vi0), (.int vi1), (.int vi2)] below meth c s₁ [] 0 0 := Stand.of_body Bd
  have e0 : s₁.heap = h0 := by rw [← hh, Bd.state]; rfl
  have N0 := Fr.nil n0
  have pre0 : ∀ t, Steps p.tables e below (s₁.setTop (mkF m 0 #[.val (.int vi0), .val (.int vi1), .val (.int vi2), .unset, .unset, .unset, .unset, .unset, .unset, .unset] [])) t → Steps p.tables e below (s₁.setTop (entryFrame m #[(.int vi0), (.int vi1), (.int vi2)] maxLocals)) t := fun t k => castTop (ef_0_R m vi0 vi1 vi2) k
  obtain ⟨T1, h1, X1, e1, E1, A1, D1, -, st1⟩ := newO X0 hx hZ hown (wd_0 hw) (wd_1 hw) (wd_2 hw) e0 (g := (mkF m 0 #[.val (.int vi0), .val (.int vi1), .val (.int vi2), .unset, .unset, .unset, .unset, .unset, .unset, .unset] [])) rfl (hb hby at_0) (by decide) (by decide)
  obtain ⟨b1, g1⟩ : ∃ z, z = h0.size := ⟨_, rfl⟩
  rw [← g1] at A1 D1 st1
  have g_b1 : n0 ≤ b1 := Nat.le_trans Z0 (Nat.le_of_eq g1.symm)
  have sz_b1 : h0.size ≤ b1 := Nat.le_trans (Keep.refl h0 []).1 (Nat.le_of_eq g1.symm)
  have K1 : Keep h0 h1 [] := (Keep.refl h0 []).ext E1
  have F_exitCode_b1 : Fld Z h1 b1 "com/example/castellan/castellan/command/CommandReport" "exitCode" "Lcom/example/castellan/castellan/command/CommandReport$ExitCode;" .null := D1 (Or.inl (wd_13 hw)) (ty := (.object "com/example/castellan/castellan/command/CommandReport$ExitCode")) (by decide)
  have F_message_b1 : Fld Z h1 b1 "com/example/castellan/castellan/command/CommandReport" "message" "Ljava/lang/String;" .null := D1 (Or.inl (wd_20 hw)) (ty := (.object "java/lang/String")) (by decide)
  obtain ⟨_, _, ⟨T2, L2, k2, n2⟩, -, X2, ⟨Lc2, hQ2, l2, y2, z2⟩, st2⟩ := X1.specialBack hx (y := (⟨"com/example/castellan/castellan/command/CommandReport", "<init>", "()V"⟩ : MethodName)) rfl hown (mvT hZ (wd_3 hw)) (mvT hZ (wd_4 hw)) (mvT hZ (wd_5 hw)) (by decide) (backOf (W := 1) (rm1 l Z a0 hw [] b1 .null w_SUCCESS .null h1 n0 (Nat.le_trans Z0 E1.1) F_message_b1 S_SUCCESS (O0.ext E1) A1 F_exitCode_b1 g_b1) hZ (wd_5 hw) (wd_2 hw) (by decide) (by decide)) (g := (mkF m 4 #[.val (.int vi0), .val (.int vi1), .val (.int vi2), .unset, .unset, .unset, .unset, .unset, .unset, .unset] [(.ref b1), (.ref b1)])) rfl (by rw [hml]; rfl) (Steps.refl _) (a := b1) (argsL := []) (rest := [(.ref b1)]) (lenOf pd_0 rfl) rfl (by show 2 * 0 + _ ≤ _; exact Nat.le_of_eq rfl) (hb hby at_4) (fun _ _ => ⟨rfl, e1, (by decide : 1 + 0 ≤ _), (by decide : 2 + 0 ≤ _)⟩)
  dsimp only [Pt.U, Pt.locs, Pt.cells, Pt.slots] at X2 l2 y2 z2 st2 hQ2
  subst l2 y2 z2
  obtain ⟨rfl, N2q, p2_0, p2_1, p2_2⟩ := hQ2
  have N2 := Fr.app N0 N2q
  have K2 : Keep h0 T2.heap [] := K1.trans p2_0 (allS (Or.inr sz_b1) all0)
  obtain ⟨_, _, ⟨T3, L3, k3, n3⟩, -, X3, ⟨Lc3, hQ3, l3, y3, z3⟩, st3⟩ := Jvm.LawKit.callS X2 hx (y := (⟨"java/lang/String", "valueOf", "(C)Ljava/lang/String;"⟩ : MethodName)) hown (mvT hZ (wd_56 hw)) (mvT hZ (wd_57 hw)) (mvT hZ (wd_33 hw)) (mvT hZ (wd_58 hw)) (by decide) (backOf (W := 0) (rm9 l Z a0 hw [] ((((vi2.toUInt32 >>> ((1 : Int32) &&& 31).toUInt32).toInt32) &&& (255 : Int32)).toUInt32.toUInt16.toUInt32.toInt32) w_COMPACT_STRINGS T2.heap n0 (Nat.le_trans (Nat.le_trans Z0 E1.1) p2_0.1) S_COMPACT_STRINGS ((O0.ext E1).keep p2_0 (allS g_b1 all0)) c37_hc3 (own_c255 _)) hZ (wd_58 hw) (wd_33 hw) (by decide) (by decide)) (g := (mkF m 37 #[.val (.int vi0), .val (.int vi1), .val (.int vi2), .val (.ref b1), .val (.int (1 : Int32)), .val .null, .unset, .unset, .unset, .unset] [(.int ((((vi2.toUInt32 >>> ((1 : Int32) &&& 31).toUInt32).toInt32) &&& (255 : Int32)).toUInt32.toUInt16.toUInt32.toInt32))])) rfl (by rw [hml]; rfl) (argsL := [(.int ((((vi2.toUInt32 >>> ((1 : Int32) &&& 31).toUInt32).toInt32) &&& (255 : Int32)).toUInt32.toUInt16.toUInt32.toInt32))]) (rest := []) (lenOf pd_7 rfl) rfl (by show 2 * 0 + _ ≤ _; exact Nat.le_of_eq rfl) (hb hby at_37) (fun _ _ => ⟨rfl, rfl, (by decide : 1 + 2 ≤ _), (by decide : 2 + 5 ≤ _)⟩)
  dsimp only [Pt.U, Pt.locs, Pt.cells, Pt.slots] at X3 l3 y3 z3 st3 hQ3
  subst l3 y3 z3
  obtain ⟨r3, rfl, N3q, p3_0, p3_1, p3_2⟩ := hQ3
  have N3 := Fr.app N2 N3q
  have g_r3 : n0 ≤ r3 := Nat.le_trans (Nat.le_trans (Nat.le_trans Z0 E1.1) p2_0.1) p3_1
  have sz_r3 : h0.size ≤ r3 := Nat.le_trans K2.1 p3_1
  have K3 : Keep h0 T3.heap [] := K2.trans p3_0 all0
  obtain ⟨cq4, kq4, q4a, q4b, q4c⟩ := isOf hZ rfl ((A1.keep p2_0).keep p3_0)
  obtain ⟨_, _, ⟨T4, L4, k4, n4⟩, -, X4, ⟨Lc4, hQ4, l4, y4, z4⟩, st4⟩ := X3.virtualBack hx (y := (⟨"com/example/castellan/castellan/command/CommandReport", "setMessage", "(Ljava/lang/String;)V"⟩ : MethodName)) (z := (⟨"com/example/castellan/castellan/command/CommandReport", "setMessage", "(Ljava/lang/String;)V"⟩ : MethodName)) hown (mvT hZ (wd_14 hw)) (mvT hZ (wd_15 hw)) (notFace_of_selects (args := #[]) (mvT hZ (wd_17 hw))) (mvT hZ (wd_17 hw)) (mvT hZ (wd_16 hw)) (by decide) (backOf (W := 0) (rm3_R l Z a0 hw [] b1 r3 (.ref w_SUCCESS) .null T3.heap n0 (Nat.le_trans (Nat.le_trans (Nat.le_trans Z0 E1.1) p2_0.1) p3_0.1) (p2_1.keep p3_0 nin0) ((A1.keep p2_0).keep p3_0) (p2_2.keep p3_0 nin0) g_b1) hZ (wd_18 hw) (wd_2 hw) (by decide) (by decide)) q4a q4c (g := (mkF m 45 #[.val (.int vi0), .val (.int vi1), .val (.int vi2), .val (.ref b1), .val (.int (1 : Int32)), .val (.ref r3), .unset, .unset, .unset, .unset] [(.ref r3), (.ref b1)])) rfl (by rw [hml]; rfl) (Steps.refl _) (argsL := [(.ref r3)]) (rest := []) (lenOf pd_1 rfl) rfl (by show 2 * 0 + _ ≤ _; exact Nat.le_of_eq rfl) (hb hby at_45) (fun _ _ => ⟨rfl, rfl, (by decide : 3 + 0 ≤ _), (by decide : 7 + 0 ≤ _)⟩)
  dsimp only [Pt.U, Pt.locs, Pt.cells, Pt.slots] at X4 l4 y4 z4 st4 hQ4
  subst l4 y4 z4
  obtain ⟨rfl, N4q, p4_0, p4_1, p4_2⟩ := hQ4
  have N4 := Fr.app N3 N4q
  have K4 : Keep h0 T4.heap [] := K3.trans p4_0 (allS (Or.inr sz_b1) all0)
  obtain ⟨_, _, ⟨T5, L5, k5, n5⟩, -, X5, ⟨Lc5, hQ5, l5, y5, z5⟩, st5⟩ := Jvm.LawKit.callS X4 hx (y := (⟨"com/example/castellan/castellan/command/CommandReportSetExitCodePinLaw", "pick", "(I)Lcom/example/castellan/castellan/command/CommandReport$ExitCode;"⟩ : MethodName)) hown (mvT hZ (wd_21 hw)) (mvT hZ (wd_22 hw)) (mvT hZ (wd_23 hw)) (mvT hZ (wd_24 hw)) (by decide) (backOf (W := 0) (rmPick l Z a0 hw [] vi0 w_SUCCESS w_WARNING w_FAILURE T4.heap n0 (Nat.le_trans (Nat.le_trans (Nat.le_trans (Nat.le_trans Z0 E1.1) p2_0.1) p3_0.1) p4_0.1) E_w_SUCCESS S_SUCCESS ((((O0.ext E1).keep p2_0 (allS g_b1 all0)).keep p3_0 all0).keep p4_0 (allS g_b1 all0)) E_w_WARNING S_WARNING E_w_FAILURE S_FAILURE) hZ (wd_24 hw) (wd_23 hw) (by decide) (by decide)) (g := (mkF m 49 #[.val (.int vi0), .val (.int vi1), .val (.int vi2), .val (.ref b1), .val (.int (1 : Int32)), .val (.ref r3), .unset, .unset, .unset, .unset] [(.int vi0)])) rfl (by rw [hml]; rfl) (argsL := [(.int vi0)]) (rest := []) (lenOf pd_2 rfl) rfl (by show 2 * 0 + _ ≤ _; exact Nat.le_of_eq rfl) (hb hby at_49) (fun _ _ => ⟨rfl, rfl, (by decide : 3 + 0 ≤ _), (by decide : 7 + 0 ≤ _)⟩)
  dsimp only [Pt.U, Pt.locs, Pt.cells, Pt.slots] at X5 l5 y5 z5 st5 hQ5
  subst l5 y5 z5
  obtain ⟨w5, rfl, N5q, p5_0, p5_1⟩ := hQ5
  have N5 := Fr.app N4 N5q
  have e5 : T5.heap = T4.heap := p5_0
  obtain ⟨_, _, ⟨T6, L6, k6, n6⟩, -, X6, ⟨Lc6, hQ6, l6, y6, z6⟩, st6⟩ := Jvm.LawKit.callS X5 hx (y := (⟨"com/example/castellan/castellan/command/CommandReportSetExitCodePinLaw", "pick", "(I)Lcom/example/castellan/castellan/command/CommandReport$ExitCode;"⟩ : MethodName)) hown (mvT hZ (wd_21 hw)) (mvT hZ (wd_22 hw)) (mvT hZ (wd_23 hw)) (mvT hZ (wd_24 hw)) (by decide) (backOf (W := 0) (rmPick l Z a0 hw [] vi1 w_SUCCESS w_WARNING w_FAILURE T4.heap n0 (Nat.le_trans (Nat.le_trans (Nat.le_trans (Nat.le_trans Z0 E1.1) p2_0.1) p3_0.1) p4_0.1) E_w_SUCCESS S_SUCCESS ((((O0.ext E1).keep p2_0 (allS g_b1 all0)).keep p3_0 all0).keep p4_0 (allS g_b1 all0)) E_w_WARNING S_WARNING E_w_FAILURE S_FAILURE) hZ (wd_24 hw) (wd_23 hw) (by decide) (by decide)) (g := (mkF m 55 #[.val (.int vi0), .val (.int vi1), .val (.int vi2), .val (.ref b1), .val (.int (1 : Int32)), .val (.ref r3), .val (.ref w5), .unset, .unset, .unset] [(.int vi1)])) rfl (by rw [hml]; rfl) (argsL := [(.int vi1)]) (rest := []) (lenOf pd_2 rfl) rfl (by show 2 * 0 + _ ≤ _; exact Nat.le_of_eq rfl) (hb hby at_55) (fun _ _ => ⟨rfl, e5, (by decide : 3 + 0 ≤ _), (by decide : 7 + 0 ≤ _)⟩)
  dsimp only [Pt.U, Pt.locs, Pt.cells, Pt.slots] at X6 l6 y6 z6 st6 hQ6
  subst l6 y6 z6
  obtain ⟨w6, rfl, N6q, p6_0, p6_1⟩ := hQ6
  have N6 := Fr.app N5 N6q
  have e6 : T6.heap = T4.heap := p6_0
  obtain ⟨cq7, kq7, q7a, q7b, q7c⟩ := isOf hZ e6 (((A1.keep p2_0).keep p3_0).keep p4_0)
  obtain ⟨_, _, ⟨T7, L7, k7, n7⟩, -, X7w, hS7w, hg7w, ⟨Lc7, hQ7, l7, y7, z7⟩, st7⟩ := X6.virtualBackS hx (y := (⟨"com/example/castellan/castellan/command/CommandReport", "setExitCode", "(Lcom/example/castellan/castellan/command/CommandReport$ExitCode;)V"⟩ : MethodName)) (z := (⟨"com/example/castellan/castellan/command/CommandReport", "setExitCode", "(Lcom/example/castellan/castellan/command/CommandReport$ExitCode;)V"⟩ : MethodName)) hown (mvT hZ (wd_27 hw)) (mvT hZ (wd_28 hw)) (notFace_of_selects (args := #[]) (mvT hZ (wd_30 hw))) (mvT hZ (wd_30 hw)) (mvT hZ (wd_29 hw)) (by decide) (backOfS (W := 0) (rm5 l Z a0 hw [] b1 w5 (.ref r3) (.ref w_SUCCESS) T4.heap n0 (Nat.le_trans (Nat.le_trans (Nat.le_trans (Nat.le_trans Z0 E1.1) p2_0.1) p3_0.1) p4_0.1) (((A1.keep p2_0).keep p3_0).keep p4_0) p5_1 ((((O0.ext E1).keep p2_0 (allS g_b1 all0)).keep p3_0 all0).keep p4_0 (allS g_b1 all0)) p4_2 p4_1 g_b1) hZ (wd_31 hw) (wd_2 hw) (by decide) (by decide)) q7a q7c (g := (mkF m 63 #[.val (.int vi0), .val (.int vi1), .val (.int vi2), .val (.ref b1), .val (.int (1 : Int32)), .val (.ref r3), .val (.ref w5), .val (.ref w6), .unset, .unset] [(.ref w5), (.ref b1)])) rfl (by rw [hml]; rfl) (Steps.refl _) (argsL := [(.ref w5)]) (rest := []) (lenOf pd_3 rfl) rfl (by show 2 * 0 + _ ≤ _; exact Nat.le_of_eq rfl) (hb hby at_63) (fun _ _ => ⟨rfl, e6, (by decide : 3 + 2 ≤ _), (by decide : 7 + 36 ≤ _)⟩)
  dsimp only [Pt.U, Pt.locs, Pt.cells, Pt.slots] at X7w hS7w hg7w l7 y7 z7 st7 hQ7
  subst l7 y7 z7
  obtain ⟨X7, hS7, hZ7, hown7⟩ := rebS (s := s) (vm0 := s.vm) ((State.WarmedH.refl s).since 0) (Nat.le_trans (Nat.le_trans (Nat.le_trans (Nat.le_trans (Nat.le_trans (Nat.zero_le _) E1.1) p2_0.1) p3_0.1) p4_0.1) (Nat.le_of_eq (congrArg Array.size e6.symm))) X7w hS7w hg7w hZ hown
  obtain ⟨rfl, N7q, p7_0, p7_1, p7_2⟩ := hQ7
  have N7 := Fr.app N6 N7q
  have K7 : Keep h0 T7.heap [] := K4.trans p7_0 (allS (Or.inr sz_b1) all0)
  obtain ⟨cq8, kq8, q8a, q8b, q8c⟩ := isOf hZ7 rfl ((((A1.keep p2_0).keep p3_0).keep p4_0).keep p7_0)
  obtain ⟨_, _, ⟨T8, L8, k8, n8⟩, -, X8, ⟨Lc8, hQ8, l8, y8, z8⟩, st8⟩ := X7.virtualBack hx (y := (⟨"com/example/castellan/castellan/command/CommandReport", "getExitCode", "()Lcom/example/castellan/castellan/command/CommandReport$ExitCode;"⟩ : MethodName)) (z := (⟨"com/example/castellan/castellan/command/CommandReport", "getExitCode", "()Lcom/example/castellan/castellan/command/CommandReport$ExitCode;"⟩ : MethodName)) hown7 (mvT hZ7 (wd_46 hw)) (mvT hZ7 (wd_47 hw)) (notFace_of_selects (args := #[]) (mvT hZ7 (wd_49 hw))) (mvT hZ7 (wd_49 hw)) (mvT hZ7 (wd_48 hw)) (by decide) (backOf (W := 0) (rm7 l Z a0 hw [] b1 w5 T7.heap n0 (Nat.le_trans (Nat.le_trans (Nat.le_trans (Nat.le_trans (Nat.le_trans Z0 E1.1) p2_0.1) p3_0.1) p4_0.1) p7_0.1) p7_1) hZ7 (wd_50 hw) (wd_2 hw) (by decide) (by decide)) q8a q8c (g := (mkF m 67 #[.val (.int vi0), .val (.int vi1), .val (.int vi2), .val (.ref b1), .val (.int (1 : Int32)), .val (.ref r3), .val (.ref w5), .val (.ref w6), .unset, .unset] [(.ref b1)])) rfl (by rw [hml]; rfl) (Steps.refl _) (argsL := []) (rest := []) (lenOf pd_5 rfl) rfl (by show 2 * 0 + _ ≤ _; exact Nat.le_of_eq rfl) (hb hby at_67) (fun _ _ => ⟨rfl, rfl, (by decide : 5 + 0 ≤ _), (by decide : 43 + 0 ≤ _)⟩)
  dsimp only [Pt.U, Pt.locs, Pt.cells, Pt.slots] at X8 l8 y8 z8 st8 hQ8
  subst l8 y8 z8
  obtain ⟨rfl, N8q, p8_0⟩ := hQ8
  have N8 := Fr.app N7 N8q
  have e8 : T8.heap = T7.heap := p8_0
  obtain ⟨cq9, kq9, q9a, q9b, q9c⟩ := isOf hZ7 e8 ((((A1.keep p2_0).keep p3_0).keep p4_0).keep p7_0)
  obtain ⟨_, _, ⟨T9, L9, k9, n9⟩, -, X9, ⟨Lc9, hQ9, l9, y9, z9⟩, st9⟩ := X8.virtualBack hx (y := (⟨"com/example/castellan/castellan/command/CommandReport", "getMessage", "()Ljava/lang/String;"⟩ : MethodName)) (z := (⟨"com/example/castellan/castellan/command/CommandReport", "getMessage", "()Ljava/lang/String;"⟩ : MethodName)) hown7 (mvT hZ7 (wd_51 hw)) (mvT hZ7 (wd_52 hw)) (notFace_of_selects (args := #[]) (mvT hZ7 (wd_54 hw))) (mvT hZ7 (wd_54 hw)) (mvT hZ7 (wd_53 hw)) (by decide) (backOf (W := 0) (rm8_R l Z a0 hw [] b1 r3 T7.heap n0 (Nat.le_trans (Nat.le_trans (Nat.le_trans (Nat.le_trans (Nat.le_trans Z0 E1.1) p2_0.1) p3_0.1) p4_0.1) p7_0.1) p7_2) hZ7 (wd_55 hw) (wd_2 hw) (by decide) (by decide)) q9a q9c (g := (mkF m 76 #[.val (.int vi0), .val (.int vi1), .val (.int vi2), .val (.ref b1), .val (.int (1 : Int32)), .val (.ref r3), .val (.ref w5), .val (.ref w6), .unset, .unset] [(.ref b1)])) rfl (by rw [hml]; rfl) (Steps.refl _) (argsL := []) (rest := []) (lenOf pd_6 rfl) rfl (by show 2 * 0 + _ ≤ _; exact Nat.le_of_eq rfl) (hb hby at_76) (fun _ _ => ⟨rfl, e8, (by decide : 5 + 0 ≤ _), (by decide : 43 + 0 ≤ _)⟩)
  dsimp only [Pt.U, Pt.locs, Pt.cells, Pt.slots] at X9 l9 y9 z9 st9 hQ9
  subst l9 y9 z9
  obtain ⟨rfl, N9q, p9_0⟩ := hQ9
  have N9 := Fr.app N8 N9q
  have e9 : T9.heap = T7.heap := p9_0
  obtain ⟨cq10, kq10, q10a, q10b, q10c⟩ := isOf hZ7 e9 ((((A1.keep p2_0).keep p3_0).keep p4_0).keep p7_0)
  obtain ⟨_, _, ⟨T10, L10, k10, n10⟩, -, X10w, hS10w, hg10w, ⟨Lc10, hQ10, l10, y10, z10⟩, st10⟩ := X9.virtualBackS hx (y := (⟨"com/example/castellan/castellan/command/CommandReport", "setExitCode", "(Lcom/example/castellan/castellan/command/CommandReport$ExitCode;)V"⟩ : MethodName)) (z := (⟨"com/example/castellan/castellan/command/CommandReport", "setExitCode", "(Lcom/example/castellan/castellan/command/CommandReport$ExitCode;)V"⟩ : MethodName)) hown7 (mvT hZ7 (wd_27 hw)) (mvT hZ7 (wd_28 hw)) (notFace_of_selects (args := #[]) (mvT hZ7 (wd_30 hw))) (mvT hZ7 (wd_30 hw)) (mvT hZ7 (wd_29 hw)) (by decide) (backOfS (W := 0) (rm5 l Z a0 hw [] b1 w6 (.ref r3) (.ref w5) T7.heap n0 (Nat.le_trans (Nat.le_trans (Nat.le_trans (Nat.le_trans (Nat.le_trans Z0 E1.1) p2_0.1) p3_0.1) p4_0.1) p7_0.1) ((((A1.keep p2_0).keep p3_0).keep p4_0).keep p7_0) p6_1 (((((O0.ext E1).keep p2_0 (allS g_b1 all0)).keep p3_0 all0).keep p4_0 (allS g_b1 all0)).keep p7_0 (allS g_b1 all0)) p7_2 p7_1 g_b1) hZ7 (wd_31 hw) (wd_2 hw) (by decide) (by decide)) q10a q10c (g := (mkF m 94 #[.val (.int vi0), .val (.int vi1), .val (.int vi2), .val (.ref b1), .val (.int (1 : Int32)), .val (.ref r3), .val (.ref w5), .val (.ref w6), .val (.int (1 : Int32)), .unset] [(.ref w6), (.ref b1)])) rfl (by rw [hml]; rfl) (Steps.refl _) (argsL := [(.ref w6)]) (rest := []) (lenOf pd_3 rfl) rfl (by show 2 * 0 + _ ≤ _; exact Nat.le_of_eq rfl) (hb hby at_94) (fun _ _ => ⟨rfl, e9, (by decide : 5 + 2 ≤ _), (by decide : 43 + 36 ≤ _)⟩)
  dsimp only [Pt.U, Pt.locs, Pt.cells, Pt.slots] at X10w hS10w hg10w l10 y10 z10 st10 hQ10
  subst l10 y10 z10
  obtain ⟨X10, hS10, hZ10, hown10⟩ := rebS (s := s) (vm0 := T7.vm) hS7 (Nat.le_trans (Nat.le_refl _) (Nat.le_of_eq (congrArg Array.size e9.symm))) X10w hS10w hg10w hZ7 hown7
  obtain ⟨rfl, N10q, p10_0, p10_1, p10_2⟩ := hQ10
  have N10 := Fr.app N9 N10q
  have K10 : Keep h0 T10.heap [] := K7.trans p10_0 (allS (Or.inr sz_b1) all0)
  obtain ⟨cq11, kq11, q11a, q11b, q11c⟩ := isOf hZ10 rfl (((((A1.keep p2_0).keep p3_0).keep p4_0).keep p7_0).keep p10_0)
  obtain ⟨_, _, ⟨T11, L11, k11, n11⟩, -, X11, ⟨Lc11, hQ11, l11, y11, z11⟩, st11⟩ := X10.virtualBack hx (y := (⟨"com/example/castellan/castellan/command/CommandReport", "getExitCode", "()Lcom/example/castellan/castellan/command/CommandReport$ExitCode;"⟩ : MethodName)) (z := (⟨"com/example/castellan/castellan/command/CommandReport", "getExitCode", "()Lcom/example/castellan/castellan/command/CommandReport$ExitCode;"⟩ : MethodName)) hown10 (mvT hZ10 (wd_46 hw)) (mvT hZ10 (wd_47 hw)) (notFace_of_selects (args := #[]) (mvT hZ10 (wd_49 hw))) (mvT hZ10 (wd_49 hw)) (mvT hZ10 (wd_48 hw)) (by decide) (backOf (W := 0) (rm7 l Z a0 hw [] b1 w6 T10.heap n0 (Nat.le_trans (Nat.le_trans (Nat.le_trans (Nat.le_trans (Nat.le_trans (Nat.le_trans Z0 E1.1) p2_0.1) p3_0.1) p4_0.1) p7_0.1) p10_0.1) p10_1) hZ10 (wd_50 hw) (wd_2 hw) (by decide) (by decide)) q11a q11c (g := (mkF m 98 #[.val (.int vi0), .val (.int vi1), .val (.int vi2), .val (.ref b1), .val (.int (1 : Int32)), .val (.ref r3), .val (.ref w5), .val (.ref w6), .val (.int (1 : Int32)), .unset] [(.ref b1)])) rfl (by rw [hml]; rfl) (Steps.refl _) (argsL := []) (rest := []) (lenOf pd_5 rfl) rfl (by show 2 * 0 + _ ≤ _; exact Nat.le_of_eq rfl) (hb hby at_98) (fun _ _ => ⟨rfl, rfl, (by decide : 7 + 0 ≤ _), (by decide : 79 + 0 ≤ _)⟩)
  dsimp only [Pt.U, Pt.locs, Pt.cells, Pt.slots] at X11 l11 y11 z11 st11 hQ11
  subst l11 y11 z11
  obtain ⟨rfl, N11q, p11_0⟩ := hQ11
  have N11 := Fr.app N10 N11q
  have e11 : T11.heap = T10.heap := p11_0
  obtain ⟨cq12, kq12, q12a, q12b, q12c⟩ := isOf hZ10 e11 (((((A1.keep p2_0).keep p3_0).keep p4_0).keep p7_0).keep p10_0)
  obtain ⟨_, _, ⟨T12, L12, k12, n12⟩, -, X12, ⟨Lc12, hQ12, l12, y12, z12⟩, st12⟩ := X11.virtualBack hx (y := (⟨"com/example/castellan/castellan/command/CommandReport", "getMessage", "()Ljava/lang/String;"⟩ : MethodName)) (z := (⟨"com/example/castellan/castellan/command/CommandReport", "getMessage", "()Ljava/lang/String;"⟩ : MethodName)) hown10 (mvT hZ10 (wd_51 hw)) (mvT hZ10 (wd_52 hw)) (notFace_of_selects (args := #[]) (mvT hZ10 (wd_54 hw))) (mvT hZ10 (wd_54 hw)) (mvT hZ10 (wd_53 hw)) (by decide) (backOf (W := 0) (rm8_R l Z a0 hw [] b1 r3 T10.heap n0 (Nat.le_trans (Nat.le_trans (Nat.le_trans (Nat.le_trans (Nat.le_trans (Nat.le_trans Z0 E1.1) p2_0.1) p3_0.1) p4_0.1) p7_0.1) p10_0.1) p10_2) hZ10 (wd_55 hw) (wd_2 hw) (by decide) (by decide)) q12a q12c (g := (mkF m 107 #[.val (.int vi0), .val (.int vi1), .val (.int vi2), .val (.ref b1), .val (.int (1 : Int32)), .val (.ref r3), .val (.ref w5), .val (.ref w6), .val (.int (1 : Int32)), .unset] [(.ref b1)])) rfl (by rw [hml]; rfl) (Steps.refl _) (argsL := []) (rest := []) (lenOf pd_6 rfl) rfl (by show 2 * 0 + _ ≤ _; exact Nat.le_of_eq rfl) (hb hby at_107) (fun _ _ => ⟨rfl, e11, (by decide : 7 + 0 ≤ _), (by decide : 79 + 0 ≤ _)⟩)
  dsimp only [Pt.U, Pt.locs, Pt.cells, Pt.slots] at X12 l12 y12 z12 st12 hQ12
  subst l12 y12 z12
  obtain ⟨rfl, N12q, p12_0⟩ := hQ12
  have N12 := Fr.app N11 N12q
  have e12 : T12.heap = T10.heap := p12_0
  obtain ⟨fs, hr, hrun, hended, hREW⟩ := X12.leaveW (s := s) (vm₁ := T10.vm) hS10 (Nat.le_trans (Nat.le_refl _) (Nat.le_of_eq (congrArg Array.size e12.symm))) (v := some (.int (1 : Int32))) (fun h => by rw [Bd.returns] at h; cases h)
  refine ⟨_, _, pre0 _ ?_, hrun, hended, _, _, rfl, ?_, hREW.1, hREW.2.1, hREW.2.2.1, hREW.2.2.2.mono (by decide) (by decide)⟩
  · show Steps p.tables e below (s₁.setTop (mkF m 0 #[.val (.int vi0), .val (.int vi1), .val (.int vi2), .unset, .unset, .unset, .unset, .unset, .unset, .unset] [])) _
    refine st1 _ ?_
    show Steps p.tables e below (T1.setTop (mkF m 3 #[.val (.int vi0), .val (.int vi1), .val (.int vi2), .unset, .unset, .unset, .unset, .unset, .unset, .unset] [(.ref b1)])) _
    refine XS.dup X1.here hx rfl (hb hby at_3) rfl rfl ?_
    show Steps p.tables e below (T1.setTop (mkF m 4 #[.val (.int vi0), .val (.int vi1), .val (.int vi2), .unset, .unset, .unset, .unset, .unset, .unset, .unset] [(.ref b1), (.ref b1)])) _
    refine st2.trans ?_
    show Steps p.tables e below (T2.setTop (mkF m 7 #[.val (.int vi0), .val (.int vi1), .val (.int vi2), .unset, .unset, .unset, .unset, .unset, .unset, .unset] [(.ref b1)])) _
    refine XS.astoreN X2.here hx rfl (hb hby at_7) rfl rfl (l' := #[.val (.int vi0), .val (.int vi1), .val (.int vi2), .val (.ref b1), .unset, .unset, .unset, .unset, .unset, .unset]) rfl ?_
    show Steps p.tables e below (T2.setTop (mkF m 8 #[.val (.int vi0), .val (.int vi1), .val (.int vi2), .val (.ref b1), .unset, .unset, .unset, .unset, .unset, .unset] [])) _
    refine XS.iloadN X2.here hx rfl (hb hby at_8) rfl ?_
    show Steps p.tables e below (T2.setTop (mkF m 9 #[.val (.int vi0), .val (.int vi1), .val (.int vi2), .val (.ref b1), .unset, .unset, .unset, .unset, .unset, .unset] [(.int vi2)])) _
    refine XS.iconst X2.here hx rfl (hb hby at_9) ?_
    show Steps p.tables e below (T2.setTop (mkF m 10 #[.val (.int vi0), .val (.int vi1), .val (.int vi2), .val (.ref b1), .unset, .unset, .unset, .unset, .unset, .unset] [(.int (1 : Int32)), (.int vi2)])) _
    refine XS.iand X2.here hx rfl (hb hby at_10) rfl ?_
    show Steps p.tables e below (T2.setTop (mkF m 11 #[.val (.int vi0), .val (.int vi1), .val (.int vi2), .val (.ref b1), .unset, .unset, .unset, .unset, .unset, .unset] [(.int (vi2 &&& (1 : Int32)))])) _
    refine XS.ifNo X2.here hx rfl (hb hby at_11) rfl ((if0 _ _).trans (feq hc11).1) ?_
    show Steps p.tables e below (T2.setTop (mkF m 14 #[.val (.int vi0), .val (.int vi1), .val (.int vi2), .val (.ref b1), .unset, .unset, .unset, .unset, .unset, .unset] [])) _
    refine XS.iconst X2.here hx rfl (hb hby at_14) ?_
    show Steps p.tables e below (T2.setTop (mkF m 15 #[.val (.int vi0), .val (.int vi1), .val (.int vi2), .val (.ref b1), .unset, .unset, .unset, .unset, .unset, .unset] [(.int (1 : Int32))])) _
    refine XS.goto X2.here hx rfl (pc0 := 15) (pc' := 19) rfl (hb hby at_15) (by decide) (by decide) ?_
    show Steps p.tables e below (T2.setTop (mkF m 19 #[.val (.int vi0), .val (.int vi1), .val (.int vi2), .val (.ref b1), .unset, .unset, .unset, .unset, .unset, .unset] [(.int (1 : Int32))])) _
    refine XS.istore X2.here hx rfl (hb hby at_19) rfl (l' := #[.val (.int vi0), .val (.int vi1), .val (.int vi2), .val (.ref b1), .val (.int (1 : Int32)), .unset, .unset, .unset, .unset, .unset]) rfl ?_
    show Steps p.tables e below (T2.setTop (mkF m 21 #[.val (.int vi0), .val (.int vi1), .val (.int vi2), .val (.ref b1), .val (.int (1 : Int32)), .unset, .unset, .unset, .unset, .unset] [])) _
    refine XS.aconstNull X2.here hx rfl (hb hby at_21) ?_
    show Steps p.tables e below (T2.setTop (mkF m 22 #[.val (.int vi0), .val (.int vi1), .val (.int vi2), .val (.ref b1), .val (.int (1 : Int32)), .unset, .unset, .unset, .unset, .unset] [.null])) _
    refine XS.astore X2.here hx rfl (hb hby at_22) rfl rfl (l' := #[.val (.int vi0), .val (.int vi1), .val (.int vi2), .val (.ref b1), .val (.int (1 : Int32)), .val .null, .unset, .unset, .unset, .unset]) rfl ?_
    show Steps p.tables e below (T2.setTop (mkF m 24 #[.val (.int vi0), .val (.int vi1), .val (.int vi2), .val (.ref b1), .val (.int (1 : Int32)), .val .null, .unset, .unset, .unset, .unset] [])) _
    refine XS.iload X2.here hx rfl (hb hby at_24) rfl ?_
    show Steps p.tables e below (T2.setTop (mkF m 26 #[.val (.int vi0), .val (.int vi1), .val (.int vi2), .val (.ref b1), .val (.int (1 : Int32)), .val .null, .unset, .unset, .unset, .unset] [(.int (1 : Int32))])) _
    refine XS.ifNo X2.here hx rfl (hb hby at_26) rfl ((if0 _ _).trans (feq (by decide : ¬ ((1 : Int32) = (0 : Int32)))).1) ?_
    show Steps p.tables e below (T2.setTop (mkF m 29 #[.val (.int vi0), .val (.int vi1), .val (.int vi2), .val (.ref b1), .val (.int (1 : Int32)), .val .null, .unset, .unset, .unset, .unset] [])) _
    refine XS.iloadN X2.here hx rfl (hb hby at_29) rfl ?_
    show Steps p.tables e below (T2.setTop (mkF m 30 #[.val (.int vi0), .val (.int vi1), .val (.int vi2), .val (.ref b1), .val (.int (1 : Int32)), .val .null, .unset, .unset, .unset, .unset] [(.int vi2)])) _
    refine XS.iconst X2.here hx rfl (hb hby at_30) ?_
    show Steps p.tables e below (T2.setTop (mkF m 31 #[.val (.int vi0), .val (.int vi1), .val (.int vi2), .val (.ref b1), .val (.int (1 : Int32)), .val .null, .unset, .unset, .unset, .unset] [(.int (1 : Int32)), (.int vi2)])) _
    refine XS.iushr X2.here hx rfl (hb hby at_31) rfl ?_
    show Steps p.tables e below (T2.setTop (mkF m 32 #[.val (.int vi0), .val (.int vi1), .val (.int vi2), .val (.ref b1), .val (.int (1 : Int32)), .val .null, .unset, .unset, .unset, .unset] [(.int ((vi2.toUInt32 >>> ((1 : Int32) &&& 31).toUInt32).toInt32))])) _
    refine XS.sipush X2.here hx rfl (hb hby at_32) ?_
    show Steps p.tables e below (T2.setTop (mkF m 35 #[.val (.int vi0), .val (.int vi1), .val (.int vi2), .val (.ref b1), .val (.int (1 : Int32)), .val .null, .unset, .unset, .unset, .unset] [(.int (255 : Int32)), (.int ((vi2.toUInt32 >>> ((1 : Int32) &&& 31).toUInt32).toInt32))])) _
    refine XS.iand X2.here hx rfl (hb hby at_35) rfl ?_
    show Steps p.tables e below (T2.setTop (mkF m 36 #[.val (.int vi0), .val (.int vi1), .val (.int vi2), .val (.ref b1), .val (.int (1 : Int32)), .val .null, .unset, .unset, .unset, .unset] [(.int (((vi2.toUInt32 >>> ((1 : Int32) &&& 31).toUInt32).toInt32) &&& (255 : Int32)))])) _
    refine XS.i2c X2.here hx rfl (hb hby at_36) rfl ?_
    show Steps p.tables e below (T2.setTop (mkF m 37 #[.val (.int vi0), .val (.int vi1), .val (.int vi2), .val (.ref b1), .val (.int (1 : Int32)), .val .null, .unset, .unset, .unset, .unset] [(.int ((((vi2.toUInt32 >>> ((1 : Int32) &&& 31).toUInt32).toInt32) &&& (255 : Int32)).toUInt32.toUInt16.toUInt32.toInt32))])) _
    refine st3 _ ?_
    show Steps p.tables e below (T3.setTop (mkF m 40 #[.val (.int vi0), .val (.int vi1), .val (.int vi2), .val (.ref b1), .val (.int (1 : Int32)), .val .null, .unset, .unset, .unset, .unset] [(.ref r3)])) _
    refine XS.astore X3.here hx rfl (hb hby at_40) rfl rfl (l' := #[.val (.int vi0), .val (.int vi1), .val (.int vi2), .val (.ref b1), .val (.int (1 : Int32)), .val (.ref r3), .unset, .unset, .unset, .unset]) rfl ?_
    show Steps p.tables e below (T3.setTop (mkF m 42 #[.val (.int vi0), .val (.int vi1), .val (.int vi2), .val (.ref b1), .val (.int (1 : Int32)), .val (.ref r3), .unset, .unset, .unset, .unset] [])) _
    refine XS.aloadN X3.here hx rfl (hb hby at_42) rfl rfl ?_
    show Steps p.tables e below (T3.setTop (mkF m 43 #[.val (.int vi0), .val (.int vi1), .val (.int vi2), .val (.ref b1), .val (.int (1 : Int32)), .val (.ref r3), .unset, .unset, .unset, .unset] [(.ref b1)])) _
    refine XS.aload X3.here hx rfl (hb hby at_43) rfl rfl ?_
    show Steps p.tables e below (T3.setTop (mkF m 45 #[.val (.int vi0), .val (.int vi1), .val (.int vi2), .val (.ref b1), .val (.int (1 : Int32)), .val (.ref r3), .unset, .unset, .unset, .unset] [(.ref r3), (.ref b1)])) _
    refine st4.trans ?_
    show Steps p.tables e below (T4.setTop (mkF m 48 #[.val (.int vi0), .val (.int vi1), .val (.int vi2), .val (.ref b1), .val (.int (1 : Int32)), .val (.ref r3), .unset, .unset, .unset, .unset] [])) _
    refine XS.iloadN X4.here hx rfl (hb hby at_48) rfl ?_
    show Steps p.tables e below (T4.setTop (mkF m 49 #[.val (.int vi0), .val (.int vi1), .val (.int vi2), .val (.ref b1), .val (.int (1 : Int32)), .val (.ref r3), .unset, .unset, .unset, .unset] [(.int vi0)])) _
    refine st5 _ ?_
    show Steps p.tables e below (T5.setTop (mkF m 52 #[.val (.int vi0), .val (.int vi1), .val (.int vi2), .val (.ref b1), .val (.int (1 : Int32)), .val (.ref r3), .unset, .unset, .unset, .unset] [(.ref w5)])) _
    refine XS.astore X5.here hx rfl (hb hby at_52) rfl rfl (l' := #[.val (.int vi0), .val (.int vi1), .val (.int vi2), .val (.ref b1), .val (.int (1 : Int32)), .val (.ref r3), .val (.ref w5), .unset, .unset, .unset]) rfl ?_
    show Steps p.tables e below (T5.setTop (mkF m 54 #[.val (.int vi0), .val (.int vi1), .val (.int vi2), .val (.ref b1), .val (.int (1 : Int32)), .val (.ref r3), .val (.ref w5), .unset, .unset, .unset] [])) _
    refine XS.iloadN X5.here hx rfl (hb hby at_54) rfl ?_
    show Steps p.tables e below (T5.setTop (mkF m 55 #[.val (.int vi0), .val (.int vi1), .val (.int vi2), .val (.ref b1), .val (.int (1 : Int32)), .val (.ref r3), .val (.ref w5), .unset, .unset, .unset] [(.int vi1)])) _
    refine st6 _ ?_
    show Steps p.tables e below (T6.setTop (mkF m 58 #[.val (.int vi0), .val (.int vi1), .val (.int vi2), .val (.ref b1), .val (.int (1 : Int32)), .val (.ref r3), .val (.ref w5), .unset, .unset, .unset] [(.ref w6)])) _
    refine XS.astore X6.here hx rfl (hb hby at_58) rfl rfl (l' := #[.val (.int vi0), .val (.int vi1), .val (.int vi2), .val (.ref b1), .val (.int (1 : Int32)), .val (.ref r3), .val (.ref w5), .val (.ref w6), .unset, .unset]) rfl ?_
    show Steps p.tables e below (T6.setTop (mkF m 60 #[.val (.int vi0), .val (.int vi1), .val (.int vi2), .val (.ref b1), .val (.int (1 : Int32)), .val (.ref r3), .val (.ref w5), .val (.ref w6), .unset, .unset] [])) _
    refine XS.aloadN X6.here hx rfl (hb hby at_60) rfl rfl ?_
    show Steps p.tables e below (T6.setTop (mkF m 61 #[.val (.int vi0), .val (.int vi1), .val (.int vi2), .val (.ref b1), .val (.int (1 : Int32)), .val (.ref r3), .val (.ref w5), .val (.ref w6), .unset, .unset] [(.ref b1)])) _
    refine XS.aload X6.here hx rfl (hb hby at_61) rfl rfl ?_
    show Steps p.tables e below (T6.setTop (mkF m 63 #[.val (.int vi0), .val (.int vi1), .val (.int vi2), .val (.ref b1), .val (.int (1 : Int32)), .val (.ref r3), .val (.ref w5), .val (.ref w6), .unset, .unset] [(.ref w5), (.ref b1)])) _
    refine st7.trans ?_
    show Steps p.tables e below (T7.setTop (mkF m 66 #[.val (.int vi0), .val (.int vi1), .val (.int vi2), .val (.ref b1), .val (.int (1 : Int32)), .val (.ref r3), .val (.ref w5), .val (.ref w6), .unset, .unset] [])) _
    refine XS.aloadN X7.here hx rfl (hb hby at_66) rfl rfl ?_
    show Steps p.tables e below (T7.setTop (mkF m 67 #[.val (.int vi0), .val (.int vi1), .val (.int vi2), .val (.ref b1), .val (.int (1 : Int32)), .val (.ref r3), .val (.ref w5), .val (.ref w6), .unset, .unset] [(.ref b1)])) _
    refine st8.trans ?_
    show Steps p.tables e below (T8.setTop (mkF m 70 #[.val (.int vi0), .val (.int vi1), .val (.int vi2), .val (.ref b1), .val (.int (1 : Int32)), .val (.ref r3), .val (.ref w5), .val (.ref w6), .unset, .unset] [(.ref w5)])) _
    refine XS.aload X8.here hx rfl (hb hby at_70) rfl rfl ?_
    show Steps p.tables e below (T8.setTop (mkF m 72 #[.val (.int vi0), .val (.int vi1), .val (.int vi2), .val (.ref b1), .val (.int (1 : Int32)), .val (.ref r3), .val (.ref w5), .val (.ref w6), .unset, .unset] [(.ref w5), (.ref w5)])) _
    refine Jvm.RoadKit.acmp (g := (mkF m 72 #[.val (.int vi0), .val (.int vi1), .val (.int vi2), .val (.ref b1), .val (.int (1 : Int32)), .val (.ref r3), .val (.ref w5), .val (.ref w6), .unset, .unset] [(.ref w5), (.ref w5)])) X8 hx rfl rfl rfl (pc0 := 72) (pc' := 75) (same := true) rfl (hb hby at_72) rfl (decide_eq_true rfl) (by decide) (by decide) ?_
    show Steps p.tables e below (T8.setTop (mkF m 75 #[.val (.int vi0), .val (.int vi1), .val (.int vi2), .val (.ref b1), .val (.int (1 : Int32)), .val (.ref r3), .val (.ref w5), .val (.ref w6), .unset, .unset] [])) _
    refine XS.aloadN X8.here hx rfl (hb hby at_75) rfl rfl ?_
    show Steps p.tables e below (T8.setTop (mkF m 76 #[.val (.int vi0), .val (.int vi1), .val (.int vi2), .val (.ref b1), .val (.int (1 : Int32)), .val (.ref r3), .val (.ref w5), .val (.ref w6), .unset, .unset] [(.ref b1)])) _
    refine st9.trans ?_
    show Steps p.tables e below (T9.setTop (mkF m 79 #[.val (.int vi0), .val (.int vi1), .val (.int vi2), .val (.ref b1), .val (.int (1 : Int32)), .val (.ref r3), .val (.ref w5), .val (.ref w6), .unset, .unset] [(.ref r3)])) _
    refine XS.aload X9.here hx rfl (hb hby at_79) rfl rfl ?_
    show Steps p.tables e below (T9.setTop (mkF m 81 #[.val (.int vi0), .val (.int vi1), .val (.int vi2), .val (.ref b1), .val (.int (1 : Int32)), .val (.ref r3), .val (.ref w5), .val (.ref w6), .unset, .unset] [(.ref r3), (.ref r3)])) _
    refine Jvm.RoadKit.acmp (g := (mkF m 81 #[.val (.int vi0), .val (.int vi1), .val (.int vi2), .val (.ref b1), .val (.int (1 : Int32)), .val (.ref r3), .val (.ref w5), .val (.ref w6), .unset, .unset] [(.ref r3), (.ref r3)])) X9 hx rfl rfl rfl (pc0 := 81) (pc' := 84) (same := true) rfl (hb hby at_81) rfl (decide_eq_true rfl) (by decide) (by decide) ?_
    show Steps p.tables e below (T9.setTop (mkF m 84 #[.val (.int vi0), .val (.int vi1), .val (.int vi2), .val (.ref b1), .val (.int (1 : Int32)), .val (.ref r3), .val (.ref w5), .val (.ref w6), .unset, .unset] [])) _
    refine XS.iconst X9.here hx rfl (hb hby at_84) ?_
    show Steps p.tables e below (T9.setTop (mkF m 85 #[.val (.int vi0), .val (.int vi1), .val (.int vi2), .val (.ref b1), .val (.int (1 : Int32)), .val (.ref r3), .val (.ref w5), .val (.ref w6), .unset, .unset] [(.int (1 : Int32))])) _
    refine XS.goto X9.here hx rfl (pc0 := 85) (pc' := 89) rfl (hb hby at_85) (by decide) (by decide) ?_
    show Steps p.tables e below (T9.setTop (mkF m 89 #[.val (.int vi0), .val (.int vi1), .val (.int vi2), .val (.ref b1), .val (.int (1 : Int32)), .val (.ref r3), .val (.ref w5), .val (.ref w6), .unset, .unset] [(.int (1 : Int32))])) _
    refine XS.istore X9.here hx rfl (hb hby at_89) rfl (l' := #[.val (.int vi0), .val (.int vi1), .val (.int vi2), .val (.ref b1), .val (.int (1 : Int32)), .val (.ref r3), .val (.ref w5), .val (.ref w6), .val (.int (1 : Int32)), .unset]) rfl ?_
    show Steps p.tables e below (T9.setTop (mkF m 91 #[.val (.int vi0), .val (.int vi1), .val (.int vi2), .val (.ref b1), .val (.int (1 : Int32)), .val (.ref r3), .val (.ref w5), .val (.ref w6), .val (.int (1 : Int32)), .unset] [])) _
    refine XS.aloadN X9.here hx rfl (hb hby at_91) rfl rfl ?_
    show Steps p.tables e below (T9.setTop (mkF m 92 #[.val (.int vi0), .val (.int vi1), .val (.int vi2), .val (.ref b1), .val (.int (1 : Int32)), .val (.ref r3), .val (.ref w5), .val (.ref w6), .val (.int (1 : Int32)), .unset] [(.ref b1)])) _
    refine XS.aload X9.here hx rfl (hb hby at_92) rfl rfl ?_
    show Steps p.tables e below (T9.setTop (mkF m 94 #[.val (.int vi0), .val (.int vi1), .val (.int vi2), .val (.ref b1), .val (.int (1 : Int32)), .val (.ref r3), .val (.ref w5), .val (.ref w6), .val (.int (1 : Int32)), .unset] [(.ref w6), (.ref b1)])) _
    refine st10.trans ?_
    show Steps p.tables e below (T10.setTop (mkF m 97 #[.val (.int vi0), .val (.int vi1), .val (.int vi2), .val (.ref b1), .val (.int (1 : Int32)), .val (.ref r3), .val (.ref w5), .val (.ref w6), .val (.int (1 : Int32)), .unset] [])) _
    refine XS.aloadN X10.here hx rfl (hb hby at_97) rfl rfl ?_
    show Steps p.tables e below (T10.setTop (mkF m 98 #[.val (.int vi0), .val (.int vi1), .val (.int vi2), .val (.ref b1), .val (.int (1 : Int32)), .val (.ref r3), .val (.ref w5), .val (.ref w6), .val (.int (1 : Int32)), .unset] [(.ref b1)])) _
    refine st11.trans ?_
    show Steps p.tables e below (T11.setTop (mkF m 101 #[.val (.int vi0), .val (.int vi1), .val (.int vi2), .val (.ref b1), .val (.int (1 : Int32)), .val (.ref r3), .val (.ref w5), .val (.ref w6), .val (.int (1 : Int32)), .unset] [(.ref w6)])) _
    refine XS.aload X11.here hx rfl (hb hby at_101) rfl rfl ?_
    show Steps p.tables e below (T11.setTop (mkF m 103 #[.val (.int vi0), .val (.int vi1), .val (.int vi2), .val (.ref b1), .val (.int (1 : Int32)), .val (.ref r3), .val (.ref w5), .val (.ref w6), .val (.int (1 : Int32)), .unset] [(.ref w6), (.ref w6)])) _
    refine Jvm.RoadKit.acmp (g := (mkF m 103 #[.val (.int vi0), .val (.int vi1), .val (.int vi2), .val (.ref b1), .val (.int (1 : Int32)), .val (.ref r3), .val (.ref w5), .val (.ref w6), .val (.int (1 : Int32)), .unset] [(.ref w6), (.ref w6)])) X11 hx rfl rfl rfl (pc0 := 103) (pc' := 106) (same := true) rfl (hb hby at_103) rfl (decide_eq_true rfl) (by decide) (by decide) ?_
    show Steps p.tables e below (T11.setTop (mkF m 106 #[.val (.int vi0), .val (.int vi1), .val (.int vi2), .val (.ref b1), .val (.int (1 : Int32)), .val (.ref r3), .val (.ref w5), .val (.ref w6), .val (.int (1 : Int32)), .unset] [])) _
    refine XS.aloadN X11.here hx rfl (hb hby at_106) rfl rfl ?_
    show Steps p.tables e below (T11.setTop (mkF m 107 #[.val (.int vi0), .val (.int vi1), .val (.int vi2), .val (.ref b1), .val (.int (1 : Int32)), .val (.ref r3), .val (.ref w5), .val (.ref w6), .val (.int (1 : Int32)), .unset] [(.ref b1)])) _
    refine st12.trans ?_
    show Steps p.tables e below (T12.setTop (mkF m 110 #[.val (.int vi0), .val (.int vi1), .val (.int vi2), .val (.ref b1), .val (.int (1 : Int32)), .val (.ref r3), .val (.ref w5), .val (.ref w6), .val (.int (1 : Int32)), .unset] [(.ref r3)])) _
    refine XS.aload X12.here hx rfl (hb hby at_110) rfl rfl ?_
    show Steps p.tables e below (T12.setTop (mkF m 112 #[.val (.int vi0), .val (.int vi1), .val (.int vi2), .val (.ref b1), .val (.int (1 : Int32)), .val (.ref r3), .val (.ref w5), .val (.ref w6), .val (.int (1 : Int32)), .unset] [(.ref r3), (.ref r3)])) _
    refine Jvm.RoadKit.acmp (g := (mkF m 112 #[.val (.int vi0), .val (.int vi1), .val (.int vi2), .val (.ref b1), .val (.int (1 : Int32)), .val (.ref r3), .val (.ref w5), .val (.ref w6), .val (.int (1 : Int32)), .unset] [(.ref r3), (.ref r3)])) X12 hx rfl rfl rfl (pc0 := 112) (pc' := 115) (same := true) rfl (hb hby at_112) rfl (decide_eq_true rfl) (by decide) (by decide) ?_
    show Steps p.tables e below (T12.setTop (mkF m 115 #[.val (.int vi0), .val (.int vi1), .val (.int vi2), .val (.ref b1), .val (.int (1 : Int32)), .val (.ref r3), .val (.ref w5), .val (.ref w6), .val (.int (1 : Int32)), .unset] [])) _
    refine XS.iconst X12.here hx rfl (hb hby at_115) ?_
    show Steps p.tables e below (T12.setTop (mkF m 116 #[.val (.int vi0), .val (.int vi1), .val (.int vi2), .val (.ref b1), .val (.int (1 : Int32)), .val (.ref r3), .val (.ref w5), .val (.ref w6), .val (.int (1 : Int32)), .unset] [(.int (1 : Int32))])) _
    refine XS.goto X12.here hx rfl (pc0 := 116) (pc' := 120) rfl (hb hby at_116) (by decide) (by decide) ?_
    show Steps p.tables e below (T12.setTop (mkF m 120 #[.val (.int vi0), .val (.int vi1), .val (.int vi2), .val (.ref b1), .val (.int (1 : Int32)), .val (.ref r3), .val (.ref w5), .val (.ref w6), .val (.int (1 : Int32)), .unset] [(.int (1 : Int32))])) _
    refine XS.istore X12.here hx rfl (hb hby at_120) rfl (l' := #[.val (.int vi0), .val (.int vi1), .val (.int vi2), .val (.ref b1), .val (.int (1 : Int32)), .val (.ref r3), .val (.ref w5), .val (.ref w6), .val (.int (1 : Int32)), .val (.int (1 : Int32))]) rfl ?_
    show Steps p.tables e below (T12.setTop (mkF m 122 #[.val (.int vi0), .val (.int vi1), .val (.int vi2), .val (.ref b1), .val (.int (1 : Int32)), .val (.ref r3), .val (.ref w5), .val (.ref w6), .val (.int (1 : Int32)), .val (.int (1 : Int32))] [])) _
    refine XS.iload X12.here hx rfl (hb hby at_122) rfl ?_
    show Steps p.tables e below (T12.setTop (mkF m 124 #[.val (.int vi0), .val (.int vi1), .val (.int vi2), .val (.ref b1), .val (.int (1 : Int32)), .val (.ref r3), .val (.ref w5), .val (.ref w6), .val (.int (1 : Int32)), .val (.int (1 : Int32))] [(.int (1 : Int32))])) _
    refine XS.ifNo X12.here hx rfl (hb hby at_124) rfl ((if0 _ _).trans (feq (by decide : ¬ ((1 : Int32) = (0 : Int32)))).1) ?_
    show Steps p.tables e below (T12.setTop (mkF m 127 #[.val (.int vi0), .val (.int vi1), .val (.int vi2), .val (.ref b1), .val (.int (1 : Int32)), .val (.ref r3), .val (.ref w5), .val (.ref w6), .val (.int (1 : Int32)), .val (.int (1 : Int32))] [])) _
    refine XS.iload X12.here hx rfl (hb hby at_127) rfl ?_
    show Steps p.tables e below (T12.setTop (mkF m 129 #[.val (.int vi0), .val (.int vi1), .val (.int vi2), .val (.ref b1), .val (.int (1 : Int32)), .val (.ref r3), .val (.ref w5), .val (.ref w6), .val (.int (1 : Int32)), .val (.int (1 : Int32))] [(.int (1 : Int32))])) _
    refine XS.ifNo X12.here hx rfl (hb hby at_129) rfl ((if0 _ _).trans (feq (by decide : ¬ ((1 : Int32) = (0 : Int32)))).1) ?_
    show Steps p.tables e below (T12.setTop (mkF m 132 #[.val (.int vi0), .val (.int vi1), .val (.int vi2), .val (.ref b1), .val (.int (1 : Int32)), .val (.ref r3), .val (.ref w5), .val (.ref w6), .val (.int (1 : Int32)), .val (.int (1 : Int32))] [])) _
    refine XS.iconst X12.here hx rfl (hb hby at_132) ?_
    show Steps p.tables e below (T12.setTop (mkF m 133 #[.val (.int vi0), .val (.int vi1), .val (.int vi2), .val (.ref b1), .val (.int (1 : Int32)), .val (.ref r3), .val (.ref w5), .val (.ref w6), .val (.int (1 : Int32)), .val (.int (1 : Int32))] [(.int (1 : Int32))])) _
    refine XS.goto X12.here hx rfl (pc0 := 133) (pc' := 137) rfl (hb hby at_133) (by decide) (by decide) ?_
    show Steps p.tables e below (T12.setTop (mkF m 137 #[.val (.int vi0), .val (.int vi1), .val (.int vi2), .val (.ref b1), .val (.int (1 : Int32)), .val (.ref r3), .val (.ref w5), .val (.ref w6), .val (.int (1 : Int32)), .val (.int (1 : Int32))] [(.int (1 : Int32))])) _
    exact retN X12 hx (t := .boolean) Bd.returns (by simp) (hb hby at_137) hr
  · show Q0_R Z vi0 vi1 vi2 w_SUCCESS w_COMPACT_STRINGS w_WARNING w_FAILURE h0 n0 _ T12.heap _
    rw [e12]
    exact ⟨rfl, N12⟩
theorem ef_0_N (m : MethodId) (x0 : Int32) (x1 : Int32) (x2 : Int32) : entryFrame m #[(.int x0), (.int x1), (.int x2)] maxLocals = mkF m 0 #[.val (.int x0), .val (.int x1), .val (.int x2), .unset, .unset, .unset, .unset, .unset, .unset, .unset] [] := by first | (simp [entryFrame, mkF, argsToLocals, Value.category, maxLocals]; done) | rfl
def Q0_N (Z : State) (vi0 : Int32) (vi1 : Int32) (vi2 : Int32) (w_SUCCESS : Addr) (w_WARNING : Addr) (w_FAILURE : Addr) (h0 : Heap) (n0 : Nat) (v : Option Value) (h : Heap) (L : List Loc) : Prop := v = some (.int (1 : Int32)) ∧ Fr n0 L
set_option maxRecDepth 65536 in
set_option maxHeartbeats 40000000 in
theorem rm0_N (l : Launch) (Z : State) (a0 : Array Value) (hw : ∀ d ∈ tables_1, d.before a0 Z = true) (ws : List Jvm.Cond) (vi0 : Int32) (vi1 : Int32) (vi2 : Int32) (w_SUCCESS : Addr) (w_WARNING : Addr) (w_FAILURE : Addr) (h0 : Heap) (n0 : Nat) (Z0 : n0 ≤ h0.size) (S_SUCCESS : Sta Z Z.heap "com/example/castellan/castellan/command/CommandReport$ExitCode" "SUCCESS" "Lcom/example/castellan/castellan/command/CommandReport$ExitCode;" (.ref w_SUCCESS)) (O0 : Old Z n0 h0) (hc11 : (vi2 &&& (1 : Int32)) = (0 : Int32)) (E_w_SUCCESS : Exa Z Z.heap w_SUCCESS "com/example/castellan/castellan/command/CommandReport$ExitCode") (E_w_WARNING : Exa Z Z.heap w_WARNING "com/example/castellan/castellan/command/CommandReport$ExitCode") (S_WARNING : Sta Z Z.heap "com/example/castellan/castellan/command/CommandReport$ExitCode" "WARNING" "Lcom/example/castellan/castellan/command/CommandReport$ExitCode;" (.ref w_WARNING)) (E_w_FAILURE : Exa Z Z.heap w_FAILURE "com/example/castellan/castellan/command/CommandReport$ExitCode") (S_FAILURE : Sta Z Z.heap "com/example/castellan/castellan/command/CommandReport$ExitCode" "FAILURE" "Lcom/example/castellan/castellan/command/CommandReport$ExitCode;" (.ref w_FAILURE)) :
    MetFree l x (head1 (Jvm.Cond.code x code maxLocals ret :: ws) room_1) (fun a U => a = #[(.int vi0), (.int vi1), (.int vi2)] ∧ Z.Warmed39 U.vm ∧ U.heap = h0) (fun _ _ _ _ _ => True) (fun _ U o U' => ∃ v L, o = .returned v ∧ Q0_N Z vi0 vi1 vi2 w_SUCCESS w_WARNING w_FAILURE h0 n0 v U'.heap L ∧ ReturnedEndW U o U' L room_1.cells room_1.slots) := by
  refine MetFree.of_bodySF (plainFor_of_name pn_com_example_castellan_castellan_command_CommandReportSetExitCodePinLaw) hisR ?_
  intro p e s m args below meth c s₁ Bd hml0 hP hK
  obtain ⟨rfl, hZ, hh⟩ := hP
  have hx := Bd.exec
  have hby := Bd.bytes
  have hml : c.maxLocals = 10 := hml0
  have hown : s.vm.findClass "com/example/castellan/castellan/command/CommandReportSetExitCodePinLaw" = some m.cls := findClass_of_methodNamed Bd.named
  have hnm := (name_of_methodNamed Bd.named Bd.method).1
  have X0 : Stand p l e room_1 s m #[(.int vi0), (.int vi1), (.int vi2)] below meth c s₁ [] 0 0 := Stand.of_body Bd
  have e0 : s₁.heap = h0 := by rw [← hh, Bd.state]; rfl
  have N0 := Fr.nil n0
  have pre0 : ∀ t, Steps p.tables e below (s₁.setTop (mkF m 0 #[.val (.int vi0), .val (.int vi1), .val (.int vi2), .unset, .unset, .unset, .unset, .unset, .unset, .unset] [])) t → Steps p.tables e below (s₁.setTop (entryFrame m #[(.int vi0), (.int vi1), (.int vi2)] maxLocals)) t := fun t k => castTop (ef_0_N m vi0 vi1 vi2) k
  obtain ⟨T1, h1, X1, e1, E1, A1, D1, -, st1⟩ := newO X0 hx hZ hown (wd_0 hw) (wd_1 hw) (wd_2 hw) e0 (g := (mkF m 0 #[.val (.int vi0), .val (.int vi1), .val (.int vi2), .unset, .unset, .unset, .unset, .unset, .unset, .unset] [])) rfl (hb hby at_0) (by decide) (by decide)
  obtain ⟨b1, g1⟩ : ∃ z, z = h0.size := ⟨_, rfl⟩
  rw [← g1] at A1 D1 st1
  have g_b1 : n0 ≤ b1 := Nat.le_trans Z0 (Nat.le_of_eq g1.symm)
  have sz_b1 : h0.size ≤ b1 := Nat.le_trans (Keep.refl h0 []).1 (Nat.le_of_eq g1.symm)
  have K1 : Keep h0 h1 [] := (Keep.refl h0 []).ext E1
  have F_exitCode_b1 : Fld Z h1 b1 "com/example/castellan/castellan/command/CommandReport" "exitCode" "Lcom/example/castellan/castellan/command/CommandReport$ExitCode;" .null := D1 (Or.inl (wd_13 hw)) (ty := (.object "com/example/castellan/castellan/command/CommandReport$ExitCode")) (by decide)
  have F_message_b1 : Fld Z h1 b1 "com/example/castellan/castellan/command/CommandReport" "message" "Ljava/lang/String;" .null := D1 (Or.inl (wd_20 hw)) (ty := (.object "java/lang/String")) (by decide)
  obtain ⟨_, _, ⟨T2, L2, k2, n2⟩, -, X2, ⟨Lc2, hQ2, l2, y2, z2⟩, st2⟩ := X1.specialBack hx (y := (⟨"com/example/castellan/castellan/command/CommandReport", "<init>", "()V"⟩ : MethodName)) rfl hown (mvT hZ (wd_3 hw)) (mvT hZ (wd_4 hw)) (mvT hZ (wd_5 hw)) (by decide) (backOf (W := 1) (rm1 l Z a0 hw [] b1 .null w_SUCCESS .null h1 n0 (Nat.le_trans Z0 E1.1) F_message_b1 S_SUCCESS (O0.ext E1) A1 F_exitCode_b1 g_b1) hZ (wd_5 hw) (wd_2 hw) (by decide) (by decide)) (g := (mkF m 4 #[.val (.int vi0), .val (.int vi1), .val (.int vi2), .unset, .unset, .unset, .unset, .unset, .unset, .unset] [(.ref b1), (.ref b1)])) rfl (by rw [hml]; rfl) (Steps.refl _) (a := b1) (argsL := []) (rest := [(.ref b1)]) (lenOf pd_0 rfl) rfl (by show 2 * 0 + _ ≤ _; exact Nat.le_of_eq rfl) (hb hby at_4) (fun _ _ => ⟨rfl, e1, (by decide : 1 + 0 ≤ _), (by decide : 2 + 0 ≤ _)⟩)
  dsimp only [Pt.U, Pt.locs, Pt.cells, Pt.slots] at X2 l2 y2 z2 st2 hQ2
  subst l2 y2 z2
  obtain ⟨rfl, N2q, p2_0, p2_1, p2_2⟩ := hQ2
  have N2 := Fr.app N0 N2q
  have K2 : Keep h0 T2.heap [] := K1.trans p2_0 (allS (Or.inr sz_b1) all0)
  obtain ⟨cq3, kq3, q3a, q3b, q3c⟩ := isOf hZ rfl (A1.keep p2_0)
  obtain ⟨_, _, ⟨T3, L3, k3, n3⟩, -, X3, ⟨Lc3, hQ3, l3, y3, z3⟩, st3⟩ := X2.virtualBack hx (y := (⟨"com/example/castellan/castellan/command/CommandReport", "setMessage", "(Ljava/lang/String;)V"⟩ : MethodName)) (z := (⟨"com/example/castellan/castellan/command/CommandReport", "setMessage", "(Ljava/lang/String;)V"⟩ : MethodName)) hown (mvT hZ (wd_14 hw)) (mvT hZ (wd_15 hw)) (notFace_of_selects (args := #[]) (mvT hZ (wd_17 hw))) (mvT hZ (wd_17 hw)) (mvT hZ (wd_16 hw)) (by decide) (backOf (W := 0) (rm3_N l Z a0 hw [] b1 (.ref w_SUCCESS) .null T2.heap n0 (Nat.le_trans (Nat.le_trans Z0 E1.1) p2_0.1) p2_1 (A1.keep p2_0) p2_2 g_b1) hZ (wd_18 hw) (wd_2 hw) (by decide) (by decide)) q3a q3c (g := (mkF m 45 #[.val (.int vi0), .val (.int vi1), .val (.int vi2), .val (.ref b1), .val (.int (0 : Int32)), .val .null, .unset, .unset, .unset, .unset] [.null, (.ref b1)])) rfl (by rw [hml]; rfl) (Steps.refl _) (argsL := [.null]) (rest := []) (lenOf pd_1 rfl) rfl (by show 2 * 0 + _ ≤ _; exact Nat.le_of_eq rfl) (hb hby at_45) (fun _ _ => ⟨rfl, rfl, (by decide : 1 + 0 ≤ _), (by decide : 2 + 0 ≤ _)⟩)
  dsimp only [Pt.U, Pt.locs, Pt.cells, Pt.slots] at X3 l3 y3 z3 st3 hQ3
  subst l3 y3 z3
  obtain ⟨rfl, N3q, p3_0, p3_1, p3_2⟩ := hQ3
  have N3 := Fr.app N2 N3q
  have K3 : Keep h0 T3.heap [] := K2.trans p3_0 (allS (Or.inr sz_b1) all0)
  obtain ⟨_, _, ⟨T4, L4, k4, n4⟩, -, X4, ⟨Lc4, hQ4, l4, y4, z4⟩, st4⟩ := Jvm.LawKit.callS X3 hx (y := (⟨"com/example/castellan/castellan/command/CommandReportSetExitCodePinLaw", "pick", "(I)Lcom/example/castellan/castellan/command/CommandReport$ExitCode;"⟩ : MethodName)) hown (mvT hZ (wd_21 hw)) (mvT hZ (wd_22 hw)) (mvT hZ (wd_23 hw)) (mvT hZ (wd_24 hw)) (by decide) (backOf (W := 0) (rmPick l Z a0 hw [] vi0 w_SUCCESS w_WARNING w_FAILURE T3.heap n0 (Nat.le_trans (Nat.le_trans (Nat.le_trans Z0 E1.1) p2_0.1) p3_0.1) E_w_SUCCESS S_SUCCESS (((O0.ext E1).keep p2_0 (allS g_b1 all0)).keep p3_0 (allS g_b1 all0)) E_w_WARNING S_WARNING E_w_FAILURE S_FAILURE) hZ (wd_24 hw) (wd_23 hw) (by decide) (by decide)) (g := (mkF m 49 #[.val (.int vi0), .val (.int vi1), .val (.int vi2), .val (.ref b1), .val (.int (0 : Int32)), .val .null, .unset, .unset, .unset, .unset] [(.int vi0)])) rfl (by rw [hml]; rfl) (argsL := [(.int vi0)]) (rest := []) (lenOf pd_2 rfl) rfl (by show 2 * 0 + _ ≤ _; exact Nat.le_of_eq rfl) (hb hby at_49) (fun _ _ => ⟨rfl, rfl, (by decide : 1 + 0 ≤ _), (by decide : 2 + 0 ≤ _)⟩)
  dsimp only [Pt.U, Pt.locs, Pt.cells, Pt.slots] at X4 l4 y4 z4 st4 hQ4
  subst l4 y4 z4
  obtain ⟨w4, rfl, N4q, p4_0, p4_1⟩ := hQ4
  have N4 := Fr.app N3 N4q
  have e4 : T4.heap = T3.heap := p4_0
  obtain ⟨_, _, ⟨T5, L5, k5, n5⟩, -, X5, ⟨Lc5, hQ5, l5, y5, z5⟩, st5⟩ := Jvm.LawKit.callS X4 hx (y := (⟨"com/example/castellan/castellan/command/CommandReportSetExitCodePinLaw", "pick", "(I)Lcom/example/castellan/castellan/command/CommandReport$ExitCode;"⟩ : MethodName)) hown (mvT hZ (wd_21 hw)) (mvT hZ (wd_22 hw)) (mvT hZ (wd_23 hw)) (mvT hZ (wd_24 hw)) (by decide) (backOf (W := 0) (rmPick l Z a0 hw [] vi1 w_SUCCESS w_WARNING w_FAILURE T3.heap n0 (Nat.le_trans (Nat.le_trans (Nat.le_trans Z0 E1.1) p2_0.1) p3_0.1) E_w_SUCCESS S_SUCCESS (((O0.ext E1).keep p2_0 (allS g_b1 all0)).keep p3_0 (allS g_b1 all0)) E_w_WARNING S_WARNING E_w_FAILURE S_FAILURE) hZ (wd_24 hw) (wd_23 hw) (by decide) (by decide)) (g := (mkF m 55 #[.val (.int vi0), .val (.int vi1), .val (.int vi2), .val (.ref b1), .val (.int (0 : Int32)), .val .null, .val (.ref w4), .unset, .unset, .unset] [(.int vi1)])) rfl (by rw [hml]; rfl) (argsL := [(.int vi1)]) (rest := []) (lenOf pd_2 rfl) rfl (by show 2 * 0 + _ ≤ _; exact Nat.le_of_eq rfl) (hb hby at_55) (fun _ _ => ⟨rfl, e4, (by decide : 1 + 0 ≤ _), (by decide : 2 + 0 ≤ _)⟩)
  dsimp only [Pt.U, Pt.locs, Pt.cells, Pt.slots] at X5 l5 y5 z5 st5 hQ5
  subst l5 y5 z5
  obtain ⟨w5, rfl, N5q, p5_0, p5_1⟩ := hQ5
  have N5 := Fr.app N4 N5q
  have e5 : T5.heap = T3.heap := p5_0
  obtain ⟨cq6, kq6, q6a, q6b, q6c⟩ := isOf hZ e5 ((A1.keep p2_0).keep p3_0)
  obtain ⟨_, _, ⟨T6, L6, k6, n6⟩, -, X6w, hS6w, hg6w, ⟨Lc6, hQ6, l6, y6, z6⟩, st6⟩ := X5.virtualBackS hx (y := (⟨"com/example/castellan/castellan/command/CommandReport", "setExitCode", "(Lcom/example/castellan/castellan/command/CommandReport$ExitCode;)V"⟩ : MethodName)) (z := (⟨"com/example/castellan/castellan/command/CommandReport", "setExitCode", "(Lcom/example/castellan/castellan/command/CommandReport$ExitCode;)V"⟩ : MethodName)) hown (mvT hZ (wd_27 hw)) (mvT hZ (wd_28 hw)) (notFace_of_selects (args := #[]) (mvT hZ (wd_30 hw))) (mvT hZ (wd_30 hw)) (mvT hZ (wd_29 hw)) (by decide) (backOfS (W := 0) (rm5 l Z a0 hw [] b1 w4 .null (.ref w_SUCCESS) T3.heap n0 (Nat.le_trans (Nat.le_trans (Nat.le_trans Z0 E1.1) p2_0.1) p3_0.1) ((A1.keep p2_0).keep p3_0) p4_1 (((O0.ext E1).keep p2_0 (allS g_b1 all0)).keep p3_0 (allS g_b1 all0)) p3_2 p3_1 g_b1) hZ (wd_31 hw) (wd_2 hw) (by decide) (by decide)) q6a q6c (g := (mkF m 63 #[.val (.int vi0), .val (.int vi1), .val (.int vi2), .val (.ref b1), .val (.int (0 : Int32)), .val .null, .val (.ref w4), .val (.ref w5), .unset, .unset] [(.ref w4), (.ref b1)])) rfl (by rw [hml]; rfl) (Steps.refl _) (argsL := [(.ref w4)]) (rest := []) (lenOf pd_3 rfl) rfl (by show 2 * 0 + _ ≤ _; exact Nat.le_of_eq rfl) (hb hby at_63) (fun _ _ => ⟨rfl, e5, (by decide : 1 + 2 ≤ _), (by decide : 2 + 36 ≤ _)⟩)
  dsimp only [Pt.U, Pt.locs, Pt.cells, Pt.slots] at X6w hS6w hg6w l6 y6 z6 st6 hQ6
  subst l6 y6 z6
  obtain ⟨X6, hS6, hZ6, hown6⟩ := rebS (s := s) (vm0 := s.vm) ((State.WarmedH.refl s).since 0) (Nat.le_trans (Nat.le_trans (Nat.le_trans (Nat.le_trans (Nat.zero_le _) E1.1) p2_0.1) p3_0.1) (Nat.le_of_eq (congrArg Array.size e5.symm))) X6w hS6w hg6w hZ hown
  obtain ⟨rfl, N6q, p6_0, p6_1, p6_2⟩ := hQ6
  have N6 := Fr.app N5 N6q
  have K6 : Keep h0 T6.heap [] := K3.trans p6_0 (allS (Or.inr sz_b1) all0)
  obtain ⟨cq7, kq7, q7a, q7b, q7c⟩ := isOf hZ6 rfl (((A1.keep p2_0).keep p3_0).keep p6_0)
  obtain ⟨_, _, ⟨T7, L7, k7, n7⟩, -, X7, ⟨Lc7, hQ7, l7, y7, z7⟩, st7⟩ := X6.virtualBack hx (y := (⟨"com/example/castellan/castellan/command/CommandReport", "getExitCode", "()Lcom/example/castellan/castellan/command/CommandReport$ExitCode;"⟩ : MethodName)) (z := (⟨"com/example/castellan/castellan/command/CommandReport", "getExitCode", "()Lcom/example/castellan/castellan/command/CommandReport$ExitCode;"⟩ : MethodName)) hown6 (mvT hZ6 (wd_46 hw)) (mvT hZ6 (wd_47 hw)) (notFace_of_selects (args := #[]) (mvT hZ6 (wd_49 hw))) (mvT hZ6 (wd_49 hw)) (mvT hZ6 (wd_48 hw)) (by decide) (backOf (W := 0) (rm7 l Z a0 hw [] b1 w4 T6.heap n0 (Nat.le_trans (Nat.le_trans (Nat.le_trans (Nat.le_trans Z0 E1.1) p2_0.1) p3_0.1) p6_0.1) p6_1) hZ6 (wd_50 hw) (wd_2 hw) (by decide) (by decide)) q7a q7c (g := (mkF m 67 #[.val (.int vi0), .val (.int vi1), .val (.int vi2), .val (.ref b1), .val (.int (0 : Int32)), .val .null, .val (.ref w4), .val (.ref w5), .unset, .unset] [(.ref b1)])) rfl (by rw [hml]; rfl) (Steps.refl _) (argsL := []) (rest := []) (lenOf pd_5 rfl) rfl (by show 2 * 0 + _ ≤ _; exact Nat.le_of_eq rfl) (hb hby at_67) (fun _ _ => ⟨rfl, rfl, (by decide : 3 + 0 ≤ _), (by decide : 38 + 0 ≤ _)⟩)
  dsimp only [Pt.U, Pt.locs, Pt.cells, Pt.slots] at X7 l7 y7 z7 st7 hQ7
  subst l7 y7 z7
  obtain ⟨rfl, N7q, p7_0⟩ := hQ7
  have N7 := Fr.app N6 N7q
  have e7 : T7.heap = T6.heap := p7_0
  obtain ⟨cq8, kq8, q8a, q8b, q8c⟩ := isOf hZ6 e7 (((A1.keep p2_0).keep p3_0).keep p6_0)
  obtain ⟨_, _, ⟨T8, L8, k8, n8⟩, -, X8, ⟨Lc8, hQ8, l8, y8, z8⟩, st8⟩ := X7.virtualBack hx (y := (⟨"com/example/castellan/castellan/command/CommandReport", "getMessage", "()Ljava/lang/String;"⟩ : MethodName)) (z := (⟨"com/example/castellan/castellan/command/CommandReport", "getMessage", "()Ljava/lang/String;"⟩ : MethodName)) hown6 (mvT hZ6 (wd_51 hw)) (mvT hZ6 (wd_52 hw)) (notFace_of_selects (args := #[]) (mvT hZ6 (wd_54 hw))) (mvT hZ6 (wd_54 hw)) (mvT hZ6 (wd_53 hw)) (by decide) (backOf (W := 0) (rm8_N l Z a0 hw [] b1 T6.heap n0 (Nat.le_trans (Nat.le_trans (Nat.le_trans (Nat.le_trans Z0 E1.1) p2_0.1) p3_0.1) p6_0.1) p6_2) hZ6 (wd_55 hw) (wd_2 hw) (by decide) (by decide)) q8a q8c (g := (mkF m 76 #[.val (.int vi0), .val (.int vi1), .val (.int vi2), .val (.ref b1), .val (.int (0 : Int32)), .val .null, .val (.ref w4), .val (.ref w5), .unset, .unset] [(.ref b1)])) rfl (by rw [hml]; rfl) (Steps.refl _) (argsL := []) (rest := []) (lenOf pd_6 rfl) rfl (by show 2 * 0 + _ ≤ _; exact Nat.le_of_eq rfl) (hb hby at_76) (fun _ _ => ⟨rfl, e7, (by decide : 3 + 0 ≤ _), (by decide : 38 + 0 ≤ _)⟩)
  dsimp only [Pt.U, Pt.locs, Pt.cells, Pt.slots] at X8 l8 y8 z8 st8 hQ8
  subst l8 y8 z8
  obtain ⟨rfl, N8q, p8_0⟩ := hQ8
  have N8 := Fr.app N7 N8q
  have e8 : T8.heap = T6.heap := p8_0
  obtain ⟨cq9, kq9, q9a, q9b, q9c⟩ := isOf hZ6 e8 (((A1.keep p2_0).keep p3_0).keep p6_0)
  obtain ⟨_, _, ⟨T9, L9, k9, n9⟩, -, X9w, hS9w, hg9w, ⟨Lc9, hQ9, l9, y9, z9⟩, st9⟩ := X8.virtualBackS hx (y := (⟨"com/example/castellan/castellan/command/CommandReport", "setExitCode", "(Lcom/example/castellan/castellan/command/CommandReport$ExitCode;)V"⟩ : MethodName)) (z := (⟨"com/example/castellan/castellan/command/CommandReport", "setExitCode", "(Lcom/example/castellan/castellan/command/CommandReport$ExitCode;)V"⟩ : MethodName)) hown6 (mvT hZ6 (wd_27 hw)) (mvT hZ6 (wd_28 hw)) (notFace_of_selects (args := #[]) (mvT hZ6 (wd_30 hw))) (mvT hZ6 (wd_30 hw)) (mvT hZ6 (wd_29 hw)) (by decide) (backOfS (W := 0) (rm5 l Z a0 hw [] b1 w5 .null (.ref w4) T6.heap n0 (Nat.le_trans (Nat.le_trans (Nat.le_trans (Nat.le_trans Z0 E1.1) p2_0.1) p3_0.1) p6_0.1) (((A1.keep p2_0).keep p3_0).keep p6_0) p5_1 ((((O0.ext E1).keep p2_0 (allS g_b1 all0)).keep p3_0 (allS g_b1 all0)).keep p6_0 (allS g_b1 all0)) p6_2 p6_1 g_b1) hZ6 (wd_31 hw) (wd_2 hw) (by decide) (by decide)) q9a q9c (g := (mkF m 94 #[.val (.int vi0), .val (.int vi1), .val (.int vi2), .val (.ref b1), .val (.int (0 : Int32)), .val .null, .val (.ref w4), .val (.ref w5), .val (.int (1 : Int32)), .unset] [(.ref w5), (.ref b1)])) rfl (by rw [hml]; rfl) (Steps.refl _) (argsL := [(.ref w5)]) (rest := []) (lenOf pd_3 rfl) rfl (by show 2 * 0 + _ ≤ _; exact Nat.le_of_eq rfl) (hb hby at_94) (fun _ _ => ⟨rfl, e8, (by decide : 3 + 2 ≤ _), (by decide : 38 + 36 ≤ _)⟩)
  dsimp only [Pt.U, Pt.locs, Pt.cells, Pt.slots] at X9w hS9w hg9w l9 y9 z9 st9 hQ9
  subst l9 y9 z9
  obtain ⟨X9, hS9, hZ9, hown9⟩ := rebS (s := s) (vm0 := T6.vm) hS6 (Nat.le_trans (Nat.le_refl _) (Nat.le_of_eq (congrArg Array.size e8.symm))) X9w hS9w hg9w hZ6 hown6
  obtain ⟨rfl, N9q, p9_0, p9_1, p9_2⟩ := hQ9
  have N9 := Fr.app N8 N9q
  have K9 : Keep h0 T9.heap [] := K6.trans p9_0 (allS (Or.inr sz_b1) all0)
  obtain ⟨cq10, kq10, q10a, q10b, q10c⟩ := isOf hZ9 rfl ((((A1.keep p2_0).keep p3_0).keep p6_0).keep p9_0)
  obtain ⟨_, _, ⟨T10, L10, k10, n10⟩, -, X10, ⟨Lc10, hQ10, l10, y10, z10⟩, st10⟩ := X9.virtualBack hx (y := (⟨"com/example/castellan/castellan/command/CommandReport", "getExitCode", "()Lcom/example/castellan/castellan/command/CommandReport$ExitCode;"⟩ : MethodName)) (z := (⟨"com/example/castellan/castellan/command/CommandReport", "getExitCode", "()Lcom/example/castellan/castellan/command/CommandReport$ExitCode;"⟩ : MethodName)) hown9 (mvT hZ9 (wd_46 hw)) (mvT hZ9 (wd_47 hw)) (notFace_of_selects (args := #[]) (mvT hZ9 (wd_49 hw))) (mvT hZ9 (wd_49 hw)) (mvT hZ9 (wd_48 hw)) (by decide) (backOf (W := 0) (rm7 l Z a0 hw [] b1 w5 T9.heap n0 (Nat.le_trans (Nat.le_trans (Nat.le_trans (Nat.le_trans (Nat.le_trans Z0 E1.1) p2_0.1) p3_0.1) p6_0.1) p9_0.1) p9_1) hZ9 (wd_50 hw) (wd_2 hw) (by decide) (by decide)) q10a q10c (g := (mkF m 98 #[.val (.int vi0), .val (.int vi1), .val (.int vi2), .val (.ref b1), .val (.int (0 : Int32)), .val .null, .val (.ref w4), .val (.ref w5), .val (.int (1 : Int32)), .unset] [(.ref b1)])) rfl (by rw [hml]; rfl) (Steps.refl _) (argsL := []) (rest := []) (lenOf pd_5 rfl) rfl (by show 2 * 0 + _ ≤ _; exact Nat.le_of_eq rfl) (hb hby at_98) (fun _ _ => ⟨rfl, rfl, (by decide : 5 + 0 ≤ _), (by decide : 74 + 0 ≤ _)⟩)
  dsimp only [Pt.U, Pt.locs, Pt.cells, Pt.slots] at X10 l10 y10 z10 st10 hQ10
  subst l10 y10 z10
  obtain ⟨rfl, N10q, p10_0⟩ := hQ10
  have N10 := Fr.app N9 N10q
  have e10 : T10.heap = T9.heap := p10_0
  obtain ⟨cq11, kq11, q11a, q11b, q11c⟩ := isOf hZ9 e10 ((((A1.keep p2_0).keep p3_0).keep p6_0).keep p9_0)
  obtain ⟨_, _, ⟨T11, L11, k11, n11⟩, -, X11, ⟨Lc11, hQ11, l11, y11, z11⟩, st11⟩ := X10.virtualBack hx (y := (⟨"com/example/castellan/castellan/command/CommandReport", "getMessage", "()Ljava/lang/String;"⟩ : MethodName)) (z := (⟨"com/example/castellan/castellan/command/CommandReport", "getMessage", "()Ljava/lang/String;"⟩ : MethodName)) hown9 (mvT hZ9 (wd_51 hw)) (mvT hZ9 (wd_52 hw)) (notFace_of_selects (args := #[]) (mvT hZ9 (wd_54 hw))) (mvT hZ9 (wd_54 hw)) (mvT hZ9 (wd_53 hw)) (by decide) (backOf (W := 0) (rm8_N l Z a0 hw [] b1 T9.heap n0 (Nat.le_trans (Nat.le_trans (Nat.le_trans (Nat.le_trans (Nat.le_trans Z0 E1.1) p2_0.1) p3_0.1) p6_0.1) p9_0.1) p9_2) hZ9 (wd_55 hw) (wd_2 hw) (by decide) (by decide)) q11a q11c (g := (mkF m 107 #[.val (.int vi0), .val (.int vi1), .val (.int vi2), .val (.ref b1), .val (.int (0 : Int32)), .val .null, .val (.ref w4), .val (.ref w5), .val (.int (1 : Int32)), .unset] [(.ref b1)])) rfl (by rw [hml]; rfl) (Steps.refl _) (argsL := []) (rest := []) (lenOf pd_6 rfl) rfl (by show 2 * 0 + _ ≤ _; exact Nat.le_of_eq rfl) (hb hby at_107) (fun _ _ => ⟨rfl, e10, (by decide : 5 + 0 ≤ _), (by decide : 74 + 0 ≤ _)⟩)
  dsimp only [Pt.U, Pt.locs, Pt.cells, Pt.slots] at X11 l11 y11 z11 st11 hQ11
  subst l11 y11 z11
  obtain ⟨rfl, N11q, p11_0⟩ := hQ11
  have N11 := Fr.app N10 N11q
  have e11 : T11.heap = T9.heap := p11_0
  obtain ⟨fs, hr, hrun, hended, hREW⟩ := X11.leaveW (s := s) (vm₁ := T9.vm) hS9 (Nat.le_trans (Nat.le_refl _) (Nat.le_of_eq (congrArg Array.size e11.symm))) (v := some (.int (1 : Int32))) (fun h => by rw [Bd.returns] at h; cases h)
  refine ⟨_, _, pre0 _ ?_, hrun, hended, _, _, rfl, ?_, hREW.1, hREW.2.1, hREW.2.2.1, hREW.2.2.2.mono (by decide) (by decide)⟩
  · show Steps p.tables e below (s₁.setTop (mkF m 0 #[.val (.int vi0), .val (.int vi1), .val (.int vi2), .unset, .unset, .unset, .unset, .unset, .unset, .unset] [])) _
    refine st1 _ ?_
    show Steps p.tables e below (T1.setTop (mkF m 3 #[.val (.int vi0), .val (.int vi1), .val (.int vi2), .unset, .unset, .unset, .unset, .unset, .unset, .unset] [(.ref b1)])) _
    refine XS.dup X1.here hx rfl (hb hby at_3) rfl rfl ?_
    show Steps p.tables e below (T1.setTop (mkF m 4 #[.val (.int vi0), .val (.int vi1), .val (.int vi2), .unset, .unset, .unset, .unset, .unset, .unset, .unset] [(.ref b1), (.ref b1)])) _
    refine st2.trans ?_
    show Steps p.tables e below (T2.setTop (mkF m 7 #[.val (.int vi0), .val (.int vi1), .val (.int vi2), .unset, .unset, .unset, .unset, .unset, .unset, .unset] [(.ref b1)])) _
    refine XS.astoreN X2.here hx rfl (hb hby at_7) rfl rfl (l' := #[.val (.int vi0), .val (.int vi1), .val (.int vi2), .val (.ref b1), .unset, .unset, .unset, .unset, .unset, .unset]) rfl ?_
    show Steps p.tables e below (T2.setTop (mkF m 8 #[.val (.int vi0), .val (.int vi1), .val (.int vi2), .val (.ref b1), .unset, .unset, .unset, .unset, .unset, .unset] [])) _
    refine XS.iloadN X2.here hx rfl (hb hby at_8) rfl ?_
    show Steps p.tables e below (T2.setTop (mkF m 9 #[.val (.int vi0), .val (.int vi1), .val (.int vi2), .val (.ref b1), .unset, .unset, .unset, .unset, .unset, .unset] [(.int vi2)])) _
    refine XS.iconst X2.here hx rfl (hb hby at_9) ?_
    show Steps p.tables e below (T2.setTop (mkF m 10 #[.val (.int vi0), .val (.int vi1), .val (.int vi2), .val (.ref b1), .unset, .unset, .unset, .unset, .unset, .unset] [(.int (1 : Int32)), (.int vi2)])) _
    refine XS.iand X2.here hx rfl (hb hby at_10) rfl ?_
    show Steps p.tables e below (T2.setTop (mkF m 11 #[.val (.int vi0), .val (.int vi1), .val (.int vi2), .val (.ref b1), .unset, .unset, .unset, .unset, .unset, .unset] [(.int (vi2 &&& (1 : Int32)))])) _
    refine XS.ifYes X2.here hx rfl (pc0 := 11) (pc' := 18) rfl (hb hby at_11) rfl ((if0 _ _).trans (teq hc11).1) (by decide) (by decide) ?_
    show Steps p.tables e below (T2.setTop (mkF m 18 #[.val (.int vi0), .val (.int vi1), .val (.int vi2), .val (.ref b1), .unset, .unset, .unset, .unset, .unset, .unset] [])) _
    refine XS.iconst X2.here hx rfl (hb hby at_18) ?_
    show Steps p.tables e below (T2.setTop (mkF m 19 #[.val (.int vi0), .val (.int vi1), .val (.int vi2), .val (.ref b1), .unset, .unset, .unset, .unset, .unset, .unset] [(.int (0 : Int32))])) _
    refine XS.istore X2.here hx rfl (hb hby at_19) rfl (l' := #[.val (.int vi0), .val (.int vi1), .val (.int vi2), .val (.ref b1), .val (.int (0 : Int32)), .unset, .unset, .unset, .unset, .unset]) rfl ?_
    show Steps p.tables e below (T2.setTop (mkF m 21 #[.val (.int vi0), .val (.int vi1), .val (.int vi2), .val (.ref b1), .val (.int (0 : Int32)), .unset, .unset, .unset, .unset, .unset] [])) _
    refine XS.aconstNull X2.here hx rfl (hb hby at_21) ?_
    show Steps p.tables e below (T2.setTop (mkF m 22 #[.val (.int vi0), .val (.int vi1), .val (.int vi2), .val (.ref b1), .val (.int (0 : Int32)), .unset, .unset, .unset, .unset, .unset] [.null])) _
    refine XS.astore X2.here hx rfl (hb hby at_22) rfl rfl (l' := #[.val (.int vi0), .val (.int vi1), .val (.int vi2), .val (.ref b1), .val (.int (0 : Int32)), .val .null, .unset, .unset, .unset, .unset]) rfl ?_
    show Steps p.tables e below (T2.setTop (mkF m 24 #[.val (.int vi0), .val (.int vi1), .val (.int vi2), .val (.ref b1), .val (.int (0 : Int32)), .val .null, .unset, .unset, .unset, .unset] [])) _
    refine XS.iload X2.here hx rfl (hb hby at_24) rfl ?_
    show Steps p.tables e below (T2.setTop (mkF m 26 #[.val (.int vi0), .val (.int vi1), .val (.int vi2), .val (.ref b1), .val (.int (0 : Int32)), .val .null, .unset, .unset, .unset, .unset] [(.int (0 : Int32))])) _
    refine XS.ifYes X2.here hx rfl (pc0 := 26) (pc' := 42) rfl (hb hby at_26) rfl ((if0 _ _).trans (teq (rfl : (0 : Int32) = (0 : Int32))).1) (by decide) (by decide) ?_
    show Steps p.tables e below (T2.setTop (mkF m 42 #[.val (.int vi0), .val (.int vi1), .val (.int vi2), .val (.ref b1), .val (.int (0 : Int32)), .val .null, .unset, .unset, .unset, .unset] [])) _
    refine XS.aloadN X2.here hx rfl (hb hby at_42) rfl rfl ?_
    show Steps p.tables e below (T2.setTop (mkF m 43 #[.val (.int vi0), .val (.int vi1), .val (.int vi2), .val (.ref b1), .val (.int (0 : Int32)), .val .null, .unset, .unset, .unset, .unset] [(.ref b1)])) _
    refine XS.aload X2.here hx rfl (hb hby at_43) rfl rfl ?_
    show Steps p.tables e below (T2.setTop (mkF m 45 #[.val (.int vi0), .val (.int vi1), .val (.int vi2), .val (.ref b1), .val (.int (0 : Int32)), .val .null, .unset, .unset, .unset, .unset] [.null, (.ref b1)])) _
    refine st3.trans ?_
    show Steps p.tables e below (T3.setTop (mkF m 48 #[.val (.int vi0), .val (.int vi1), .val (.int vi2), .val (.ref b1), .val (.int (0 : Int32)), .val .null, .unset, .unset, .unset, .unset] [])) _
    refine XS.iloadN X3.here hx rfl (hb hby at_48) rfl ?_
    show Steps p.tables e below (T3.setTop (mkF m 49 #[.val (.int vi0), .val (.int vi1), .val (.int vi2), .val (.ref b1), .val (.int (0 : Int32)), .val .null, .unset, .unset, .unset, .unset] [(.int vi0)])) _
    refine st4 _ ?_
    show Steps p.tables e below (T4.setTop (mkF m 52 #[.val (.int vi0), .val (.int vi1), .val (.int vi2), .val (.ref b1), .val (.int (0 : Int32)), .val .null, .unset, .unset, .unset, .unset] [(.ref w4)])) _
    refine XS.astore X4.here hx rfl (hb hby at_52) rfl rfl (l' := #[.val (.int vi0), .val (.int vi1), .val (.int vi2), .val (.ref b1), .val (.int (0 : Int32)), .val .null, .val (.ref w4), .unset, .unset, .unset]) rfl ?_
    show Steps p.tables e below (T4.setTop (mkF m 54 #[.val (.int vi0), .val (.int vi1), .val (.int vi2), .val (.ref b1), .val (.int (0 : Int32)), .val .null, .val (.ref w4), .unset, .unset, .unset] [])) _
    refine XS.iloadN X4.here hx rfl (hb hby at_54) rfl ?_
    show Steps p.tables e below (T4.setTop (mkF m 55 #[.val (.int vi0), .val (.int vi1), .val (.int vi2), .val (.ref b1), .val (.int (0 : Int32)), .val .null, .val (.ref w4), .unset, .unset, .unset] [(.int vi1)])) _
    refine st5 _ ?_
    show Steps p.tables e below (T5.setTop (mkF m 58 #[.val (.int vi0), .val (.int vi1), .val (.int vi2), .val (.ref b1), .val (.int (0 : Int32)), .val .null, .val (.ref w4), .unset, .unset, .unset] [(.ref w5)])) _
    refine XS.astore X5.here hx rfl (hb hby at_58) rfl rfl (l' := #[.val (.int vi0), .val (.int vi1), .val (.int vi2), .val (.ref b1), .val (.int (0 : Int32)), .val .null, .val (.ref w4), .val (.ref w5), .unset, .unset]) rfl ?_
    show Steps p.tables e below (T5.setTop (mkF m 60 #[.val (.int vi0), .val (.int vi1), .val (.int vi2), .val (.ref b1), .val (.int (0 : Int32)), .val .null, .val (.ref w4), .val (.ref w5), .unset, .unset] [])) _
    refine XS.aloadN X5.here hx rfl (hb hby at_60) rfl rfl ?_
    show Steps p.tables e below (T5.setTop (mkF m 61 #[.val (.int vi0), .val (.int vi1), .val (.int vi2), .val (.ref b1), .val (.int (0 : Int32)), .val .null, .val (.ref w4), .val (.ref w5), .unset, .unset] [(.ref b1)])) _
    refine XS.aload X5.here hx rfl (hb hby at_61) rfl rfl ?_
    show Steps p.tables e below (T5.setTop (mkF m 63 #[.val (.int vi0), .val (.int vi1), .val (.int vi2), .val (.ref b1), .val (.int (0 : Int32)), .val .null, .val (.ref w4), .val (.ref w5), .unset, .unset] [(.ref w4), (.ref b1)])) _
    refine st6.trans ?_
    show Steps p.tables e below (T6.setTop (mkF m 66 #[.val (.int vi0), .val (.int vi1), .val (.int vi2), .val (.ref b1), .val (.int (0 : Int32)), .val .null, .val (.ref w4), .val (.ref w5), .unset, .unset] [])) _
    refine XS.aloadN X6.here hx rfl (hb hby at_66) rfl rfl ?_
    show Steps p.tables e below (T6.setTop (mkF m 67 #[.val (.int vi0), .val (.int vi1), .val (.int vi2), .val (.ref b1), .val (.int (0 : Int32)), .val .null, .val (.ref w4), .val (.ref w5), .unset, .unset] [(.ref b1)])) _
    refine st7.trans ?_
    show Steps p.tables e below (T7.setTop (mkF m 70 #[.val (.int vi0), .val (.int vi1), .val (.int vi2), .val (.ref b1), .val (.int (0 : Int32)), .val .null, .val (.ref w4), .val (.ref w5), .unset, .unset] [(.ref w4)])) _
    refine XS.aload X7.here hx rfl (hb hby at_70) rfl rfl ?_
    show Steps p.tables e below (T7.setTop (mkF m 72 #[.val (.int vi0), .val (.int vi1), .val (.int vi2), .val (.ref b1), .val (.int (0 : Int32)), .val .null, .val (.ref w4), .val (.ref w5), .unset, .unset] [(.ref w4), (.ref w4)])) _
    refine Jvm.RoadKit.acmp (g := (mkF m 72 #[.val (.int vi0), .val (.int vi1), .val (.int vi2), .val (.ref b1), .val (.int (0 : Int32)), .val .null, .val (.ref w4), .val (.ref w5), .unset, .unset] [(.ref w4), (.ref w4)])) X7 hx rfl rfl rfl (pc0 := 72) (pc' := 75) (same := true) rfl (hb hby at_72) rfl (decide_eq_true rfl) (by decide) (by decide) ?_
    show Steps p.tables e below (T7.setTop (mkF m 75 #[.val (.int vi0), .val (.int vi1), .val (.int vi2), .val (.ref b1), .val (.int (0 : Int32)), .val .null, .val (.ref w4), .val (.ref w5), .unset, .unset] [])) _
    refine XS.aloadN X7.here hx rfl (hb hby at_75) rfl rfl ?_
    show Steps p.tables e below (T7.setTop (mkF m 76 #[.val (.int vi0), .val (.int vi1), .val (.int vi2), .val (.ref b1), .val (.int (0 : Int32)), .val .null, .val (.ref w4), .val (.ref w5), .unset, .unset] [(.ref b1)])) _
    refine st8.trans ?_
    show Steps p.tables e below (T8.setTop (mkF m 79 #[.val (.int vi0), .val (.int vi1), .val (.int vi2), .val (.ref b1), .val (.int (0 : Int32)), .val .null, .val (.ref w4), .val (.ref w5), .unset, .unset] [.null])) _
    refine XS.aload X8.here hx rfl (hb hby at_79) rfl rfl ?_
    show Steps p.tables e below (T8.setTop (mkF m 81 #[.val (.int vi0), .val (.int vi1), .val (.int vi2), .val (.ref b1), .val (.int (0 : Int32)), .val .null, .val (.ref w4), .val (.ref w5), .unset, .unset] [.null, .null])) _
    refine Jvm.RoadKit.acmp (g := (mkF m 81 #[.val (.int vi0), .val (.int vi1), .val (.int vi2), .val (.ref b1), .val (.int (0 : Int32)), .val .null, .val (.ref w4), .val (.ref w5), .unset, .unset] [.null, .null])) X8 hx rfl rfl rfl (pc0 := 81) (pc' := 84) (same := true) rfl (hb hby at_81) rfl (decide_eq_true rfl) (by decide) (by decide) ?_
    show Steps p.tables e below (T8.setTop (mkF m 84 #[.val (.int vi0), .val (.int vi1), .val (.int vi2), .val (.ref b1), .val (.int (0 : Int32)), .val .null, .val (.ref w4), .val (.ref w5), .unset, .unset] [])) _
    refine XS.iconst X8.here hx rfl (hb hby at_84) ?_
    show Steps p.tables e below (T8.setTop (mkF m 85 #[.val (.int vi0), .val (.int vi1), .val (.int vi2), .val (.ref b1), .val (.int (0 : Int32)), .val .null, .val (.ref w4), .val (.ref w5), .unset, .unset] [(.int (1 : Int32))])) _
    refine XS.goto X8.here hx rfl (pc0 := 85) (pc' := 89) rfl (hb hby at_85) (by decide) (by decide) ?_
    show Steps p.tables e below (T8.setTop (mkF m 89 #[.val (.int vi0), .val (.int vi1), .val (.int vi2), .val (.ref b1), .val (.int (0 : Int32)), .val .null, .val (.ref w4), .val (.ref w5), .unset, .unset] [(.int (1 : Int32))])) _
    refine XS.istore X8.here hx rfl (hb hby at_89) rfl (l' := #[.val (.int vi0), .val (.int vi1), .val (.int vi2), .val (.ref b1), .val (.int (0 : Int32)), .val .null, .val (.ref w4), .val (.ref w5), .val (.int (1 : Int32)), .unset]) rfl ?_
    show Steps p.tables e below (T8.setTop (mkF m 91 #[.val (.int vi0), .val (.int vi1), .val (.int vi2), .val (.ref b1), .val (.int (0 : Int32)), .val .null, .val (.ref w4), .val (.ref w5), .val (.int (1 : Int32)), .unset] [])) _
    refine XS.aloadN X8.here hx rfl (hb hby at_91) rfl rfl ?_
    show Steps p.tables e below (T8.setTop (mkF m 92 #[.val (.int vi0), .val (.int vi1), .val (.int vi2), .val (.ref b1), .val (.int (0 : Int32)), .val .null, .val (.ref w4), .val (.ref w5), .val (.int (1 : Int32)), .unset] [(.ref b1)])) _
    refine XS.aload X8.here hx rfl (hb hby at_92) rfl rfl ?_
    show Steps p.tables e below (T8.setTop (mkF m 94 #[.val (.int vi0), .val (.int vi1), .val (.int vi2), .val (.ref b1), .val (.int (0 : Int32)), .val .null, .val (.ref w4), .val (.ref w5), .val (.int (1 : Int32)), .unset] [(.ref w5), (.ref b1)])) _
    refine st9.trans ?_
    show Steps p.tables e below (T9.setTop (mkF m 97 #[.val (.int vi0), .val (.int vi1), .val (.int vi2), .val (.ref b1), .val (.int (0 : Int32)), .val .null, .val (.ref w4), .val (.ref w5), .val (.int (1 : Int32)), .unset] [])) _
    refine XS.aloadN X9.here hx rfl (hb hby at_97) rfl rfl ?_
    show Steps p.tables e below (T9.setTop (mkF m 98 #[.val (.int vi0), .val (.int vi1), .val (.int vi2), .val (.ref b1), .val (.int (0 : Int32)), .val .null, .val (.ref w4), .val (.ref w5), .val (.int (1 : Int32)), .unset] [(.ref b1)])) _
    refine st10.trans ?_
    show Steps p.tables e below (T10.setTop (mkF m 101 #[.val (.int vi0), .val (.int vi1), .val (.int vi2), .val (.ref b1), .val (.int (0 : Int32)), .val .null, .val (.ref w4), .val (.ref w5), .val (.int (1 : Int32)), .unset] [(.ref w5)])) _
    refine XS.aload X10.here hx rfl (hb hby at_101) rfl rfl ?_
    show Steps p.tables e below (T10.setTop (mkF m 103 #[.val (.int vi0), .val (.int vi1), .val (.int vi2), .val (.ref b1), .val (.int (0 : Int32)), .val .null, .val (.ref w4), .val (.ref w5), .val (.int (1 : Int32)), .unset] [(.ref w5), (.ref w5)])) _
    refine Jvm.RoadKit.acmp (g := (mkF m 103 #[.val (.int vi0), .val (.int vi1), .val (.int vi2), .val (.ref b1), .val (.int (0 : Int32)), .val .null, .val (.ref w4), .val (.ref w5), .val (.int (1 : Int32)), .unset] [(.ref w5), (.ref w5)])) X10 hx rfl rfl rfl (pc0 := 103) (pc' := 106) (same := true) rfl (hb hby at_103) rfl (decide_eq_true rfl) (by decide) (by decide) ?_
    show Steps p.tables e below (T10.setTop (mkF m 106 #[.val (.int vi0), .val (.int vi1), .val (.int vi2), .val (.ref b1), .val (.int (0 : Int32)), .val .null, .val (.ref w4), .val (.ref w5), .val (.int (1 : Int32)), .unset] [])) _
    refine XS.aloadN X10.here hx rfl (hb hby at_106) rfl rfl ?_
    show Steps p.tables e below (T10.setTop (mkF m 107 #[.val (.int vi0), .val (.int vi1), .val (.int vi2), .val (.ref b1), .val (.int (0 : Int32)), .val .null, .val (.ref w4), .val (.ref w5), .val (.int (1 : Int32)), .unset] [(.ref b1)])) _
    refine st11.trans ?_
    show Steps p.tables e below (T11.setTop (mkF m 110 #[.val (.int vi0), .val (.int vi1), .val (.int vi2), .val (.ref b1), .val (.int (0 : Int32)), .val .null, .val (.ref w4), .val (.ref w5), .val (.int (1 : Int32)), .unset] [.null])) _
    refine XS.aload X11.here hx rfl (hb hby at_110) rfl rfl ?_
    show Steps p.tables e below (T11.setTop (mkF m 112 #[.val (.int vi0), .val (.int vi1), .val (.int vi2), .val (.ref b1), .val (.int (0 : Int32)), .val .null, .val (.ref w4), .val (.ref w5), .val (.int (1 : Int32)), .unset] [.null, .null])) _
    refine Jvm.RoadKit.acmp (g := (mkF m 112 #[.val (.int vi0), .val (.int vi1), .val (.int vi2), .val (.ref b1), .val (.int (0 : Int32)), .val .null, .val (.ref w4), .val (.ref w5), .val (.int (1 : Int32)), .unset] [.null, .null])) X11 hx rfl rfl rfl (pc0 := 112) (pc' := 115) (same := true) rfl (hb hby at_112) rfl (decide_eq_true rfl) (by decide) (by decide) ?_
    show Steps p.tables e below (T11.setTop (mkF m 115 #[.val (.int vi0), .val (.int vi1), .val (.int vi2), .val (.ref b1), .val (.int (0 : Int32)), .val .null, .val (.ref w4), .val (.ref w5), .val (.int (1 : Int32)), .unset] [])) _
    refine XS.iconst X11.here hx rfl (hb hby at_115) ?_
    show Steps p.tables e below (T11.setTop (mkF m 116 #[.val (.int vi0), .val (.int vi1), .val (.int vi2), .val (.ref b1), .val (.int (0 : Int32)), .val .null, .val (.ref w4), .val (.ref w5), .val (.int (1 : Int32)), .unset] [(.int (1 : Int32))])) _
    refine XS.goto X11.here hx rfl (pc0 := 116) (pc' := 120) rfl (hb hby at_116) (by decide) (by decide) ?_
    show Steps p.tables e below (T11.setTop (mkF m 120 #[.val (.int vi0), .val (.int vi1), .val (.int vi2), .val (.ref b1), .val (.int (0 : Int32)), .val .null, .val (.ref w4), .val (.ref w5), .val (.int (1 : Int32)), .unset] [(.int (1 : Int32))])) _
    refine XS.istore X11.here hx rfl (hb hby at_120) rfl (l' := #[.val (.int vi0), .val (.int vi1), .val (.int vi2), .val (.ref b1), .val (.int (0 : Int32)), .val .null, .val (.ref w4), .val (.ref w5), .val (.int (1 : Int32)), .val (.int (1 : Int32))]) rfl ?_
    show Steps p.tables e below (T11.setTop (mkF m 122 #[.val (.int vi0), .val (.int vi1), .val (.int vi2), .val (.ref b1), .val (.int (0 : Int32)), .val .null, .val (.ref w4), .val (.ref w5), .val (.int (1 : Int32)), .val (.int (1 : Int32))] [])) _
    refine XS.iload X11.here hx rfl (hb hby at_122) rfl ?_
    show Steps p.tables e below (T11.setTop (mkF m 124 #[.val (.int vi0), .val (.int vi1), .val (.int vi2), .val (.ref b1), .val (.int (0 : Int32)), .val .null, .val (.ref w4), .val (.ref w5), .val (.int (1 : Int32)), .val (.int (1 : Int32))] [(.int (1 : Int32))])) _
    refine XS.ifNo X11.here hx rfl (hb hby at_124) rfl ((if0 _ _).trans (feq (by decide : ¬ ((1 : Int32) = (0 : Int32)))).1) ?_
    show Steps p.tables e below (T11.setTop (mkF m 127 #[.val (.int vi0), .val (.int vi1), .val (.int vi2), .val (.ref b1), .val (.int (0 : Int32)), .val .null, .val (.ref w4), .val (.ref w5), .val (.int (1 : Int32)), .val (.int (1 : Int32))] [])) _
    refine XS.iload X11.here hx rfl (hb hby at_127) rfl ?_
    show Steps p.tables e below (T11.setTop (mkF m 129 #[.val (.int vi0), .val (.int vi1), .val (.int vi2), .val (.ref b1), .val (.int (0 : Int32)), .val .null, .val (.ref w4), .val (.ref w5), .val (.int (1 : Int32)), .val (.int (1 : Int32))] [(.int (1 : Int32))])) _
    refine XS.ifNo X11.here hx rfl (hb hby at_129) rfl ((if0 _ _).trans (feq (by decide : ¬ ((1 : Int32) = (0 : Int32)))).1) ?_
    show Steps p.tables e below (T11.setTop (mkF m 132 #[.val (.int vi0), .val (.int vi1), .val (.int vi2), .val (.ref b1), .val (.int (0 : Int32)), .val .null, .val (.ref w4), .val (.ref w5), .val (.int (1 : Int32)), .val (.int (1 : Int32))] [])) _
    refine XS.iconst X11.here hx rfl (hb hby at_132) ?_
    show Steps p.tables e below (T11.setTop (mkF m 133 #[.val (.int vi0), .val (.int vi1), .val (.int vi2), .val (.ref b1), .val (.int (0 : Int32)), .val .null, .val (.ref w4), .val (.ref w5), .val (.int (1 : Int32)), .val (.int (1 : Int32))] [(.int (1 : Int32))])) _
    refine XS.goto X11.here hx rfl (pc0 := 133) (pc' := 137) rfl (hb hby at_133) (by decide) (by decide) ?_
    show Steps p.tables e below (T11.setTop (mkF m 137 #[.val (.int vi0), .val (.int vi1), .val (.int vi2), .val (.ref b1), .val (.int (0 : Int32)), .val .null, .val (.ref w4), .val (.ref w5), .val (.int (1 : Int32)), .val (.int (1 : Int32))] [(.int (1 : Int32))])) _
    exact retN X11 hx (t := .boolean) Bd.returns (by simp) (hb hby at_137) hr
  · show Q0_N Z vi0 vi1 vi2 w_SUCCESS w_WARNING w_FAILURE h0 n0 _ T11.heap _
    rw [e11]
    exact ⟨rfl, N11⟩
set_option maxRecDepth 65536 in
theorem rmL (l : Launch) (Z : State) (a0 : Array Value) (hw : ∀ d ∈ tables_1, d.before a0 Z = true) (ws : List Jvm.Cond) (vi0 : Int32) (vi1 : Int32) (vi2 : Int32) (w_SUCCESS : Addr) (w_COMPACT_STRINGS : Int32) (w_WARNING : Addr) (w_FAILURE : Addr) (h0 : Heap) (n0 : Nat) (Z0 : n0 ≤ h0.size) (S_SUCCESS : Sta Z Z.heap "com/example/castellan/castellan/command/CommandReport$ExitCode" "SUCCESS" "Lcom/example/castellan/castellan/command/CommandReport$ExitCode;" (.ref w_SUCCESS)) (O0 : Old Z n0 h0) (S_COMPACT_STRINGS : Sta Z Z.heap "java/lang/String" "COMPACT_STRINGS" "Z" (.int w_COMPACT_STRINGS)) (E_w_SUCCESS : Exa Z Z.heap w_SUCCESS "com/example/castellan/castellan/command/CommandReport$ExitCode") (E_w_WARNING : Exa Z Z.heap w_WARNING "com/example/castellan/castellan/command/CommandReport$ExitCode") (S_WARNING : Sta Z Z.heap "com/example/castellan/castellan/command/CommandReport$ExitCode" "WARNING" "Lcom/example/castellan/castellan/command/CommandReport$ExitCode;" (.ref w_WARNING)) (E_w_FAILURE : Exa Z Z.heap w_FAILURE "com/example/castellan/castellan/command/CommandReport$ExitCode") (S_FAILURE : Sta Z Z.heap "com/example/castellan/castellan/command/CommandReport$ExitCode" "FAILURE" "Lcom/example/castellan/castellan/command/CommandReport$ExitCode;" (.ref w_FAILURE)) (c37_hc3 : ¬ (w_COMPACT_STRINGS = (0 : Int32))) :
    MetFree l x (head1 (Jvm.Cond.code x code maxLocals ret :: ws) room_1) (fun a U => a = #[(.int vi0), (.int vi1), (.int vi2)] ∧ Z.Warmed39 U.vm ∧ U.heap = h0) (fun _ _ _ _ _ => True) (fun _ U o U' => ∃ v L, o = .returned v ∧ (v = some (.int (1 : Int32)) ∧ Fr n0 L) ∧ ReturnedEndW U o U' L room_1.cells room_1.slots) := by
  by_cases cN : (vi2 &&& (1 : Int32)) = (0 : Int32)
  · exact rm0_N l Z a0 hw ws vi0 vi1 vi2 w_SUCCESS w_WARNING w_FAILURE h0 n0 Z0 S_SUCCESS O0 cN E_w_SUCCESS E_w_WARNING S_WARNING E_w_FAILURE S_FAILURE
  · exact rm0_R l Z a0 hw ws vi0 vi1 vi2 w_SUCCESS w_COMPACT_STRINGS w_WARNING w_FAILURE h0 n0 Z0 S_SUCCESS O0 cN S_COMPACT_STRINGS c37_hc3 E_w_SUCCESS E_w_WARNING S_WARNING E_w_FAILURE S_FAILURE
theorem wd_10 {Z : State} {a0 : Array Value} (hw : ∀ d ∈ tables_1, d.before a0 Z = true) : ((Jvm.Cond.initialized "com/example/castellan/castellan/command/CommandReport$ExitCode")).before a0 Z = true := hw _ (List.mem_of_getElem? (i := 10) rfl)
theorem wd_11 {Z : State} {a0 : Array Value} (hw : ∀ d ∈ tables_1, d.before a0 Z = true) : ((Jvm.Cond.laysStatic "com/example/castellan/castellan/command/CommandReport$ExitCode" "SUCCESS" "Lcom/example/castellan/castellan/command/CommandReport$ExitCode;")).before a0 Z = true := hw _ (List.mem_of_getElem? (i := 11) rfl)
theorem wd_76 {Z : State} {a0 : Array Value} (hw : ∀ d ∈ tables_1, d.before a0 Z = true) : ((Jvm.Cond.laysStatic "com/example/castellan/castellan/command/CommandReport$ExitCode" "WARNING" "Lcom/example/castellan/castellan/command/CommandReport$ExitCode;")).before a0 Z = true := hw _ (List.mem_of_getElem? (i := 76) rfl)
theorem wd_78 {Z : State} {a0 : Array Value} (hw : ∀ d ∈ tables_1, d.before a0 Z = true) : ((Jvm.Cond.laysStatic "com/example/castellan/castellan/command/CommandReport$ExitCode" "FAILURE" "Lcom/example/castellan/castellan/command/CommandReport$ExitCode;")).before a0 Z = true := hw _ (List.mem_of_getElem? (i := 78) rfl)
set_option maxRecDepth 65536 in
set_option maxHeartbeats 40000000 in
theorem comes_1 {Post : Tables → Env → Array Value → State → Outcome → State → Prop} (hpost : ∀ tb e args s v u, (limb_1_1.after args s (.returned v) u = true ∧ limb_1_2.after args s (.returned v) u = true ∧ True) → ReturnedEndW s (.returned v) u (Jvm.fieldLocs frame_1_writes args s ++ Jvm.arrayLocs frame_1_arrays args s ++ Jvm.staticLocs frame_1_statics s) 16 1152 → Post tb e args s (.returned v) u) :
    ArmFor flags0 classFile x code maxLocals ret World_1 tables_1 room_1 Calls_1 rest_1 Pre_1 Post := by
  intro l hfl _ _ p e ha hc hk s m args below hf hA hF happ hP
  obtain ⟨hcalls, hrest, hpre⟩ := hP
  obtain ⟨-, -, -, hnamed, -, -, -, hat⟩ := (Spec.applies_iff hf).mp happ
  obtain ⟨hg, hn⟩ := and_e (Cond.before_iff.mp (show (Jvm.Cond.and given_1 narrow_1).before args s = true from hpre))
  obtain ⟨gc, hg⟩ := and_e hg
  obtain ⟨ga0, hg⟩ := and_e hg
  obtain ⟨ga1, hg⟩ := and_e hg
  have ga2 := hg
  obtain ⟨w0, w1, w2, rfl⟩ : ∃ w0 w1 w2 : Value, args = #[w0, w1, w2] := by
    have hs : args.size = 3 := by simpa [Cond.value, given_1] using gc
    obtain ⟨L⟩ := args
    match L, hs with
    | [w0, w1, w2], _ => exact ⟨w0, w1, w2, rfl⟩
  have hw := fun d (hd : d ∈ tables_1) => atoms_spec (ws := Jvm.Cond.code x code maxLocals ret :: tables_1) hat d (List.mem_cons_of_mem _ hd)
  obtain ⟨hsets, hown0⟩ := atoms_of _ (rest_1_c_eq ▸ (show rest_1_c.before _ s = true from hrest))
  obtain ⟨i0, ei0⟩ := is_v ga0
  obtain rfl : w0 = (.int i0) := Option.some.inj ei0
  obtain ⟨i1, ei1⟩ := is_v ga1
  obtain rfl : w1 = (.int i1) := Option.some.inj ei1
  obtain ⟨i2, ei2⟩ := is_v ga2
  obtain rfl : w2 = (.int i2) := Option.some.inj ei2
  obtain ⟨h_0, hn⟩ := and_e hn
  obtain ⟨h_1, hn⟩ := and_e hn
  have h_2 := hn
  obtain ⟨a_SUCCESS, e_SUCCESS⟩ := exa_v h_0
  have S_SUCCESS : Sta s s.heap "com/example/castellan/castellan/command/CommandReport$ExitCode" "SUCCESS" "Lcom/example/castellan/castellan/command/CommandReport$ExitCode;" (.ref a_SUCCESS) := Sta.start e_SUCCESS (Or.inr ⟨(wd_10 hw), (wd_11 hw)⟩)
  have E_SUCCESS : Exa s s.heap a_SUCCESS "com/example/castellan/castellan/command/CommandReport$ExitCode" := Exa.start e_SUCCESS h_0
  obtain ⟨a_WARNING, e_WARNING⟩ := exa_v h_1
  have S_WARNING : Sta s s.heap "com/example/castellan/castellan/command/CommandReport$ExitCode" "WARNING" "Lcom/example/castellan/castellan/command/CommandReport$ExitCode;" (.ref a_WARNING) := Sta.start e_WARNING (Or.inr ⟨(wd_10 hw), (wd_76 hw)⟩)
  have E_WARNING : Exa s s.heap a_WARNING "com/example/castellan/castellan/command/CommandReport$ExitCode" := Exa.start e_WARNING h_1
  obtain ⟨a_FAILURE, e_FAILURE⟩ := exa_v h_2
  have S_FAILURE : Sta s s.heap "com/example/castellan/castellan/command/CommandReport$ExitCode" "FAILURE" "Lcom/example/castellan/castellan/command/CommandReport$ExitCode;" (.ref a_FAILURE) := Sta.start e_FAILURE (Or.inr ⟨(wd_10 hw), (wd_78 hw)⟩)
  have E_FAILURE : Exa s s.heap a_FAILURE "com/example/castellan/castellan/command/CommandReport$ExitCode" := Exa.start e_FAILURE h_2
  have n3 := not_v (Cond.before_iff.mp (hsets _ (List.mem_of_getElem? (i := 2) rfl)))
  obtain ⟨iG, eG⟩ := is_v (Cond.before_iff.mp (hsets _ (List.mem_of_getElem? (i := 1) rfl)))
  have SG : Sta s s.heap "java/lang/String" "COMPACT_STRINGS" "Z" (.int iG) := Sta.start eG (Or.inl (hsets _ (List.mem_of_getElem? (i := 0) rfl)))
  have hG : ¬ (iG = (0 : Int32)) := gotF (Cond.eq_ints eG (Term.int_eval (0))) n3
  obtain ⟨n, o, h1, h2, h3, _, L, rfl, ⟨rfl, N⟩, hq⟩ := rmL l s _ hw tables_1 i0 i1 i2 a_SUCCESS iG a_WARNING a_FAILURE s.heap s.heap.size (Nat.le_refl _) S_SUCCESS (Old.start s) SG E_SUCCESS E_WARNING S_WARNING E_FAILURE S_FAILURE hG p e ha hc hk s m _ below hf ((Spec.applies_iff_loose hf).mp happ).1 ⟨rfl, State.Warmed39.refl s, rfl⟩ trivial
  refine ⟨n, _, h1, h2, h3, hpost _ _ _ _ _ _ ⟨Cond.after_iff.mpr rfl, Cond.after_iff.mpr (eq_i res_at (Term.int_eval (1)) rfl), trivial⟩ ⟨hq.1, hq.2.1, hq.2.2.1, (hq.2.2.2.sift fun y hy => Or.inr (N y hy)).mono (by decide) (by decide)⟩⟩
theorem main_1_1 : Claimed_1_1 := comes_1 fun _ _ _ _ _ _ h hF => ⟨h.1, hF⟩
theorem main_1_2 : Claimed_1_2 := comes_1 fun _ _ _ _ _ _ h hF => ⟨h.2.1, hF⟩
end Jvm.Pilot.@@N@@
namespace Jvm.Pilot.@@N@@
open Jvm Jvm.ClassFile Sem Op Lib Jvm.Free Jvm.Stand Jvm.Pilot.@@N@@.Jvm.D
/-! MADE BY PROGRAM (witnessworld.py) out of the Statement's table words and the real class files: 20 classes; the members and pool entries that the words name. The judged class is class 1, her method 2. -/
namespace start1
open Jvm.ClassFile
def u (s : String) : CpInfo := .utf8 (stringToUtf16 s)
/-- a pool by its gaps: so many unusable entries, then the entry; so many at the end -/
def gap : Nat → List CpInfo → List CpInfo
  | 0, r => r
  | n + 1, r => .unusable :: gap n r
def poolList (es : List (Nat × CpInfo)) (last : Nat) : List CpInfo := es.foldr (fun e r => gap e.1 (e.2 :: r)) (gap last [])
def pool (es : List (Nat × CpInfo)) (last : Nat) : Array CpInfo := ⟨poolList es last⟩
def fileOf (pool : Array CpInfo) (this : Nat) (attrs : Array Attribute := #[]) (ms : Array MethodInfo := #[]) (fl : Nat := 33) (sup : Nat := 0) (ifs : Array Nat := #[]) (fds : Array FieldInfo := #[]) : ClassFile where
  minorVersion := 0
  majorVersion := 65
  constantPool := pool
  accessFlags := fl
  thisClass := this
  superClass := sup
  interfaces := ifs
  fields := fds
  methods := ms
  attributes := attrs
def plain (name : String) (sup : Option ClassId) : Class where
  name := name
  kind := .ordinary
  loader := none
  accessFlags := 33
  super := sup
  interfaces := #[]
  cf := none
  fields := #[]
  methods := #[]
  instanceTypes := #[]
  staticTypes := #[]
  resolved := #[]
  callSites := []
  init := .initialized
  statics := none
  mirror := none

def pool0 : Array CpInfo := pool [(5, u "<init>"), (0, u "()V"), (1, .class_ 10), (1, u "java/lang/Object")] 113

def k0c0 : Code := { maxStack := 0, maxLocals := 1, code := object_method_1_code, exceptionTable := #[], attributes := #[] }
def k0m0 : Method := { name := "<init>", desc := "()V", sig := { parameters := [], returnType := none }, accessFlags := 1, code := some k0c0 }
/-- java/lang/Object -/
def k0 : Class := { plain "java/lang/Object" none with
  accessFlags := 33
  interfaces := #[]
  cf := some (fileOf pool0 8 #[] #[{ accessFlags := 1, nameIndex := 5, descriptorIndex := 6, attributes := #[] }] 33 0 #[] #[])
  fields := #[]
  methods := #[k0m0]
  instanceTypes := #[]
  staticTypes := #[]
  resolved := Array.replicate 124 none
  statics := none }

def pool1 : Array CpInfo := pool [(2, .class_ 4), (0, .nameAndType 5 6), (0, u "java/lang/Object"), (0, u "<init>"), (0, u "()V"), (0, .integer 2147483647), (0, .fieldref 9 10), (0, .class_ 11), (0, .nameAndType 12 13), (0, u "com/example/castellan/castellan/command/CommandReport$ExitCode"), (0, u "SUCCESS"), (0, u "Lcom/example/castellan/castellan/command/CommandReport$ExitCode;"), (0, .fieldref 9 15), (0, .nameAndType 16 13), (0, u "WARNING"), (0, .fieldref 9 18), (0, .nameAndType 19 13), (0, u "FAILURE"), (0, .class_ 21), (0, u "com/example/castellan/castellan/command/CommandReport"), (0, .methodref 20 3), (0, .methodref 24 25), (0, .class_ 26), (0, .nameAndType 27 28), (0, u "java/lang/String"), (0, u "valueOf"), (0, u "(C)Ljava/lang/String;"), (0, .methodref 20 30), (0, .nameAndType 31 32), (0, u "setMessage"), (0, u "(Ljava/lang/String;)V"), (0, .methodref 34 35), (0, .class_ 36), (0, .nameAndType 37 38), (0, u "com/example/castellan/castellan/command/CommandReportSetExitCodePinLaw"), (0, u "pick"), (0, u "(I)Lcom/example/castellan/castellan/command/CommandReport$ExitCode;"), (0, .methodref 20 40), (0, .nameAndType 41 42), (0, u "setExitCode"), (0, u "(Lcom/example/castellan/castellan/command/CommandReport$ExitCode;)V"), (0, .methodref 20 44), (0, .nameAndType 45 46), (0, u "getExitCode"), (0, u "()Lcom/example/castellan/castellan/command/CommandReport$ExitCode;"), (0, .methodref 20 48), (0, .nameAndType 49 50), (0, u "getMessage"), (0, u "()Ljava/lang/String;"), (3, u "law"), (0, u "(III)Z")] 4

def k1m0 : Method := { name := "<init>", desc := "()V", sig := { parameters := [], returnType := none }, accessFlags := 1, code := none }
def k1c1 : Code := { maxStack := 2, maxLocals := 2, code := method_2_code, exceptionTable := #[], attributes := #[] }
def k1m1 : Method := { name := "pick", desc := "(I)Lcom/example/castellan/castellan/command/CommandReport$ExitCode;", sig := { parameters := [.int], returnType := some (.object "com/example/castellan/castellan/command/CommandReport$ExitCode") }, accessFlags := 10, code := some k1c1 }
def k1c2 : Code := { maxStack := 2, maxLocals := 10, code := code, exceptionTable := #[], attributes := #[] }
def k1m2 : Method := { name := "law", desc := "(III)Z", sig := { parameters := [.int, .int, .int], returnType := some .boolean }, accessFlags := 9, code := some k1c2 }
/-- com/example/castellan/castellan/command/CommandReportSetExitCodePinLaw -/
def k1 : Class := { plain "com/example/castellan/castellan/command/CommandReportSetExitCodePinLaw" (some 0) with
  accessFlags := 49
  interfaces := #[]
  cf := some (fileOf pool1 34 #[] #[{ accessFlags := 1, nameIndex := 5, descriptorIndex := 6, attributes := #[] }, { accessFlags := 10, nameIndex := 37, descriptorIndex := 38, attributes := #[] }, { accessFlags := 9, nameIndex := 54, descriptorIndex := 55, attributes := #[] }] 49 2 #[] #[])
  fields := #[]
  methods := #[k1m0, k1m1, k1m2]
  instanceTypes := #[]
  staticTypes := #[]
  resolved := Array.replicate 60 none
  statics := none }

def pool2 : Array CpInfo := pool [(1, .methodref 2 3), (0, .class_ 4), (0, .nameAndType 5 6), (0, u "java/lang/Object"), (0, u "<init>"), (0, u "()V"), (0, .fieldref 8 9), (0, .class_ 10), (0, .nameAndType 11 12), (0, u "com/example/castellan/castellan/command/CommandReport$ExitCode"), (0, u "SUCCESS"), (0, u "Lcom/example/castellan/castellan/command/CommandReport$ExitCode;"), (0, .fieldref 14 15), (0, .class_ 16), (0, .nameAndType 17 12), (0, u "com/example/castellan/castellan/command/CommandReport"), (0, u "exitCode"), (0, .string 17), (0, .methodref 20 21), (0, .class_ 22), (0, .nameAndType 23 24), (0, u "java/util/Objects"), (0, u "requireNonNull"), (0, u "(Ljava/lang/Object;Ljava/lang/String;)Ljava/lang/Object;"), (0, .fieldref 14 26), (0, .nameAndType 27 28), (0, u "message"), (0, u "Ljava/lang/String;"), (2, u "getExitCode"), (0, u "()Lcom/example/castellan/castellan/command/CommandReport$ExitCode;"), (0, u "setExitCode"), (0, u "(Lcom/example/castellan/castellan/command/CommandReport$ExitCode;)V"), (0, u "getMessage"), (0, u "()Ljava/lang/String;"), (0, u "setMessage"), (0, u "(Ljava/lang/String;)V")] 5

def k2c0 : Code := { maxStack := 2, maxLocals := 1, code := prog_13_method_1_code, exceptionTable := #[], attributes := #[] }
def k2m0 : Method := { name := "<init>", desc := "()V", sig := { parameters := [], returnType := none }, accessFlags := 1, code := some k2c0 }
def k2c1 : Code := { maxStack := 1, maxLocals := 1, code := prog_13_method_2_code, exceptionTable := #[], attributes := #[] }
def k2m1 : Method := { name := "getExitCode", desc := "()Lcom/example/castellan/castellan/command/CommandReport$ExitCode;", sig := { parameters := [], returnType := some (.object "com/example/castellan/castellan/command/CommandReport$ExitCode") }, accessFlags := 1, code := some k2c1 }
def k2c2 : Code := { maxStack := 3, maxLocals := 2, code := prog_13_method_3_code, exceptionTable := #[], attributes := #[] }
def k2m2 : Method := { name := "setExitCode", desc := "(Lcom/example/castellan/castellan/command/CommandReport$ExitCode;)V", sig := { parameters := [(.object "com/example/castellan/castellan/command/CommandReport$ExitCode")], returnType := none }, accessFlags := 1, code := some k2c2 }
def k2c3 : Code := { maxStack := 1, maxLocals := 1, code := prog_13_method_4_code, exceptionTable := #[], attributes := #[] }
def k2m3 : Method := { name := "getMessage", desc := "()Ljava/lang/String;", sig := { parameters := [], returnType := some (.object "java/lang/String") }, accessFlags := 1, code := some k2c3 }
def k2c4 : Code := { maxStack := 2, maxLocals := 2, code := prog_13_method_5_code, exceptionTable := #[], attributes := #[] }
def k2m4 : Method := { name := "setMessage", desc := "(Ljava/lang/String;)V", sig := { parameters := [(.object "java/lang/String")], returnType := none }, accessFlags := 1, code := some k2c4 }
/-- com/example/castellan/castellan/command/CommandReport -/
def k2 : Class := { plain "com/example/castellan/castellan/command/CommandReport" (some 0) with
  accessFlags := 49
  interfaces := #[]
  cf := some (fileOf pool2 14 #[.nestMembers #[8]] #[{ accessFlags := 1, nameIndex := 5, descriptorIndex := 6, attributes := #[] }, { accessFlags := 1, nameIndex := 31, descriptorIndex := 32, attributes := #[] }, { accessFlags := 1, nameIndex := 33, descriptorIndex := 34, attributes := #[] }, { accessFlags := 1, nameIndex := 35, descriptorIndex := 36, attributes := #[] }, { accessFlags := 1, nameIndex := 37, descriptorIndex := 38, attributes := #[] }] 49 2 #[] #[{ accessFlags := 2, nameIndex := 17, descriptorIndex := 12, attributes := #[] }, { accessFlags := 2, nameIndex := 27, descriptorIndex := 28, attributes := #[] }])
  fields := #[{ name := "exitCode", type := (.object "com/example/castellan/castellan/command/CommandReport$ExitCode"), accessFlags := 2, slot := 0, constantValue := 0 }, { name := "message", type := (.object "java/lang/String"), accessFlags := 2, slot := 1, constantValue := 0 }]
  methods := #[k2m0, k2m1, k2m2, k2m3, k2m4]
  instanceTypes := #[(.object "com/example/castellan/castellan/command/CommandReport$ExitCode"), (.object "java/lang/String")]
  staticTypes := #[]
  resolved := Array.replicate 44 none
  statics := none }

def pool3 : Array CpInfo := pool [(1, .class_ 2), (0, u "java/lang/constant/Constable"), (0, .class_ 4), (0, u "java/lang/Object")] 6

/-- java/lang/constant/Constable -/
def k3 : Class := { plain "java/lang/constant/Constable" (some 0) with
  accessFlags := 1537
  interfaces := #[]
  cf := some (fileOf pool3 1 #[] #[] 1537 3 #[] #[])
  fields := #[]
  methods := #[]
  instanceTypes := #[]
  staticTypes := #[]
  resolved := Array.replicate 11 none
  statics := none }

def pool4 : Array CpInfo := pool [(1, .class_ 2), (0, u "java/lang/Comparable"), (0, .class_ 4), (0, u "java/lang/Object")] 7

/-- java/lang/Comparable -/
def k4 : Class := { plain "java/lang/Comparable" (some 0) with
  accessFlags := 1537
  interfaces := #[]
  cf := some (fileOf pool4 1 #[] #[] 1537 3 #[] #[])
  fields := #[]
  methods := #[]
  instanceTypes := #[]
  staticTypes := #[]
  resolved := Array.replicate 12 none
  statics := none }

def pool5 : Array CpInfo := pool [(1, .class_ 2), (0, u "java/io/Serializable"), (0, .class_ 4), (0, u "java/lang/Object")] 2

/-- java/io/Serializable -/
def k5 : Class := { plain "java/io/Serializable" (some 0) with
  accessFlags := 1537
  interfaces := #[]
  cf := some (fileOf pool5 1 #[] #[] 1537 3 #[] #[])
  fields := #[]
  methods := #[]
  instanceTypes := #[]
  staticTypes := #[]
  resolved := Array.replicate 7 none
  statics := none }

def pool6 : Array CpInfo := pool [(2, .class_ 4), (1, u "java/lang/Enum"), (0, u "name"), (0, u "Ljava/lang/String;"), (2, u "ordinal"), (0, u "I"), (1, .class_ 14), (1, u "java/lang/Object"), (4, u "hash"), (86, .class_ 108), (1, u "java/lang/Enum$EnumDesc"), (2, .class_ 112), (0, u "java/lang/constant/Constable"), (0, .class_ 114), (0, u "java/lang/Comparable"), (0, .class_ 116), (0, u "java/io/Serializable")] 87

/-- java/lang/Enum -/
def k6 : Class := { plain "java/lang/Enum" (some 0) with
  accessFlags := 1057
  interfaces := #[3, 4, 5]
  cf := some (fileOf pool6 2 #[.nestMembers #[106]] #[] 1057 12 #[111, 113, 115] #[{ accessFlags := 18, nameIndex := 5, descriptorIndex := 6, attributes := #[] }, { accessFlags := 18, nameIndex := 9, descriptorIndex := 10, attributes := #[] }, { accessFlags := 2, nameIndex := 19, descriptorIndex := 10, attributes := #[] }])
  fields := #[{ name := "name", type := (.object "java/lang/String"), accessFlags := 18, slot := 0, constantValue := 0 }, { name := "ordinal", type := .int, accessFlags := 18, slot := 1, constantValue := 0 }, { name := "hash", type := .int, accessFlags := 2, slot := 2, constantValue := 0 }]
  methods := #[]
  instanceTypes := #[(.object "java/lang/String"), .int, .int]
  staticTypes := #[]
  resolved := Array.replicate 204 none
  statics := none }

def pool7 : Array CpInfo := pool [(1, .class_ 2), (0, u "com/example/castellan/castellan/command/CommandReport$ExitCode"), (2, u "SUCCESS"), (0, u "Lcom/example/castellan/castellan/command/CommandReport$ExitCode;"), (2, u "WARNING"), (2, u "FAILURE"), (2, u "$VALUES"), (0, u "[Lcom/example/castellan/castellan/command/CommandReport$ExitCode;"), (6, .class_ 25), (1, u "java/lang/Enum"), (26, .class_ 53), (0, u "com/example/castellan/castellan/command/CommandReport")] 2

/-- com/example/castellan/castellan/command/CommandReport$ExitCode -/
def k7 : Class := { plain "com/example/castellan/castellan/command/CommandReport$ExitCode" (some 6) with
  accessFlags := 16433
  interfaces := #[]
  cf := some (fileOf pool7 1 #[.nestHost 52] #[] 16433 23 #[] #[{ accessFlags := 16409, nameIndex := 5, descriptorIndex := 6, attributes := #[] }, { accessFlags := 16409, nameIndex := 9, descriptorIndex := 6, attributes := #[] }, { accessFlags := 16409, nameIndex := 12, descriptorIndex := 6, attributes := #[] }, { accessFlags := 4122, nameIndex := 15, descriptorIndex := 16, attributes := #[] }])
  fields := #[{ name := "SUCCESS", type := (.object "com/example/castellan/castellan/command/CommandReport$ExitCode"), accessFlags := 16409, slot := 0, constantValue := 0 }, { name := "WARNING", type := (.object "com/example/castellan/castellan/command/CommandReport$ExitCode"), accessFlags := 16409, slot := 1, constantValue := 0 }, { name := "FAILURE", type := (.object "com/example/castellan/castellan/command/CommandReport$ExitCode"), accessFlags := 16409, slot := 2, constantValue := 0 }, { name := "$VALUES", type := (.array (.object "com/example/castellan/castellan/command/CommandReport$ExitCode")), accessFlags := 4122, slot := 3, constantValue := 0 }]
  methods := #[]
  instanceTypes := #[(.object "java/lang/String"), .int, .int]
  staticTypes := #[(.object "com/example/castellan/castellan/command/CommandReport$ExitCode"), (.object "com/example/castellan/castellan/command/CommandReport$ExitCode"), (.object "com/example/castellan/castellan/command/CommandReport$ExitCode"), (.array (.object "com/example/castellan/castellan/command/CommandReport$ExitCode"))]
  resolved := Array.replicate 56 none
  statics := some 0 }

def pool8 : Array CpInfo := pool [(2, .class_ 4), (1, u "java/lang/CharSequence"), (42, .class_ 48), (0, u "java/lang/CharSequence$1CodePointIterator"), (10, .class_ 60), (0, u "java/lang/CharSequence$1CharIterator"), (5, .class_ 67), (0, u "java/lang/Object")] 63

/-- java/lang/CharSequence -/
def k8 : Class := { plain "java/lang/CharSequence" (some 0) with
  accessFlags := 1537
  interfaces := #[]
  cf := some (fileOf pool8 2 #[.nestMembers #[47, 59]] #[] 1537 66 #[] #[])
  fields := #[]
  methods := #[]
  instanceTypes := #[]
  staticTypes := #[]
  resolved := Array.replicate 131 none
  statics := none }

def pool9 : Array CpInfo := pool [(1, .class_ 2), (0, u "java/lang/constant/ConstantDesc"), (0, .class_ 4), (0, u "java/lang/Object")] 32

/-- java/lang/constant/ConstantDesc -/
def k9 : Class := { plain "java/lang/constant/ConstantDesc" (some 0) with
  accessFlags := 1537
  interfaces := #[]
  cf := some (fileOf pool9 1 #[] #[] 1537 3 #[] #[])
  fields := #[]
  methods := #[]
  instanceTypes := #[]
  staticTypes := #[]
  resolved := Array.replicate 37 none
  statics := none }

def pool10 : Array CpInfo := pool [(1, .methodref 2 3), (0, .class_ 4), (0, .nameAndType 5 6), (0, u "java/lang/Object"), (0, u "<init>"), (0, u "()V"), (2, .fieldref 10 11), (0, .class_ 12), (0, .nameAndType 13 14), (0, u "java/lang/String"), (0, u "value"), (0, u "[B"), (0, .fieldref 10 16), (0, .nameAndType 17 18), (0, u "coder"), (0, u "B"), (2, u "hash"), (0, u "I"), (2, u "hashIsZero"), (0, u "Z"), (11, .fieldref 10 39), (0, .nameAndType 40 26), (0, u "COMPACT_STRINGS"), (12, u "toBytes"), (53, .class_ 109), (1, u "java/lang/StringLatin1"), (99, .methodref 10 210), (0, .nameAndType 5 211), (0, u "([BB)V"), (157, u "(C)Z"), (205, .class_ 576), (0, u "java/lang/CharSequence"), (22, u "CASE_INSENSITIVE_ORDER"), (0, u "Ljava/util/Comparator;"), (181, u "valueOf"), (0, u "(C)Ljava/lang/String;"), (231, .methodref 107 1016), (0, .nameAndType 1017 369), (0, u "canEncode"), (0, .methodref 107 1019), (0, .nameAndType 53 1020), (0, u "(C)[B"), (80, u "serialPersistentFields"), (0, u "[Ljava/io/ObjectStreamField;"), (0, .class_ 1104), (0, u "java/lang/String$CaseInsensitiveComparator"), (1, .class_ 1107), (0, u "java/io/Serializable"), (0, .class_ 1109), (0, u "java/lang/Comparable"), (0, .class_ 1111), (0, u "java/lang/constant/Constable"), (0, .class_ 1113), (0, u "java/lang/constant/ConstantDesc"), (2, u "serialVersionUID"), (0, u "J"), (3, u "REPL"), (0, u "C"), (2, u "LATIN1"), (1, u "UTF16")] 323

def k10m0 : Method := { name := "<init>", desc := "()V", sig := { parameters := [], returnType := none }, accessFlags := 1, code := none }
def k10c1 : Code := { maxStack := 4, maxLocals := 1, code := jdk_42_method_139_code, exceptionTable := #[], attributes := #[] }
def k10m1 : Method := { name := "valueOf", desc := "(C)Ljava/lang/String;", sig := { parameters := [.char], returnType := some (.object "java/lang/String") }, accessFlags := 9, code := some k10c1 }
def k10c2 : Code := { maxStack := 2, maxLocals := 3, code := jdk_42_method_151_code, exceptionTable := #[], attributes := #[] }
def k10m2 : Method := { name := "<init>", desc := "([BB)V", sig := { parameters := [(.array .byte), .byte], returnType := none }, accessFlags := 0, code := some k10c2 }
/-- java/lang/String -/
def k10 : Class := { plain "java/lang/String" (some 0) with
  accessFlags := 49
  interfaces := #[5, 4, 8, 3, 9]
  cf := some (fileOf pool10 10 #[.nestMembers #[1103]] #[{ accessFlags := 1, nameIndex := 5, descriptorIndex := 6, attributes := #[] }, { accessFlags := 9, nameIndex := 782, descriptorIndex := 783, attributes := #[] }, { accessFlags := 0, nameIndex := 5, descriptorIndex := 211, attributes := #[] }] 49 2 #[1106, 1108, 575, 1110, 1112] #[{ accessFlags := 18, nameIndex := 13, descriptorIndex := 14, attributes := #[] }, { accessFlags := 18, nameIndex := 17, descriptorIndex := 18, attributes := #[] }, { accessFlags := 2, nameIndex := 21, descriptorIndex := 22, attributes := #[] }, { accessFlags := 2, nameIndex := 25, descriptorIndex := 26, attributes := #[] }, { accessFlags := 26, nameIndex := 1116, descriptorIndex := 1117, attributes := #[] }, { accessFlags := 24, nameIndex := 40, descriptorIndex := 26, attributes := #[] }, { accessFlags := 26, nameIndex := 1101, descriptorIndex := 1102, attributes := #[] }, { accessFlags := 26, nameIndex := 1121, descriptorIndex := 1122, attributes := #[] }, { accessFlags := 25, nameIndex := 599, descriptorIndex := 600, attributes := #[] }, { accessFlags := 24, nameIndex := 1125, descriptorIndex := 18, attributes := #[] }, { accessFlags := 24, nameIndex := 1127, descriptorIndex := 18, attributes := #[] }])
  fields := #[{ name := "value", type := (.array .byte), accessFlags := 18, slot := 0, constantValue := 0 }, { name := "coder", type := .byte, accessFlags := 18, slot := 1, constantValue := 0 }, { name := "hash", type := .int, accessFlags := 2, slot := 2, constantValue := 0 }, { name := "hashIsZero", type := .boolean, accessFlags := 2, slot := 3, constantValue := 0 }, { name := "serialVersionUID", type := .long, accessFlags := 26, slot := 0, constantValue := 0 }, { name := "COMPACT_STRINGS", type := .boolean, accessFlags := 24, slot := 1, constantValue := 0 }, { name := "serialPersistentFields", type := (.array (.object "java/io/ObjectStreamField")), accessFlags := 26, slot := 2, constantValue := 0 }, { name := "REPL", type := .char, accessFlags := 26, slot := 3, constantValue := 0 }, { name := "CASE_INSENSITIVE_ORDER", type := (.object "java/util/Comparator"), accessFlags := 25, slot := 4, constantValue := 0 }, { name := "LATIN1", type := .byte, accessFlags := 24, slot := 5, constantValue := 0 }, { name := "UTF16", type := .byte, accessFlags := 24, slot := 6, constantValue := 0 }]
  methods := #[k10m0, k10m1, k10m2]
  instanceTypes := #[(.array .byte), .byte, .int, .boolean]
  staticTypes := #[.long, .boolean, (.array (.object "java/io/ObjectStreamField")), .char, (.object "java/util/Comparator"), .byte, .byte]
  resolved := Array.replicate 1451 none
  statics := some 1 }

def pool11 : Array CpInfo := pool [(2, .class_ 4), (1, u "java/lang/Object"), (0, u "<init>"), (0, u "()V"), (35, .class_ 44), (1, u "java/util/Objects"), (0, u "requireNonNull"), (48, u "(Ljava/lang/Object;Ljava/lang/String;)Ljava/lang/Object;")] 89

def k11m0 : Method := { name := "<init>", desc := "()V", sig := { parameters := [], returnType := none }, accessFlags := 2, code := none }
def k11c1 : Code := { maxStack := 3, maxLocals := 2, code := jdk_31_method_11_code, exceptionTable := #[], attributes := #[] }
def k11m1 : Method := { name := "requireNonNull", desc := "(Ljava/lang/Object;Ljava/lang/String;)Ljava/lang/Object;", sig := { parameters := [(.object "java/lang/Object"), (.object "java/lang/String")], returnType := some (.object "java/lang/Object") }, accessFlags := 9, code := some k11c1 }
/-- java/util/Objects -/
def k11 : Class := { plain "java/util/Objects" (some 0) with
  accessFlags := 49
  interfaces := #[]
  cf := some (fileOf pool11 42 #[] #[{ accessFlags := 2, nameIndex := 5, descriptorIndex := 6, attributes := #[] }, { accessFlags := 9, nameIndex := 45, descriptorIndex := 94, attributes := #[] }] 49 2 #[] #[])
  fields := #[]
  methods := #[k11m0, k11m1]
  instanceTypes := #[]
  staticTypes := #[]
  resolved := Array.replicate 184 none
  statics := none }

def pool12 : Array CpInfo := pool [(4, .class_ 6), (1, u "java/lang/Object"), (0, u "<init>"), (0, u "()V"), (5, .class_ 16), (1, u "java/lang/StringLatin1"), (73, u "canEncode"), (14, u "(C)Z"), (15, u "$assertionsDisabled"), (0, u "Z"), (98, .class_ 223), (1, u "java/lang/StringLatin1$LinesSpliterator"), (156, u "toBytes"), (1, u "(C)[B"), (7, .class_ 391), (0, u "java/lang/StringLatin1$CharsSpliterator")] 3

def k12m0 : Method := { name := "<init>", desc := "()V", sig := { parameters := [], returnType := none }, accessFlags := 0, code := none }
def k12c1 : Code := { maxStack := 2, maxLocals := 1, code := jdk_43_method_3_code, exceptionTable := #[], attributes := #[] }
def k12m1 : Method := { name := "canEncode", desc := "(C)Z", sig := { parameters := [.char], returnType := some .boolean }, accessFlags := 9, code := some k12c1 }
def k12c2 : Code := { maxStack := 4, maxLocals := 1, code := jdk_43_method_46_code, exceptionTable := #[], attributes := #[] }
def k12m2 : Method := { name := "toBytes", desc := "(C)[B", sig := { parameters := [.char], returnType := some (.array .byte) }, accessFlags := 9, code := some k12c2 }
/-- java/lang/StringLatin1 -/
def k12 : Class := { plain "java/lang/StringLatin1" (some 0) with
  accessFlags := 48
  interfaces := #[]
  cf := some (fileOf pool12 14 #[.nestMembers #[390, 221]] #[{ accessFlags := 0, nameIndex := 7, descriptorIndex := 8, attributes := #[] }, { accessFlags := 9, nameIndex := 90, descriptorIndex := 105, attributes := #[] }, { accessFlags := 9, nameIndex := 380, descriptorIndex := 382, attributes := #[] }] 48 4 #[] #[{ accessFlags := 4120, nameIndex := 121, descriptorIndex := 122, attributes := #[] }])
  fields := #[{ name := "$assertionsDisabled", type := .boolean, accessFlags := 4120, slot := 0, constantValue := 0 }]
  methods := #[k12m0, k12m1, k12m2]
  instanceTypes := #[]
  staticTypes := #[.boolean]
  resolved := Array.replicate 395 none
  statics := none }

def pool13 : Array CpInfo := pool [(2, .class_ 4), (1, u "java/lang/Object"), (0, u "<init>"), (0, u "()V"), (17, .class_ 26), (1, u "jdk/internal/util/Preconditions"), (28, .class_ 56), (0, u "jdk/internal/util/Preconditions$4"), (57, .class_ 115), (0, u "jdk/internal/util/Preconditions$1"), (7, u "SIOOBE_FORMATTER"), (0, u "Ljava/util/function/BiFunction;"), (0, .class_ 126), (0, u "jdk/internal/util/Preconditions$2"), (3, u "AIOOBE_FORMATTER"), (0, .class_ 132), (0, u "jdk/internal/util/Preconditions$3"), (3, u "IOOBE_FORMATTER")] 57

def k13m0 : Method := { name := "<init>", desc := "()V", sig := { parameters := [], returnType := none }, accessFlags := 1, code := none }
/-- jdk/internal/util/Preconditions -/
def k13 : Class := { plain "jdk/internal/util/Preconditions" (some 0) with
  accessFlags := 33
  interfaces := #[]
  cf := some (fileOf pool13 24 #[.nestMembers #[55, 131, 125, 114]] #[{ accessFlags := 1, nameIndex := 5, descriptorIndex := 6, attributes := #[] }] 33 2 #[] #[{ accessFlags := 25, nameIndex := 123, descriptorIndex := 124, attributes := #[] }, { accessFlags := 25, nameIndex := 130, descriptorIndex := 124, attributes := #[] }, { accessFlags := 25, nameIndex := 136, descriptorIndex := 124, attributes := #[] }])
  fields := #[{ name := "SIOOBE_FORMATTER", type := (.object "java/util/function/BiFunction"), accessFlags := 25, slot := 0, constantValue := 0 }, { name := "AIOOBE_FORMATTER", type := (.object "java/util/function/BiFunction"), accessFlags := 25, slot := 1, constantValue := 0 }, { name := "IOOBE_FORMATTER", type := (.object "java/util/function/BiFunction"), accessFlags := 25, slot := 2, constantValue := 0 }]
  methods := #[k13m0]
  instanceTypes := #[]
  staticTypes := #[(.object "java/util/function/BiFunction"), (.object "java/util/function/BiFunction"), (.object "java/util/function/BiFunction")]
  resolved := Array.replicate 194 none
  statics := some 2 }

def pool14 : Array CpInfo := pool [(9, u "<init>"), (6, .class_ 18), (1, u "java/lang/Object"), (0, u "()V"), (1, .class_ 23), (1, u "jdk/internal/util/ArraysSupport"), (0, u "LOG2_ARRAY_LONG_INDEX_SCALE"), (0, u "I"), (2, u "U"), (0, u "Ljdk/internal/misc/Unsafe;"), (8, u "BIG_ENDIAN"), (0, u "Z"), (8, u "LOG2_BYTE_BIT_SIZE"), (4, u "LOG2_ARRAY_INT_INDEX_SCALE"), (54, u "JLA"), (0, u "Ljdk/internal/access/JavaLangAccess;"), (11, u "LOG2_ARRAY_BOOLEAN_INDEX_SCALE"), (9, u "LOG2_ARRAY_BYTE_INDEX_SCALE"), (5, u "LOG2_ARRAY_CHAR_INDEX_SCALE"), (5, u "LOG2_ARRAY_SHORT_INDEX_SCALE"), (18, u "LOG2_ARRAY_FLOAT_INDEX_SCALE"), (24, u "LOG2_ARRAY_DOUBLE_INDEX_SCALE"), (89, u "T_BOOLEAN"), (2, u "T_CHAR"), (1, u "T_FLOAT"), (1, u "T_DOUBLE"), (1, u "T_BYTE"), (1, u "T_SHORT"), (1, u "T_INT"), (1, u "T_LONG"), (1, u "SOFT_MAX_ARRAY_LENGTH")] 83

def k14m0 : Method := { name := "<init>", desc := "()V", sig := { parameters := [], returnType := none }, accessFlags := 2, code := none }
/-- jdk/internal/util/ArraysSupport -/
def k14 : Class := { plain "jdk/internal/util/ArraysSupport" (some 0) with
  accessFlags := 33
  interfaces := #[]
  cf := some (fileOf pool14 21 #[] #[{ accessFlags := 2, nameIndex := 9, descriptorIndex := 19, attributes := #[] }] 33 16 #[] #[{ accessFlags := 24, nameIndex := 28, descriptorIndex := 29, attributes := #[] }, { accessFlags := 26, nameIndex := 38, descriptorIndex := 39, attributes := #[] }, { accessFlags := 25, nameIndex := 121, descriptorIndex := 25, attributes := #[] }, { accessFlags := 25, nameIndex := 131, descriptorIndex := 25, attributes := #[] }, { accessFlags := 25, nameIndex := 137, descriptorIndex := 25, attributes := #[] }, { accessFlags := 25, nameIndex := 143, descriptorIndex := 25, attributes := #[] }, { accessFlags := 25, nameIndex := 53, descriptorIndex := 25, attributes := #[] }, { accessFlags := 25, nameIndex := 24, descriptorIndex := 25, attributes := #[] }, { accessFlags := 25, nameIndex := 162, descriptorIndex := 25, attributes := #[] }, { accessFlags := 25, nameIndex := 187, descriptorIndex := 25, attributes := #[] }, { accessFlags := 26, nameIndex := 48, descriptorIndex := 25, attributes := #[] }, { accessFlags := 25, nameIndex := 277, descriptorIndex := 25, attributes := #[] }, { accessFlags := 25, nameIndex := 280, descriptorIndex := 25, attributes := #[] }, { accessFlags := 25, nameIndex := 282, descriptorIndex := 25, attributes := #[] }, { accessFlags := 25, nameIndex := 284, descriptorIndex := 25, attributes := #[] }, { accessFlags := 25, nameIndex := 286, descriptorIndex := 25, attributes := #[] }, { accessFlags := 25, nameIndex := 288, descriptorIndex := 25, attributes := #[] }, { accessFlags := 25, nameIndex := 290, descriptorIndex := 25, attributes := #[] }, { accessFlags := 25, nameIndex := 292, descriptorIndex := 25, attributes := #[] }, { accessFlags := 26, nameIndex := 108, descriptorIndex := 109, attributes := #[] }, { accessFlags := 25, nameIndex := 294, descriptorIndex := 25, attributes := #[] }])
  fields := #[{ name := "U", type := (.object "jdk/internal/misc/Unsafe"), accessFlags := 24, slot := 0, constantValue := 0 }, { name := "BIG_ENDIAN", type := .boolean, accessFlags := 26, slot := 1, constantValue := 0 }, { name := "LOG2_ARRAY_BOOLEAN_INDEX_SCALE", type := .int, accessFlags := 25, slot := 2, constantValue := 0 }, { name := "LOG2_ARRAY_BYTE_INDEX_SCALE", type := .int, accessFlags := 25, slot := 3, constantValue := 0 }, { name := "LOG2_ARRAY_CHAR_INDEX_SCALE", type := .int, accessFlags := 25, slot := 4, constantValue := 0 }, { name := "LOG2_ARRAY_SHORT_INDEX_SCALE", type := .int, accessFlags := 25, slot := 5, constantValue := 0 }, { name := "LOG2_ARRAY_INT_INDEX_SCALE", type := .int, accessFlags := 25, slot := 6, constantValue := 0 }, { name := "LOG2_ARRAY_LONG_INDEX_SCALE", type := .int, accessFlags := 25, slot := 7, constantValue := 0 }, { name := "LOG2_ARRAY_FLOAT_INDEX_SCALE", type := .int, accessFlags := 25, slot := 8, constantValue := 0 }, { name := "LOG2_ARRAY_DOUBLE_INDEX_SCALE", type := .int, accessFlags := 25, slot := 9, constantValue := 0 }, { name := "LOG2_BYTE_BIT_SIZE", type := .int, accessFlags := 26, slot := 10, constantValue := 0 }, { name := "T_BOOLEAN", type := .int, accessFlags := 25, slot := 11, constantValue := 0 }, { name := "T_CHAR", type := .int, accessFlags := 25, slot := 12, constantValue := 0 }, { name := "T_FLOAT", type := .int, accessFlags := 25, slot := 13, constantValue := 0 }, { name := "T_DOUBLE", type := .int, accessFlags := 25, slot := 14, constantValue := 0 }, { name := "T_BYTE", type := .int, accessFlags := 25, slot := 15, constantValue := 0 }, { name := "T_SHORT", type := .int, accessFlags := 25, slot := 16, constantValue := 0 }, { name := "T_INT", type := .int, accessFlags := 25, slot := 17, constantValue := 0 }, { name := "T_LONG", type := .int, accessFlags := 25, slot := 18, constantValue := 0 }, { name := "JLA", type := (.object "jdk/internal/access/JavaLangAccess"), accessFlags := 26, slot := 19, constantValue := 0 }, { name := "SOFT_MAX_ARRAY_LENGTH", type := .int, accessFlags := 25, slot := 20, constantValue := 0 }]
  methods := #[k14m0]
  instanceTypes := #[]
  staticTypes := #[(.object "jdk/internal/misc/Unsafe"), .boolean, .int, .int, .int, .int, .int, .int, .int, .int, .int, .int, .int, .int, .int, .int, .int, .int, .int, (.object "jdk/internal/access/JavaLangAccess"), .int]
  resolved := Array.replicate 378 none
  statics := none }

def pool15 : Array CpInfo := pool [(1, u "java/lang/Cloneable"), (0, .class_ 1), (0, u "java/lang/Object"), (0, .class_ 3)] 3

/-- java/lang/Cloneable -/
def k15 : Class := { plain "java/lang/Cloneable" (some 0) with
  accessFlags := 1537
  interfaces := #[]
  cf := some (fileOf pool15 2 #[] #[] 1537 4 #[] #[])
  fields := #[]
  methods := #[]
  instanceTypes := #[]
  staticTypes := #[]
  resolved := Array.replicate 8 none
  statics := none }

/-- the primitive byte -/
def k16 : Class := { plain "byte" none with kind := .primitive 'B', accessFlags := 0x411 }
/-- [B -/
def k17 : Class := { plain "[B" (some 0) with kind := .array 16 .byte, interfaces := #[15, 5], accessFlags := 1041 }

/-- the primitive int -/
def k18 : Class := { plain "int" none with kind := .primitive 'I', accessFlags := 0x411 }
/-- [I -/
def k19 : Class := { plain "[I" (some 0) with kind := .array 18 .int, interfaces := #[15, 5], accessFlags := 1041 }

def heap : Heap := #[{ cls := 7, slots := #[.ref 3, .ref 4, .ref 5, .null], vm := .statics 7 },
  { cls := 10, slots := #[.long 0, .int 1, .null, .int 0, .null, .int 0, .int 0], vm := .statics 10 },
  { cls := 13, slots := #[.null, .null, .null], vm := .statics 13 },
  { cls := 7, slots := #[.null, .int 0, .int 0], vm := .none },
  { cls := 7, slots := #[.null, .int 1, .int 0], vm := .none },
  { cls := 7, slots := #[.null, .int 2, .int 0], vm := .none }]
def classes : Array Class := #[k0, k1, k2, k3, k4, k5, k6, k7, k8, k9, k10, k11, k12, k13, k14, k15, k16, k17, k18, k19]
def interned : List (Array UInt16 × Addr) := []
def slotsUsed : Nat := 23
def theMethod : MethodId := ⟨1, 2⟩
def args0 : Array Value := #[.int 0, .int 1, .int 2]
def aboutOver (below : List Frame) : State where
  vm := { classes := classes, interned := interned.toArray }
  heap := heap
  slotsUsed := slotsUsed
  threads := #[{ frames := .invoking theMethod args0 :: below }]
def below0 : List Frame := [.native { method := ⟨0, 0⟩, args := #[] }]
def about1 : State := aboutOver below0
def p0 : Program := .bare "" "" ""
def e0 : Env := launch0.env 0 0 0
theorem w_frames : about1.frames = Frame.invoking theMethod args0 :: below0 := rfl
set_option maxRecDepth 65536 in
theorem w_args : argsFit about1.vm theMethod args0 = true := by decide +kernel
set_option maxRecDepth 65536 in
theorem w_heap : heapFits about1 = true := by decide +kernel
set_option maxRecDepth 65536 in
theorem w_runnable : about1.curStatus? = some .runnable := by decide +kernel
set_option maxRecDepth 65536 in
theorem w_alone : about1.alone = true := by decide +kernel
set_option maxRecDepth 65536 in
theorem w_named : about1.methodNamed? x = some theMethod := by decide +kernel
set_option maxRecDepth 65536 in
theorem w_hears : about1.hears theMethod below0 = true := by decide +kernel
set_option maxRecDepth 65536 in
theorem w_ripe : about1.ripe theMethod args0 below0 = true := by decide +kernel
theorem w_running : about1.status = .running := rfl
set_option maxRecDepth 65536 in
theorem w_room : about1.hasRoom e0.platform room_1 = true :=
  launch0.hasRoom_least _ room_1 (by decide +kernel) (by decide +kernel) (by decide +kernel) (by decide +kernel) (by decide +kernel) (by decide +kernel)
theorem allAtoms_all (ts : List Jvm.Cond) (a : Array Jvm.Value) (st : Jvm.State) : (allAtoms ts).before a st = ts.all (fun c => c.before a st) := by
  induction ts with
  | nil => rfl
  | cons c t ih =>
    show (Jvm.Cond.and c (allAtoms t)).before a st = _
    rw [Jvm.Cond.before_and, ih, List.all_cons]
def words1 : List Jvm.Cond := Jvm.Cond.code x code maxLocals ret :: tables_1
/-- a 'code' word, met by the world's own term for the bytes: nothing is compared byte by byte -/
theorem code_word {y : MethodName} {bytes : ByteArray} {mx : Nat} {rt : Option FieldType} {a : Array Value} {s : State} {m : MethodId} {meth : Method} {c : Code} (h1 : s.methodNamed? y = some m) (h2 : s.vm.method? m = some meth) (h3 : meth.code = some c) (h4 : c.code = bytes)
    (h5 : (c.maxLocals == mx && c.exceptionTable.isEmpty && decide (c.maxStack ≤ mostOperands) && decide (meth.sig.returnType = rt) && !meth.locks && decide (parseMethodDescriptor y.desc = some meth.sig)) = true) : (Jvm.Cond.code y bytes mx rt).before a s = true := by
  simp only [Bool.and_eq_true, beq_iff_eq, Bool.not_eq_true', decide_eq_true_eq] at h5
  obtain ⟨⟨⟨⟨⟨g1, g2⟩, g3⟩, g4⟩, g5⟩, g6⟩ := h5
  simp [Cond.before, Cond.holds, Cond.value, h1, h2, h3, h4, g1, g2, g3, g4, g5, g6]
def isCode : Jvm.Cond → Bool
  | .code _ _ _ _ => true
  | _ => false
theorem all_split {L : List Jvm.Cond} {P : Jvm.Cond → Bool} (h1 : L.all (fun c => isCode c || P c) = true) (h2 : ∀ c ∈ L.filter isCode, P c = true) : L.all P = true := by
  refine List.all_eq_true.mpr fun c hc => ?_
  have h := List.all_eq_true.mp h1 c hc
  rcases Bool.eq_false_or_eq_true (isCode c) with hi | hi
  · exact h2 c (List.mem_filter.mpr ⟨hc, hi⟩)
  · simpa [hi] using h
set_option maxRecDepth 65536 in
theorem w_c0 : (Jvm.Cond.code x code maxLocals ret).before args0 about1 = true := code_word (m := ⟨1, 2⟩) (meth := k1m2) (c := k1c2) (by decide +kernel) rfl rfl rfl (by decide +kernel)
set_option maxRecDepth 65536 in
theorem w_c1 : (Jvm.Cond.code ({ cls := "com/example/castellan/castellan/command/CommandReport", name := "<init>", desc := "()V" } : Jvm.MethodName) prog_13_method_1_code (1 : Nat) (Option.none : Option Jvm.ClassFile.FieldType)).before args0 about1 = true := code_word (m := ⟨2, 0⟩) (meth := k2m0) (c := k2c0) (by decide +kernel) rfl rfl rfl (by decide +kernel)
set_option maxRecDepth 65536 in
theorem w_c2 : (Jvm.Cond.code ({ cls := "java/lang/Object", name := "<init>", desc := "()V" } : Jvm.MethodName) object_method_1_code (1 : Nat) (Option.none : Option Jvm.ClassFile.FieldType)).before args0 about1 = true := code_word (m := ⟨0, 0⟩) (meth := k0m0) (c := k0c0) (by decide +kernel) rfl rfl rfl (by decide +kernel)
set_option maxRecDepth 65536 in
theorem w_c3 : (Jvm.Cond.code ({ cls := "com/example/castellan/castellan/command/CommandReport", name := "setMessage", desc := "(Ljava/lang/String;)V" } : Jvm.MethodName) prog_13_method_5_code (2 : Nat) (Option.none : Option Jvm.ClassFile.FieldType)).before args0 about1 = true := code_word (m := ⟨2, 4⟩) (meth := k2m4) (c := k2c4) (by decide +kernel) rfl rfl rfl (by decide +kernel)
set_option maxRecDepth 65536 in
theorem w_c4 : (Jvm.Cond.code ({ cls := "com/example/castellan/castellan/command/CommandReportSetExitCodePinLaw", name := "pick", desc := "(I)Lcom/example/castellan/castellan/command/CommandReport$ExitCode;" } : Jvm.MethodName) method_2_code (2 : Nat) (Option.some (Jvm.ClassFile.FieldType.object "com/example/castellan/castellan/command/CommandReport$ExitCode"))).before args0 about1 = true := code_word (m := ⟨1, 1⟩) (meth := k1m1) (c := k1c1) (by decide +kernel) rfl rfl rfl (by decide +kernel)
set_option maxRecDepth 65536 in
theorem w_c5 : (Jvm.Cond.code ({ cls := "com/example/castellan/castellan/command/CommandReport", name := "setExitCode", desc := "(Lcom/example/castellan/castellan/command/CommandReport$ExitCode;)V" } : Jvm.MethodName) prog_13_method_3_code (2 : Nat) (Option.none : Option Jvm.ClassFile.FieldType)).before args0 about1 = true := code_word (m := ⟨2, 2⟩) (meth := k2m2) (c := k2c2) (by decide +kernel) rfl rfl rfl (by decide +kernel)
set_option maxRecDepth 65536 in
theorem w_c6 : (Jvm.Cond.code ({ cls := "java/util/Objects", name := "requireNonNull", desc := "(Ljava/lang/Object;Ljava/lang/String;)Ljava/lang/Object;" } : Jvm.MethodName) jdk_31_method_11_code (2 : Nat) (Option.some (Jvm.ClassFile.FieldType.object "java/lang/Object"))).before args0 about1 = true := code_word (m := ⟨11, 1⟩) (meth := k11m1) (c := k11c1) (by decide +kernel) rfl rfl rfl (by decide +kernel)
set_option maxRecDepth 65536 in
theorem w_c7 : (Jvm.Cond.code ({ cls := "com/example/castellan/castellan/command/CommandReport", name := "getExitCode", desc := "()Lcom/example/castellan/castellan/command/CommandReport$ExitCode;" } : Jvm.MethodName) prog_13_method_2_code (1 : Nat) (Option.some (Jvm.ClassFile.FieldType.object "com/example/castellan/castellan/command/CommandReport$ExitCode"))).before args0 about1 = true := code_word (m := ⟨2, 1⟩) (meth := k2m1) (c := k2c1) (by decide +kernel) rfl rfl rfl (by decide +kernel)
set_option maxRecDepth 65536 in
theorem w_c8 : (Jvm.Cond.code ({ cls := "com/example/castellan/castellan/command/CommandReport", name := "getMessage", desc := "()Ljava/lang/String;" } : Jvm.MethodName) prog_13_method_4_code (1 : Nat) (Option.some (Jvm.ClassFile.FieldType.object "java/lang/String"))).before args0 about1 = true := code_word (m := ⟨2, 3⟩) (meth := k2m3) (c := k2c3) (by decide +kernel) rfl rfl rfl (by decide +kernel)
set_option maxRecDepth 65536 in
theorem w_c9 : (Jvm.Cond.code ({ cls := "java/lang/String", name := "valueOf", desc := "(C)Ljava/lang/String;" } : Jvm.MethodName) jdk_42_method_139_code (1 : Nat) (Option.some (Jvm.ClassFile.FieldType.object "java/lang/String"))).before args0 about1 = true := code_word (m := ⟨10, 1⟩) (meth := k10m1) (c := k10c1) (by decide +kernel) rfl rfl rfl (by decide +kernel)
set_option maxRecDepth 65536 in
theorem w_c10 : (Jvm.Cond.code ({ cls := "java/lang/StringLatin1", name := "canEncode", desc := "(C)Z" } : Jvm.MethodName) jdk_43_method_3_code (1 : Nat) (Option.some Jvm.ClassFile.FieldType.boolean)).before args0 about1 = true := code_word (m := ⟨12, 1⟩) (meth := k12m1) (c := k12c1) (by decide +kernel) rfl rfl rfl (by decide +kernel)
set_option maxRecDepth 65536 in
theorem w_c11 : (Jvm.Cond.code ({ cls := "java/lang/StringLatin1", name := "toBytes", desc := "(C)[B" } : Jvm.MethodName) jdk_43_method_46_code (1 : Nat) (Option.some (Jvm.ClassFile.FieldType.array Jvm.ClassFile.FieldType.byte))).before args0 about1 = true := code_word (m := ⟨12, 2⟩) (meth := k12m2) (c := k12c2) (by decide +kernel) rfl rfl rfl (by decide +kernel)
set_option maxRecDepth 65536 in
theorem w_c12 : (Jvm.Cond.code ({ cls := "java/lang/String", name := "<init>", desc := "([BB)V" } : Jvm.MethodName) jdk_42_method_151_code (3 : Nat) (Option.none : Option Jvm.ClassFile.FieldType)).before args0 about1 = true := code_word (m := ⟨10, 2⟩) (meth := k10m2) (c := k10c2) (by decide +kernel) rfl rfl rfl (by decide +kernel)
def codes1 : List Jvm.Cond := [Jvm.Cond.code x code maxLocals ret, Jvm.Cond.code ({ cls := "com/example/castellan/castellan/command/CommandReport", name := "<init>", desc := "()V" } : Jvm.MethodName) prog_13_method_1_code (1 : Nat) (Option.none : Option Jvm.ClassFile.FieldType), Jvm.Cond.code ({ cls := "java/lang/Object", name := "<init>", desc := "()V" } : Jvm.MethodName) object_method_1_code (1 : Nat) (Option.none : Option Jvm.ClassFile.FieldType), Jvm.Cond.code ({ cls := "com/example/castellan/castellan/command/CommandReport", name := "setMessage", desc := "(Ljava/lang/String;)V" } : Jvm.MethodName) prog_13_method_5_code (2 : Nat) (Option.none : Option Jvm.ClassFile.FieldType), Jvm.Cond.code ({ cls := "com/example/castellan/castellan/command/CommandReportSetExitCodePinLaw", name := "pick", desc := "(I)Lcom/example/castellan/castellan/command/CommandReport$ExitCode;" } : Jvm.MethodName) method_2_code (2 : Nat) (Option.some (Jvm.ClassFile.FieldType.object "com/example/castellan/castellan/command/CommandReport$ExitCode")), Jvm.Cond.code ({ cls := "com/example/castellan/castellan/command/CommandReport", name := "setExitCode", desc := "(Lcom/example/castellan/castellan/command/CommandReport$ExitCode;)V" } : Jvm.MethodName) prog_13_method_3_code (2 : Nat) (Option.none : Option Jvm.ClassFile.FieldType), Jvm.Cond.code ({ cls := "java/util/Objects", name := "requireNonNull", desc := "(Ljava/lang/Object;Ljava/lang/String;)Ljava/lang/Object;" } : Jvm.MethodName) jdk_31_method_11_code (2 : Nat) (Option.some (Jvm.ClassFile.FieldType.object "java/lang/Object")), Jvm.Cond.code ({ cls := "com/example/castellan/castellan/command/CommandReport", name := "getExitCode", desc := "()Lcom/example/castellan/castellan/command/CommandReport$ExitCode;" } : Jvm.MethodName) prog_13_method_2_code (1 : Nat) (Option.some (Jvm.ClassFile.FieldType.object "com/example/castellan/castellan/command/CommandReport$ExitCode")), Jvm.Cond.code ({ cls := "com/example/castellan/castellan/command/CommandReport", name := "getMessage", desc := "()Ljava/lang/String;" } : Jvm.MethodName) prog_13_method_4_code (1 : Nat) (Option.some (Jvm.ClassFile.FieldType.object "java/lang/String")), Jvm.Cond.code ({ cls := "java/lang/String", name := "valueOf", desc := "(C)Ljava/lang/String;" } : Jvm.MethodName) jdk_42_method_139_code (1 : Nat) (Option.some (Jvm.ClassFile.FieldType.object "java/lang/String")), Jvm.Cond.code ({ cls := "java/lang/StringLatin1", name := "canEncode", desc := "(C)Z" } : Jvm.MethodName) jdk_43_method_3_code (1 : Nat) (Option.some Jvm.ClassFile.FieldType.boolean), Jvm.Cond.code ({ cls := "java/lang/StringLatin1", name := "toBytes", desc := "(C)[B" } : Jvm.MethodName) jdk_43_method_46_code (1 : Nat) (Option.some (Jvm.ClassFile.FieldType.array Jvm.ClassFile.FieldType.byte)), Jvm.Cond.code ({ cls := "java/lang/String", name := "<init>", desc := "([BB)V" } : Jvm.MethodName) jdk_42_method_151_code (3 : Nat) (Option.none : Option Jvm.ClassFile.FieldType)]
set_option maxRecDepth 65536 in
theorem codes_eq : words1.filter isCode = codes1 := rfl
theorem w_codes : ∀ c ∈ words1.filter isCode, c.before args0 about1 = true := by
  rw [codes_eq]
  intro c hc
  simp only [codes1, List.mem_cons, List.not_mem_nil, or_false] at hc
  rcases hc with rfl | rfl | rfl | rfl | rfl | rfl | rfl | rfl | rfl | rfl | rfl | rfl | rfl
  · exact w_c0
  · exact w_c1
  · exact w_c2
  · exact w_c3
  · exact w_c4
  · exact w_c5
  · exact w_c6
  · exact w_c7
  · exact w_c8
  · exact w_c9
  · exact w_c10
  · exact w_c11
  · exact w_c12
set_option maxRecDepth 65536 in
theorem w_t1 : (words1.take 24).all (fun c => isCode c || c.before args0 about1) = true := by decide +kernel
set_option maxRecDepth 65536 in
theorem w_t2 : ((words1.drop 24).take 24).all (fun c => isCode c || c.before args0 about1) = true := by decide +kernel
set_option maxRecDepth 65536 in
theorem w_t3 : (((words1.drop 24).drop 24).take 24).all (fun c => isCode c || c.before args0 about1) = true := by decide +kernel
set_option maxRecDepth 65536 in
theorem w_t4 : (((words1.drop 24).drop 24).drop 24).all (fun c => isCode c || c.before args0 about1) = true := by decide +kernel
theorem w_tables : (allAtoms (Jvm.Cond.code x code maxLocals ret :: tables_1)).before args0 about1 = true := by
  rw [allAtoms_all]
  show words1.all (fun c => c.before args0 about1) = true
  refine all_split ?_ w_codes
  rw [← List.take_append_drop 24 words1, List.all_append, w_t1, ← List.take_append_drop 24 (words1.drop 24), List.all_append, w_t2, ← List.take_append_drop 24 ((words1.drop 24).drop 24), List.all_append, w_t3, w_t4]
  rfl
set_option maxRecDepth 65536 in
theorem w_rest : rest_1_c.before args0 about1 = true := by decide +kernel
set_option maxRecDepth 65536 in
theorem w_case : (Jvm.Cond.and given_1 narrow_1).before args0 about1 = true := by decide +kernel
theorem w_applies : (headSpec (Jvm.Cond.code x code maxLocals ret :: tables_1) room_1).applies x e0.platform about1 = true :=
  (Spec.applies_iff w_frames).mpr ⟨w_running, w_runnable, w_alone, w_named, w_hears, w_ripe, w_room, w_tables⟩
theorem atStart : AtStart classFile x code maxLocals ret World_1 tables_1 room_1 Calls_1 rest_1 Pre_1 launch0 p0 e0 about1 theMethod args0 below0 :=
  ⟨lists_1, trivial, launch0.admits_env _ _ _, launch0.least_env, fairChoices_fair.cas, fairChoices_fair.clock, w_frames, w_args, w_heap, w_applies, trivial, w_rest, w_case⟩
end start1
theorem witness_1 : WitnessClaimed_1 := ⟨start1.p0, start1.e0, start1.about1, start1.theMethod, start1.args0, start1.below0, start1.atStart⟩
end Jvm.Pilot.@@N@@
