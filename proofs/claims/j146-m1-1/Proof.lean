import JvmDerived
import JvmDerived.Pilot.@@N@@Statement
import JvmDerived.Pilot.@@N@@Code
set_option linter.unusedVariables false
set_option linter.unusedSimpArgs false
namespace Jvm.RoadKit
open Sem ClassFile Op Lib Jvm.Stand Jvm.Free Jvm.LawKit
section New
variable {p : Program} {l : Launch} {e : Env} {R : Room} {s : State} {m : MethodId} {args : Array Value} {below : List Frame} {meth : Method} {c : Code} {T : State} {locs : List Loc} {cells slots : Nat}
theorem retI (X : Stand p l e R s m args below meth c T locs cells slots) (hx : p.tables.exec = Jvm.exec) {pc : Nat} {Ls : Array Slot} {z : Int32} {rest : List Value} (hret : meth.sig.returnType = some .int) (hd : decode c.code pc = .ok (.ireturn, 1)) {fs : List Frame}
    (hl : ∀ (f : JFrame) (acts : List Action), f.method = m → f.locked = none → f.entered = [] → (doReturn e (T.setTop f) acts (some (.int z))).1 = T.setFrames fs) : Steps p.tables e below (T.setTop (mkF m pc Ls (.int z :: rest))) (T.setFrames fs) := by
  have hm' : T.vm.method? m = some meth := X.method'
  have hn : narrow .int (.int z) = .int z := rfl
  show Steps p.tables e below (T.setTop { method := m, pc := pc, locals := Ls, stack := _ :: rest, locked := none }) _
  jvm_step X.here [X.here.top, hx, hd, hm', hret, hn]
  first | (intro acts; rw [hl _ acts rfl rfl rfl]) | rw [hl _ _ rfl rfl rfl]
  exact Steps.refl _
end New
end Jvm.RoadKit
namespace Jvm.Pilot.@@N@@
open Jvm Jvm.ClassFile Sem Op Lib Jvm.Free Jvm.Stand Jvm.LawKit Jvm.RoadKit Bundle Jvm.Pilot.@@N@@.Jvm.D
theorem own_ne {args : Array Value} {s : State} {t1 t2 : Term} {C n d : String} {x1 x2 : Addr} {i j : Int32} (e1 : t1.eval args s none [] s = some (.ref x1)) (e2 : t2.eval args s none [] s = some (.ref x2))
    (h1 : (Cond.eq (Term.field t1 C n d) (Term.int i)).value args s none s [] = some true) (h2 : (Cond.eq (Term.field t2 C n d) (Term.int j)).value args s none s [] = some true) (hij : i ≠ j) : ¬ (x1 = x2) := by
  intro q
  subst q
  have a := eqv_i (Term.int_eval i) h1
  have b := eqv_i (Term.int_eval j) h2
  rw [fld_at e1] at a
  rw [fld_at e2] at b
  exact hij (Value.int.inj (Option.some.inj (a.symm.trans b)))
theorem own_fint {args : Array Value} {s : State} {t : Term} {C n d : String} {x : Addr} {i : Int32} (e : t.eval args s none [] s = some (.ref x)) (h : (Cond.eq (Term.field t C n d) (Term.int i)).value args s none s [] = some true) : Fld s s.heap x C n d (.int i) := by
  have a := eqv_i (Term.int_eval i) h
  rw [fld_at e] at a
  exact Fld.start a
theorem own_fnull {args : Array Value} {s : State} {t : Term} {C n d : String} {x : Addr} (e : t.eval args s none [] s = some (.ref x)) (h : (Cond.eq (Term.field t C n d) Term.null).value args s none s [] = some true) : Fld s s.heap x C n d .null := by
  have a := null_v h
  rw [fld_at e] at a
  exact Fld.start a
theorem own_fref {args : Array Value} {s : State} {t F : Term} {C n d : String} {x y : Addr} (e : t.eval args s none [] s = some (.ref x)) (hF : F.eval args s none [] s = some (.ref y)) (h : (Cond.eq (Term.field t C n d) F).value args s none s [] = some true) : Fld s s.heap x C n d (.ref y) := by
  have a : (Term.field t C n d).eval args s none [] s = some (.ref y) := by
    simp only [Cond.value, hF] at h
    cases hX : (Term.field t C n d).eval args s none [] s with
    | none => simp [hX] at h
    | some w => cases w <;> simp [hX] at h ⊢ <;> exact h
  rw [fld_at e] at a
  exact Fld.start a
theorem d1_0 : decode prog_10_method_6_code 0 = .ok (.aload_n 0, 1) := by decide +kernel
theorem d1_1 : decode prog_10_method_6_code 1 = .ok (.getfield 42, 3) := by decide +kernel
theorem wd_9 {Z : State} {a0 : Array Value} (hw : ∀ d ∈ tables_1, d.before a0 Z = true) : ((Jvm.Cond.fieldLink "com/example/deferra/deferra/book/Posting$Kind" (42 : Nat) "com/example/deferra/deferra/book/Posting$Kind" "event" "Lcom/example/deferra/deferra/payment/Event;")).before a0 Z = true := hw _ (List.mem_of_getElem? (i := 9) rfl)
theorem d1_4 : decode prog_10_method_6_code 4 = .ok (.ifnonnull 7, 3) := by decide +kernel
theorem d1_11 : decode prog_10_method_6_code 11 = .ok (.iconst 0, 1) := by decide +kernel
theorem d1_12 : decode prog_10_method_6_code 12 = .ok (.ireturn, 1) := by decide +kernel
theorem pn_com_example_deferra_deferra_book_Posting_Kind : plainName "com/example/deferra/deferra/book/Posting$Kind" = true := by first | (simp [plainName, overriddenIn]; done) | decide +kernel
theorem ef_1_nn (m : MethodId) (x0 : Addr) : entryFrame m #[(.ref x0)] 1 = mkF m 0 #[.val (.ref x0)] [] := by first | (simp [entryFrame, mkF, argsToLocals, Value.category]; done) | rfl
def Q1_nn (Z : State) (vr0 : Addr) (w_event_vr0 : Addr) (h0 : Heap) (n0 : Nat) (v : Option Value) (h : Heap) (L : List Loc) : Prop := v = some (.int (0 : Int32)) ∧ Fr n0 L ∧ h = h0
set_option maxRecDepth 65536 in
set_option maxHeartbeats 40000000 in
theorem rm1_nn (l : Launch) (Z : State) (a0 : Array Value) (hw : ∀ d ∈ tables_1, d.before a0 Z = true) (ws : List Jvm.Cond) (vr0 : Addr) (w_event_vr0 : Addr) (h0 : Heap) (n0 : Nat) (Z0 : n0 ≤ h0.size) (F_event_vr0 : Fld Z h0 vr0 "com/example/deferra/deferra/book/Posting$Kind" "event" "Lcom/example/deferra/deferra/payment/Event;" (.ref w_event_vr0)) :
    MetFree l (⟨"com/example/deferra/deferra/book/Posting$Kind", "carriesAmount", "()Z"⟩ : MethodName) (head1 (Jvm.Cond.code (⟨"com/example/deferra/deferra/book/Posting$Kind", "carriesAmount", "()Z"⟩ : MethodName) prog_10_method_6_code 1 (some .boolean) :: ws) ({ frames := 0, cells := 0, slots := 0, locals := 0 } : Room)) (fun a U => a = #[(.ref vr0)] ∧ Z.Warmed39 U.vm ∧ U.heap = h0) (fun _ _ _ _ _ => True) (fun _ U o U' => ∃ v L, o = .returned v ∧ Q1_nn Z vr0 w_event_vr0 h0 n0 v U'.heap L ∧ FrameEnd U o U' L ({ frames := 0, cells := 0, slots := 0, locals := 0 } : Room).cells ({ frames := 0, cells := 0, slots := 0, locals := 0 } : Room).slots) := by
  refine MetFree.of_bodySF (plainFor_of_name pn_com_example_deferra_deferra_book_Posting_Kind) hisR ?_
  intro p e s m args below meth c s₁ Bd hml0 hP hK
  obtain ⟨rfl, hZ, hh⟩ := hP
  have hx := Bd.exec
  have hby := Bd.bytes
  have hml : c.maxLocals = 1 := hml0
  have hown : s.vm.findClass "com/example/deferra/deferra/book/Posting$Kind" = some m.cls := findClass_of_methodNamed Bd.named
  have hnm := (name_of_methodNamed Bd.named Bd.method).1
  have X0 : Stand p l e ({ frames := 0, cells := 0, slots := 0, locals := 0 } : Room) s m #[(.ref vr0)] below meth c s₁ [] 0 0 := Stand.of_body Bd
  have e0 : s₁.heap = h0 := by rw [← hh, Bd.state]; rfl
  have N0 := Fr.nil n0
  have pre0 : ∀ t, Steps p.tables e below (s₁.setTop (mkF m 0 #[.val (.ref vr0)] [])) t → Steps p.tables e below (s₁.setTop (entryFrame m #[(.ref vr0)] 1)) t := fun t k => castTop (ef_1_nn m vr0) k
  obtain ⟨T1, X1, e1, st1⟩ := getF X0 hx hZ hown (host := "") (Or.inl (wd_9 hw)) Via.refl e0 F_event_vr0 (g := (mkF m 1 #[.val (.ref vr0)] [(.ref vr0)])) rfl rfl (hb hby d1_1)
  obtain ⟨fs, hr, hrun, hended, hW, hsame⟩ := X1.leave (v := some (.int (0 : Int32))) (fun h => by rw [Bd.returns] at h; cases h)
  refine ⟨_, _, pre0 _ ?_, hrun, hended, _, _, rfl, ?_, ⟨_, rfl⟩, hW, hsame.mono (by decide) (by decide)⟩
  · show Steps p.tables e below (s₁.setTop (mkF m 0 #[.val (.ref vr0)] [])) _
    refine XS.aloadN X0.here hx rfl (hb hby d1_0) rfl rfl ?_
    show Steps p.tables e below (s₁.setTop (mkF m 1 #[.val (.ref vr0)] [(.ref vr0)])) _
    refine st1 _ ?_
    show Steps p.tables e below (T1.setTop (mkF m 4 #[.val (.ref vr0)] [(.ref w_event_vr0)])) _
    refine XS.ifnonnullYes X1.here hx rfl (pc0 := 4) (pc' := 11) rfl (hb hby d1_4) rfl (by decide) (by decide) ?_
    show Steps p.tables e below (T1.setTop (mkF m 11 #[.val (.ref vr0)] [])) _
    refine XS.iconst X1.here hx rfl (hb hby d1_11) ?_
    show Steps p.tables e below (T1.setTop (mkF m 12 #[.val (.ref vr0)] [(.int (0 : Int32))])) _
    exact retN X1 hx (t := .boolean) Bd.returns (by simp) (hb hby d1_12) hr
  · show Q1_nn Z vr0 w_event_vr0 h0 n0 _ T1.heap _
    rw [e1]
    exact ⟨rfl, N0, rfl⟩
theorem d1_7 : decode prog_10_method_6_code 7 = .ok (.iconst 1, 1) := by decide +kernel
theorem d1_8 : decode prog_10_method_6_code 8 = .ok (.goto 4, 3) := by decide +kernel
theorem ef_1_null (m : MethodId) (x0 : Addr) : entryFrame m #[(.ref x0)] 1 = mkF m 0 #[.val (.ref x0)] [] := by first | (simp [entryFrame, mkF, argsToLocals, Value.category]; done) | rfl
def Q1_null (Z : State) (vr0 : Addr) (h0 : Heap) (n0 : Nat) (v : Option Value) (h : Heap) (L : List Loc) : Prop := v = some (.int (1 : Int32)) ∧ Fr n0 L ∧ h = h0
set_option maxRecDepth 65536 in
set_option maxHeartbeats 40000000 in
theorem rm1_null (l : Launch) (Z : State) (a0 : Array Value) (hw : ∀ d ∈ tables_1, d.before a0 Z = true) (ws : List Jvm.Cond) (vr0 : Addr) (h0 : Heap) (n0 : Nat) (Z0 : n0 ≤ h0.size) (F_event_vr0 : Fld Z h0 vr0 "com/example/deferra/deferra/book/Posting$Kind" "event" "Lcom/example/deferra/deferra/payment/Event;" .null) :
    MetFree l (⟨"com/example/deferra/deferra/book/Posting$Kind", "carriesAmount", "()Z"⟩ : MethodName) (head1 (Jvm.Cond.code (⟨"com/example/deferra/deferra/book/Posting$Kind", "carriesAmount", "()Z"⟩ : MethodName) prog_10_method_6_code 1 (some .boolean) :: ws) ({ frames := 0, cells := 0, slots := 0, locals := 0 } : Room)) (fun a U => a = #[(.ref vr0)] ∧ Z.Warmed39 U.vm ∧ U.heap = h0) (fun _ _ _ _ _ => True) (fun _ U o U' => ∃ v L, o = .returned v ∧ Q1_null Z vr0 h0 n0 v U'.heap L ∧ FrameEnd U o U' L ({ frames := 0, cells := 0, slots := 0, locals := 0 } : Room).cells ({ frames := 0, cells := 0, slots := 0, locals := 0 } : Room).slots) := by
  refine MetFree.of_bodySF (plainFor_of_name pn_com_example_deferra_deferra_book_Posting_Kind) hisR ?_
  intro p e s m args below meth c s₁ Bd hml0 hP hK
  obtain ⟨rfl, hZ, hh⟩ := hP
  have hx := Bd.exec
  have hby := Bd.bytes
  have hml : c.maxLocals = 1 := hml0
  have hown : s.vm.findClass "com/example/deferra/deferra/book/Posting$Kind" = some m.cls := findClass_of_methodNamed Bd.named
  have hnm := (name_of_methodNamed Bd.named Bd.method).1
  have X0 : Stand p l e ({ frames := 0, cells := 0, slots := 0, locals := 0 } : Room) s m #[(.ref vr0)] below meth c s₁ [] 0 0 := Stand.of_body Bd
  have e0 : s₁.heap = h0 := by rw [← hh, Bd.state]; rfl
  have N0 := Fr.nil n0
  have pre0 : ∀ t, Steps p.tables e below (s₁.setTop (mkF m 0 #[.val (.ref vr0)] [])) t → Steps p.tables e below (s₁.setTop (entryFrame m #[(.ref vr0)] 1)) t := fun t k => castTop (ef_1_null m vr0) k
  obtain ⟨T1, X1, e1, st1⟩ := getF X0 hx hZ hown (host := "") (Or.inl (wd_9 hw)) Via.refl e0 F_event_vr0 (g := (mkF m 1 #[.val (.ref vr0)] [(.ref vr0)])) rfl rfl (hb hby d1_1)
  obtain ⟨fs, hr, hrun, hended, hW, hsame⟩ := X1.leave (v := some (.int (1 : Int32))) (fun h => by rw [Bd.returns] at h; cases h)
  refine ⟨_, _, pre0 _ ?_, hrun, hended, _, _, rfl, ?_, ⟨_, rfl⟩, hW, hsame.mono (by decide) (by decide)⟩
  · show Steps p.tables e below (s₁.setTop (mkF m 0 #[.val (.ref vr0)] [])) _
    refine XS.aloadN X0.here hx rfl (hb hby d1_0) rfl rfl ?_
    show Steps p.tables e below (s₁.setTop (mkF m 1 #[.val (.ref vr0)] [(.ref vr0)])) _
    refine st1 _ ?_
    show Steps p.tables e below (T1.setTop (mkF m 4 #[.val (.ref vr0)] [.null])) _
    refine XS.ifnonnullNo X1.here hx rfl (hb hby d1_4) rfl ?_
    show Steps p.tables e below (T1.setTop (mkF m 7 #[.val (.ref vr0)] [])) _
    refine XS.iconst X1.here hx rfl (hb hby d1_7) ?_
    show Steps p.tables e below (T1.setTop (mkF m 8 #[.val (.ref vr0)] [(.int (1 : Int32))])) _
    refine XS.goto X1.here hx rfl (pc0 := 8) (pc' := 12) rfl (hb hby d1_8) (by decide) (by decide) ?_
    show Steps p.tables e below (T1.setTop (mkF m 12 #[.val (.ref vr0)] [(.int (1 : Int32))])) _
    exact retN X1 hx (t := .boolean) Bd.returns (by simp) (hb hby d1_12) hr
  · show Q1_null Z vr0 h0 n0 _ T1.heap _
    rw [e1]
    exact ⟨rfl, N0, rfl⟩
theorem wd_0 {Z : State} {a0 : Array Value} (hw : ∀ d ∈ tables_1, d.before a0 Z = true) : ((Jvm.Cond.constant "com/example/deferra/deferra/book/KindCarriesAmountPinLaw" (7 : Nat) (2147483647 : Int32))).before a0 Z = true := hw _ (List.mem_of_getElem? (i := 0) rfl)
theorem wd_1 {Z : State} {a0 : Array Value} (hw : ∀ d ∈ tables_1, d.before a0 Z = true) : ((Jvm.Cond.fieldLink "com/example/deferra/deferra/book/KindCarriesAmountPinLaw" (8 : Nat) "com/example/deferra/deferra/book/Posting$Kind" "DEFERRAL" "Lcom/example/deferra/deferra/book/Posting$Kind;")).before a0 Z = true := hw _ (List.mem_of_getElem? (i := 1) rfl)
theorem wd_4 {Z : State} {a0 : Array Value} (hw : ∀ d ∈ tables_1, d.before a0 Z = true) : ((Jvm.Cond.methodLink "com/example/deferra/deferra/book/KindCarriesAmountPinLaw" (26 : Nat) ({ cls := "com/example/deferra/deferra/book/Posting$Kind", name := "carriesAmount", desc := "()Z" } : Jvm.MethodName))).before a0 Z = true := hw _ (List.mem_of_getElem? (i := 4) rfl)
theorem wd_8 {Z : State} {a0 : Array Value} (hw : ∀ d ∈ tables_1, d.before a0 Z = true) : ((Jvm.Cond.code ({ cls := "com/example/deferra/deferra/book/Posting$Kind", name := "carriesAmount", desc := "()Z" } : Jvm.MethodName) prog_10_method_6_code (1 : Nat) (Option.some Jvm.ClassFile.FieldType.boolean))).before a0 Z = true := hw _ (List.mem_of_getElem? (i := 8) rfl)
theorem wd_2 {Z : State} {a0 : Array Value} (hw : ∀ d ∈ tables_1, d.before a0 Z = true) : ((Jvm.Cond.initialized "com/example/deferra/deferra/book/Posting$Kind")).before a0 Z = true := hw _ (List.mem_of_getElem? (i := 2) rfl)
theorem pd_0 : parseMethodDescriptor "()Z" = some ⟨[], some .boolean⟩ := by decide +kernel
theorem wd_7 {Z : State} {a0 : Array Value} (hw : ∀ d ∈ tables_1, d.before a0 Z = true) : ((Jvm.Cond.selects "com/example/deferra/deferra/book/Posting$Kind" ({ cls := "com/example/deferra/deferra/book/Posting$Kind", name := "carriesAmount", desc := "()Z" } : Jvm.MethodName) ({ cls := "com/example/deferra/deferra/book/Posting$Kind", name := "carriesAmount", desc := "()Z" } : Jvm.MethodName))).before a0 Z = true := hw _ (List.mem_of_getElem? (i := 7) rfl)
theorem wd_5 {Z : State} {a0 : Array Value} (hw : ∀ d ∈ tables_1, d.before a0 Z = true) : ((Jvm.Cond.declares ({ cls := "com/example/deferra/deferra/book/Posting$Kind", name := "carriesAmount", desc := "()Z" } : Jvm.MethodName))).before a0 Z = true := hw _ (List.mem_of_getElem? (i := 5) rfl)
theorem wd_6 {Z : State} {a0 : Array Value} (hw : ∀ d ∈ tables_1, d.before a0 Z = true) : ((Jvm.Cond.instanceMethod ({ cls := "com/example/deferra/deferra/book/Posting$Kind", name := "carriesAmount", desc := "()Z" } : Jvm.MethodName))).before a0 Z = true := hw _ (List.mem_of_getElem? (i := 6) rfl)
theorem pn_com_example_deferra_deferra_book_KindCarriesAmountPinLaw : plainName "com/example/deferra/deferra/book/KindCarriesAmountPinLaw" = true := by first | (simp [plainName, overriddenIn]; done) | decide +kernel
theorem ef_0_ff (m : MethodId) (x0 : Int32) : entryFrame m #[(.int x0)] maxLocals = mkF m 0 #[.val (.int x0), .unset, .unset, .unset] [] := by first | (simp [entryFrame, mkF, argsToLocals, Value.category, maxLocals]; done) | rfl
def Q0_ff (Z : State) (vi0 : Int32) (w_DEFERRAL : Addr) (h0 : Heap) (n0 : Nat) (v : Option Value) (h : Heap) (L : List Loc) : Prop := v = some (.int (1 : Int32)) ∧ Fr n0 L
set_option maxRecDepth 65536 in
set_option maxHeartbeats 40000000 in
theorem rm0_ff (l : Launch) (Z : State) (a0 : Array Value) (hw : ∀ d ∈ tables_1, d.before a0 Z = true) (ws : List Jvm.Cond) (vi0 : Int32) (w_DEFERRAL : Addr) (h0 : Heap) (n0 : Nat) (Z0 : n0 ≤ h0.size) (hc8 : ((vi0 &&& (2147483647 : Int32)) % (5 : Int32)) = (0 : Int32)) (S_DEFERRAL : Sta Z Z.heap "com/example/deferra/deferra/book/Posting$Kind" "DEFERRAL" "Lcom/example/deferra/deferra/book/Posting$Kind;" (.ref w_DEFERRAL)) (O0 : Old Z n0 h0) (E_w_DEFERRAL : Exa Z Z.heap w_DEFERRAL "com/example/deferra/deferra/book/Posting$Kind") (F_event_w_DEFERRAL : Fld Z h0 w_DEFERRAL "com/example/deferra/deferra/book/Posting$Kind" "event" "Lcom/example/deferra/deferra/payment/Event;" .null) :
    MetFree l x (head1 (Jvm.Cond.code x code maxLocals ret :: ws) room_1) (fun a U => a = #[(.int vi0)] ∧ Z.Warmed39 U.vm ∧ U.heap = h0) (fun _ _ _ _ _ => True) (fun _ U o U' => ∃ v L, o = .returned v ∧ Q0_ff Z vi0 w_DEFERRAL h0 n0 v U'.heap L ∧ FrameEnd U o U' L room_1.cells room_1.slots) := by
  refine MetFree.of_bodySF (plainFor_of_name pn_com_example_deferra_deferra_book_KindCarriesAmountPinLaw) hisR ?_
  intro p e s m args below meth c s₁ Bd hml0 hP hK
  obtain ⟨rfl, hZ, hh⟩ := hP
  have hx := Bd.exec
  have hby := Bd.bytes
  have hml : c.maxLocals = 4 := hml0
  have hown : s.vm.findClass "com/example/deferra/deferra/book/KindCarriesAmountPinLaw" = some m.cls := findClass_of_methodNamed Bd.named
  have hnm := (name_of_methodNamed Bd.named Bd.method).1
  have X0 : Stand p l e room_1 s m #[(.int vi0)] below meth c s₁ [] 0 0 := Stand.of_body Bd
  have e0 : s₁.heap = h0 := by rw [← hh, Bd.state]; rfl
  have N0 := Fr.nil n0
  have pre0 : ∀ t, Steps p.tables e below (s₁.setTop (mkF m 0 #[.val (.int vi0), .unset, .unset, .unset] [])) t → Steps p.tables e below (s₁.setTop (entryFrame m #[(.int vi0)] maxLocals)) t := fun t k => castTop (ef_0_ff m vi0) k
  obtain ⟨T1, X1, e1, st1⟩ := getS2 X0 hx hZ hown (host := "") (Or.inl (wd_1 hw)) Via.refl e0 (S_DEFERRAL.ext O0.2) (g := (mkF m 11 #[.val (.int vi0), .val (.int ((vi0 &&& (2147483647 : Int32)) % (5 : Int32))), .unset, .unset] [])) rfl (hb hby at_11)
  obtain ⟨cq2, kq2, q2a, q2b, q2c⟩ := isOf hZ e1 (E_w_DEFERRAL.ext O0.2)
  obtain ⟨_, _, ⟨T2, L2, k2, n2⟩, -, X2, ⟨Lc2, hQ2, l2, y2, z2⟩, st2⟩ := X1.virtualBack hx (y := (⟨"com/example/deferra/deferra/book/Posting$Kind", "carriesAmount", "()Z"⟩ : MethodName)) (z := (⟨"com/example/deferra/deferra/book/Posting$Kind", "carriesAmount", "()Z"⟩ : MethodName)) hown (mvT hZ (wd_4 hw)) (mvT hZ (wd_5 hw)) (notFace_of_selects (args := #[]) (mvT hZ (wd_7 hw))) (mvT hZ (wd_7 hw)) (mvT hZ (wd_6 hw)) (by decide) (backOf (W := 0) (rm1_null l Z a0 hw [] w_DEFERRAL h0 n0 Z0 F_event_w_DEFERRAL) hZ (wd_8 hw) (wd_2 hw) (by decide) (by decide)) q2a q2c (g := (mkF m 69 #[.val (.int vi0), .val (.int ((vi0 &&& (2147483647 : Int32)) % (5 : Int32))), .val (.ref w_DEFERRAL), .val (.int (1 : Int32))] [(.ref w_DEFERRAL)])) rfl (by rw [hml]; rfl) (Steps.refl _) (argsL := []) (rest := []) (lenOf pd_0 rfl) rfl (by show 2 * 0 + _ ≤ _; exact Nat.le_of_eq rfl) (hb hby at_69) (fun _ _ => ⟨rfl, e1, (by decide : 0 + 0 ≤ _), (by decide : 0 + 0 ≤ _)⟩)
  dsimp only [Pt.U, Pt.locs, Pt.cells, Pt.slots] at X2 l2 y2 z2 st2 hQ2
  subst l2 y2 z2
  obtain ⟨rfl, N2q, p2_0⟩ := hQ2
  have N2 := Fr.app N0 N2q
  have e2 : T2.heap = h0 := p2_0
  obtain ⟨fs, hr, hrun, hended, hW, hsame⟩ := X2.leave (v := some (.int (1 : Int32))) (fun h => by rw [Bd.returns] at h; cases h)
  refine ⟨_, _, pre0 _ ?_, hrun, hended, _, _, rfl, ?_, ⟨_, rfl⟩, hW, hsame.mono (by decide) (by decide)⟩
  · show Steps p.tables e below (s₁.setTop (mkF m 0 #[.val (.int vi0), .unset, .unset, .unset] [])) _
    refine XS.iloadN X0.here hx rfl (hb hby at_0) rfl ?_
    show Steps p.tables e below (s₁.setTop (mkF m 1 #[.val (.int vi0), .unset, .unset, .unset] [(.int vi0)])) _
    refine X0.ldcInt hx hown (mvT hZ (wd_0 hw)) (g := (mkF m 1 #[.val (.int vi0), .unset, .unset, .unset] [(.int vi0)])) rfl (hb hby at_1) _ ?_
    show Steps p.tables e below (s₁.setTop (mkF m 3 #[.val (.int vi0), .unset, .unset, .unset] [(.int (2147483647 : Int32)), (.int vi0)])) _
    refine XS.iand X0.here hx rfl (hb hby at_3) rfl ?_
    show Steps p.tables e below (s₁.setTop (mkF m 4 #[.val (.int vi0), .unset, .unset, .unset] [(.int (vi0 &&& (2147483647 : Int32)))])) _
    refine XS.iconst X0.here hx rfl (hb hby at_4) ?_
    show Steps p.tables e below (s₁.setTop (mkF m 5 #[.val (.int vi0), .unset, .unset, .unset] [(.int (5 : Int32)), (.int (vi0 &&& (2147483647 : Int32)))])) _
    refine iremM X0 hx rfl (hb hby at_5) rfl (by decide) ?_
    show Steps p.tables e below (s₁.setTop (mkF m 6 #[.val (.int vi0), .unset, .unset, .unset] [(.int ((vi0 &&& (2147483647 : Int32)) % (5 : Int32)))])) _
    refine XS.istoreN X0.here hx rfl (hb hby at_6) rfl (l' := #[.val (.int vi0), .val (.int ((vi0 &&& (2147483647 : Int32)) % (5 : Int32))), .unset, .unset]) rfl ?_
    show Steps p.tables e below (s₁.setTop (mkF m 7 #[.val (.int vi0), .val (.int ((vi0 &&& (2147483647 : Int32)) % (5 : Int32))), .unset, .unset] [])) _
    refine XS.iloadN X0.here hx rfl (hb hby at_7) rfl ?_
    show Steps p.tables e below (s₁.setTop (mkF m 8 #[.val (.int vi0), .val (.int ((vi0 &&& (2147483647 : Int32)) % (5 : Int32))), .unset, .unset] [(.int ((vi0 &&& (2147483647 : Int32)) % (5 : Int32)))])) _
    refine XS.ifNo X0.here hx rfl (hb hby at_8) rfl ((if0 _ _).trans (teq hc8).2) ?_
    show Steps p.tables e below (s₁.setTop (mkF m 11 #[.val (.int vi0), .val (.int ((vi0 &&& (2147483647 : Int32)) % (5 : Int32))), .unset, .unset] [])) _
    refine st1 _ ?_
    show Steps p.tables e below (T1.setTop (mkF m 14 #[.val (.int vi0), .val (.int ((vi0 &&& (2147483647 : Int32)) % (5 : Int32))), .unset, .unset] [(.ref w_DEFERRAL)])) _
    refine XS.astoreN X1.here hx rfl (hb hby at_14) rfl rfl (l' := #[.val (.int vi0), .val (.int ((vi0 &&& (2147483647 : Int32)) % (5 : Int32))), .val (.ref w_DEFERRAL), .unset]) rfl ?_
    show Steps p.tables e below (T1.setTop (mkF m 15 #[.val (.int vi0), .val (.int ((vi0 &&& (2147483647 : Int32)) % (5 : Int32))), .val (.ref w_DEFERRAL), .unset] [])) _
    refine XS.iconst X1.here hx rfl (hb hby at_15) ?_
    show Steps p.tables e below (T1.setTop (mkF m 16 #[.val (.int vi0), .val (.int ((vi0 &&& (2147483647 : Int32)) % (5 : Int32))), .val (.ref w_DEFERRAL), .unset] [(.int (1 : Int32))])) _
    refine XS.istoreN X1.here hx rfl (hb hby at_16) rfl (l' := #[.val (.int vi0), .val (.int ((vi0 &&& (2147483647 : Int32)) % (5 : Int32))), .val (.ref w_DEFERRAL), .val (.int (1 : Int32))]) rfl ?_
    show Steps p.tables e below (T1.setTop (mkF m 17 #[.val (.int vi0), .val (.int ((vi0 &&& (2147483647 : Int32)) % (5 : Int32))), .val (.ref w_DEFERRAL), .val (.int (1 : Int32))] [])) _
    refine XS.goto X1.here hx rfl (pc0 := 17) (pc' := 68) rfl (hb hby at_17) (by decide) (by decide) ?_
    show Steps p.tables e below (T1.setTop (mkF m 68 #[.val (.int vi0), .val (.int ((vi0 &&& (2147483647 : Int32)) % (5 : Int32))), .val (.ref w_DEFERRAL), .val (.int (1 : Int32))] [])) _
    refine XS.aloadN X1.here hx rfl (hb hby at_68) rfl rfl ?_
    show Steps p.tables e below (T1.setTop (mkF m 69 #[.val (.int vi0), .val (.int ((vi0 &&& (2147483647 : Int32)) % (5 : Int32))), .val (.ref w_DEFERRAL), .val (.int (1 : Int32))] [(.ref w_DEFERRAL)])) _
    refine st2.trans ?_
    show Steps p.tables e below (T2.setTop (mkF m 72 #[.val (.int vi0), .val (.int ((vi0 &&& (2147483647 : Int32)) % (5 : Int32))), .val (.ref w_DEFERRAL), .val (.int (1 : Int32))] [(.int (1 : Int32))])) _
    refine XS.iloadN X2.here hx rfl (hb hby at_72) rfl ?_
    show Steps p.tables e below (T2.setTop (mkF m 73 #[.val (.int vi0), .val (.int ((vi0 &&& (2147483647 : Int32)) % (5 : Int32))), .val (.ref w_DEFERRAL), .val (.int (1 : Int32))] [(.int (1 : Int32)), (.int (1 : Int32))])) _
    refine XS.icmpNo X2.here hx rfl (hb hby at_73) rfl (teq (rfl : (1 : Int32) = (1 : Int32))).2 ?_
    show Steps p.tables e below (T2.setTop (mkF m 76 #[.val (.int vi0), .val (.int ((vi0 &&& (2147483647 : Int32)) % (5 : Int32))), .val (.ref w_DEFERRAL), .val (.int (1 : Int32))] [])) _
    refine XS.iconst X2.here hx rfl (hb hby at_76) ?_
    show Steps p.tables e below (T2.setTop (mkF m 77 #[.val (.int vi0), .val (.int ((vi0 &&& (2147483647 : Int32)) % (5 : Int32))), .val (.ref w_DEFERRAL), .val (.int (1 : Int32))] [(.int (1 : Int32))])) _
    refine XS.goto X2.here hx rfl (pc0 := 77) (pc' := 81) rfl (hb hby at_77) (by decide) (by decide) ?_
    show Steps p.tables e below (T2.setTop (mkF m 81 #[.val (.int vi0), .val (.int ((vi0 &&& (2147483647 : Int32)) % (5 : Int32))), .val (.ref w_DEFERRAL), .val (.int (1 : Int32))] [(.int (1 : Int32))])) _
    exact retN X2 hx (t := .boolean) Bd.returns (by simp) (hb hby at_81) hr
  · show Q0_ff Z vi0 w_DEFERRAL h0 n0 _ T2.heap _
    rw [e2]
    exact ⟨rfl, N2⟩
theorem wd_15 {Z : State} {a0 : Array Value} (hw : ∀ d ∈ tables_1, d.before a0 Z = true) : ((Jvm.Cond.fieldLink "com/example/deferra/deferra/book/KindCarriesAmountPinLaw" (14 : Nat) "com/example/deferra/deferra/book/Posting$Kind" "COMPENSATION" "Lcom/example/deferra/deferra/book/Posting$Kind;")).before a0 Z = true := hw _ (List.mem_of_getElem? (i := 15) rfl)
theorem ef_0_tff (m : MethodId) (x0 : Int32) : entryFrame m #[(.int x0)] maxLocals = mkF m 0 #[.val (.int x0), .unset, .unset, .unset] [] := by first | (simp [entryFrame, mkF, argsToLocals, Value.category, maxLocals]; done) | rfl
def Q0_tff (Z : State) (vi0 : Int32) (w_COMPENSATION : Addr) (h0 : Heap) (n0 : Nat) (v : Option Value) (h : Heap) (L : List Loc) : Prop := v = some (.int (1 : Int32)) ∧ Fr n0 L
set_option maxRecDepth 65536 in
set_option maxHeartbeats 40000000 in
theorem rm0_tff (l : Launch) (Z : State) (a0 : Array Value) (hw : ∀ d ∈ tables_1, d.before a0 Z = true) (ws : List Jvm.Cond) (vi0 : Int32) (w_COMPENSATION : Addr) (h0 : Heap) (n0 : Nat) (Z0 : n0 ≤ h0.size) (hc8 : ¬ (((vi0 &&& (2147483647 : Int32)) % (5 : Int32)) = (0 : Int32))) (hc22 : ((vi0 &&& (2147483647 : Int32)) % (5 : Int32)) = (1 : Int32)) (S_COMPENSATION : Sta Z Z.heap "com/example/deferra/deferra/book/Posting$Kind" "COMPENSATION" "Lcom/example/deferra/deferra/book/Posting$Kind;" (.ref w_COMPENSATION)) (O0 : Old Z n0 h0) (E_w_COMPENSATION : Exa Z Z.heap w_COMPENSATION "com/example/deferra/deferra/book/Posting$Kind") (F_event_w_COMPENSATION : Fld Z h0 w_COMPENSATION "com/example/deferra/deferra/book/Posting$Kind" "event" "Lcom/example/deferra/deferra/payment/Event;" .null) :
    MetFree l x (head1 (Jvm.Cond.code x code maxLocals ret :: ws) room_1) (fun a U => a = #[(.int vi0)] ∧ Z.Warmed39 U.vm ∧ U.heap = h0) (fun _ _ _ _ _ => True) (fun _ U o U' => ∃ v L, o = .returned v ∧ Q0_tff Z vi0 w_COMPENSATION h0 n0 v U'.heap L ∧ FrameEnd U o U' L room_1.cells room_1.slots) := by
  refine MetFree.of_bodySF (plainFor_of_name pn_com_example_deferra_deferra_book_KindCarriesAmountPinLaw) hisR ?_
  intro p e s m args below meth c s₁ Bd hml0 hP hK
  obtain ⟨rfl, hZ, hh⟩ := hP
  have hx := Bd.exec
  have hby := Bd.bytes
  have hml : c.maxLocals = 4 := hml0
  have hown : s.vm.findClass "com/example/deferra/deferra/book/KindCarriesAmountPinLaw" = some m.cls := findClass_of_methodNamed Bd.named
  have hnm := (name_of_methodNamed Bd.named Bd.method).1
  have X0 : Stand p l e room_1 s m #[(.int vi0)] below meth c s₁ [] 0 0 := Stand.of_body Bd
  have e0 : s₁.heap = h0 := by rw [← hh, Bd.state]; rfl
  have N0 := Fr.nil n0
  have pre0 : ∀ t, Steps p.tables e below (s₁.setTop (mkF m 0 #[.val (.int vi0), .unset, .unset, .unset] [])) t → Steps p.tables e below (s₁.setTop (entryFrame m #[(.int vi0)] maxLocals)) t := fun t k => castTop (ef_0_tff m vi0) k
  obtain ⟨T1, X1, e1, st1⟩ := getS2 X0 hx hZ hown (host := "") (Or.inl (wd_15 hw)) Via.refl e0 (S_COMPENSATION.ext O0.2) (g := (mkF m 25 #[.val (.int vi0), .val (.int ((vi0 &&& (2147483647 : Int32)) % (5 : Int32))), .unset, .unset] [])) rfl (hb hby at_25)
  obtain ⟨cq2, kq2, q2a, q2b, q2c⟩ := isOf hZ e1 (E_w_COMPENSATION.ext O0.2)
  obtain ⟨_, _, ⟨T2, L2, k2, n2⟩, -, X2, ⟨Lc2, hQ2, l2, y2, z2⟩, st2⟩ := X1.virtualBack hx (y := (⟨"com/example/deferra/deferra/book/Posting$Kind", "carriesAmount", "()Z"⟩ : MethodName)) (z := (⟨"com/example/deferra/deferra/book/Posting$Kind", "carriesAmount", "()Z"⟩ : MethodName)) hown (mvT hZ (wd_4 hw)) (mvT hZ (wd_5 hw)) (notFace_of_selects (args := #[]) (mvT hZ (wd_7 hw))) (mvT hZ (wd_7 hw)) (mvT hZ (wd_6 hw)) (by decide) (backOf (W := 0) (rm1_null l Z a0 hw [] w_COMPENSATION h0 n0 Z0 F_event_w_COMPENSATION) hZ (wd_8 hw) (wd_2 hw) (by decide) (by decide)) q2a q2c (g := (mkF m 69 #[.val (.int vi0), .val (.int ((vi0 &&& (2147483647 : Int32)) % (5 : Int32))), .val (.ref w_COMPENSATION), .val (.int (1 : Int32))] [(.ref w_COMPENSATION)])) rfl (by rw [hml]; rfl) (Steps.refl _) (argsL := []) (rest := []) (lenOf pd_0 rfl) rfl (by show 2 * 0 + _ ≤ _; exact Nat.le_of_eq rfl) (hb hby at_69) (fun _ _ => ⟨rfl, e1, (by decide : 0 + 0 ≤ _), (by decide : 0 + 0 ≤ _)⟩)
  dsimp only [Pt.U, Pt.locs, Pt.cells, Pt.slots] at X2 l2 y2 z2 st2 hQ2
  subst l2 y2 z2
  obtain ⟨rfl, N2q, p2_0⟩ := hQ2
  have N2 := Fr.app N0 N2q
  have e2 : T2.heap = h0 := p2_0
  obtain ⟨fs, hr, hrun, hended, hW, hsame⟩ := X2.leave (v := some (.int (1 : Int32))) (fun h => by rw [Bd.returns] at h; cases h)
  refine ⟨_, _, pre0 _ ?_, hrun, hended, _, _, rfl, ?_, ⟨_, rfl⟩, hW, hsame.mono (by decide) (by decide)⟩
  · show Steps p.tables e below (s₁.setTop (mkF m 0 #[.val (.int vi0), .unset, .unset, .unset] [])) _
    refine XS.iloadN X0.here hx rfl (hb hby at_0) rfl ?_
    show Steps p.tables e below (s₁.setTop (mkF m 1 #[.val (.int vi0), .unset, .unset, .unset] [(.int vi0)])) _
    refine X0.ldcInt hx hown (mvT hZ (wd_0 hw)) (g := (mkF m 1 #[.val (.int vi0), .unset, .unset, .unset] [(.int vi0)])) rfl (hb hby at_1) _ ?_
    show Steps p.tables e below (s₁.setTop (mkF m 3 #[.val (.int vi0), .unset, .unset, .unset] [(.int (2147483647 : Int32)), (.int vi0)])) _
    refine XS.iand X0.here hx rfl (hb hby at_3) rfl ?_
    show Steps p.tables e below (s₁.setTop (mkF m 4 #[.val (.int vi0), .unset, .unset, .unset] [(.int (vi0 &&& (2147483647 : Int32)))])) _
    refine XS.iconst X0.here hx rfl (hb hby at_4) ?_
    show Steps p.tables e below (s₁.setTop (mkF m 5 #[.val (.int vi0), .unset, .unset, .unset] [(.int (5 : Int32)), (.int (vi0 &&& (2147483647 : Int32)))])) _
    refine iremM X0 hx rfl (hb hby at_5) rfl (by decide) ?_
    show Steps p.tables e below (s₁.setTop (mkF m 6 #[.val (.int vi0), .unset, .unset, .unset] [(.int ((vi0 &&& (2147483647 : Int32)) % (5 : Int32)))])) _
    refine XS.istoreN X0.here hx rfl (hb hby at_6) rfl (l' := #[.val (.int vi0), .val (.int ((vi0 &&& (2147483647 : Int32)) % (5 : Int32))), .unset, .unset]) rfl ?_
    show Steps p.tables e below (s₁.setTop (mkF m 7 #[.val (.int vi0), .val (.int ((vi0 &&& (2147483647 : Int32)) % (5 : Int32))), .unset, .unset] [])) _
    refine XS.iloadN X0.here hx rfl (hb hby at_7) rfl ?_
    show Steps p.tables e below (s₁.setTop (mkF m 8 #[.val (.int vi0), .val (.int ((vi0 &&& (2147483647 : Int32)) % (5 : Int32))), .unset, .unset] [(.int ((vi0 &&& (2147483647 : Int32)) % (5 : Int32)))])) _
    refine XS.ifYes X0.here hx rfl (pc0 := 8) (pc' := 20) rfl (hb hby at_8) rfl ((if0 _ _).trans (feq hc8).2) (by decide) (by decide) ?_
    show Steps p.tables e below (s₁.setTop (mkF m 20 #[.val (.int vi0), .val (.int ((vi0 &&& (2147483647 : Int32)) % (5 : Int32))), .unset, .unset] [])) _
    refine XS.iloadN X0.here hx rfl (hb hby at_20) rfl ?_
    show Steps p.tables e below (s₁.setTop (mkF m 21 #[.val (.int vi0), .val (.int ((vi0 &&& (2147483647 : Int32)) % (5 : Int32))), .unset, .unset] [(.int ((vi0 &&& (2147483647 : Int32)) % (5 : Int32)))])) _
    refine XS.iconst X0.here hx rfl (hb hby at_21) ?_
    show Steps p.tables e below (s₁.setTop (mkF m 22 #[.val (.int vi0), .val (.int ((vi0 &&& (2147483647 : Int32)) % (5 : Int32))), .unset, .unset] [(.int (1 : Int32)), (.int ((vi0 &&& (2147483647 : Int32)) % (5 : Int32)))])) _
    refine XS.icmpNo X0.here hx rfl (hb hby at_22) rfl (teq hc22).2 ?_
    show Steps p.tables e below (s₁.setTop (mkF m 25 #[.val (.int vi0), .val (.int ((vi0 &&& (2147483647 : Int32)) % (5 : Int32))), .unset, .unset] [])) _
    refine st1 _ ?_
    show Steps p.tables e below (T1.setTop (mkF m 28 #[.val (.int vi0), .val (.int ((vi0 &&& (2147483647 : Int32)) % (5 : Int32))), .unset, .unset] [(.ref w_COMPENSATION)])) _
    refine XS.astoreN X1.here hx rfl (hb hby at_28) rfl rfl (l' := #[.val (.int vi0), .val (.int ((vi0 &&& (2147483647 : Int32)) % (5 : Int32))), .val (.ref w_COMPENSATION), .unset]) rfl ?_
    show Steps p.tables e below (T1.setTop (mkF m 29 #[.val (.int vi0), .val (.int ((vi0 &&& (2147483647 : Int32)) % (5 : Int32))), .val (.ref w_COMPENSATION), .unset] [])) _
    refine XS.iconst X1.here hx rfl (hb hby at_29) ?_
    show Steps p.tables e below (T1.setTop (mkF m 30 #[.val (.int vi0), .val (.int ((vi0 &&& (2147483647 : Int32)) % (5 : Int32))), .val (.ref w_COMPENSATION), .unset] [(.int (1 : Int32))])) _
    refine XS.istoreN X1.here hx rfl (hb hby at_30) rfl (l' := #[.val (.int vi0), .val (.int ((vi0 &&& (2147483647 : Int32)) % (5 : Int32))), .val (.ref w_COMPENSATION), .val (.int (1 : Int32))]) rfl ?_
    show Steps p.tables e below (T1.setTop (mkF m 31 #[.val (.int vi0), .val (.int ((vi0 &&& (2147483647 : Int32)) % (5 : Int32))), .val (.ref w_COMPENSATION), .val (.int (1 : Int32))] [])) _
    refine XS.goto X1.here hx rfl (pc0 := 31) (pc' := 68) rfl (hb hby at_31) (by decide) (by decide) ?_
    show Steps p.tables e below (T1.setTop (mkF m 68 #[.val (.int vi0), .val (.int ((vi0 &&& (2147483647 : Int32)) % (5 : Int32))), .val (.ref w_COMPENSATION), .val (.int (1 : Int32))] [])) _
    refine XS.aloadN X1.here hx rfl (hb hby at_68) rfl rfl ?_
    show Steps p.tables e below (T1.setTop (mkF m 69 #[.val (.int vi0), .val (.int ((vi0 &&& (2147483647 : Int32)) % (5 : Int32))), .val (.ref w_COMPENSATION), .val (.int (1 : Int32))] [(.ref w_COMPENSATION)])) _
    refine st2.trans ?_
    show Steps p.tables e below (T2.setTop (mkF m 72 #[.val (.int vi0), .val (.int ((vi0 &&& (2147483647 : Int32)) % (5 : Int32))), .val (.ref w_COMPENSATION), .val (.int (1 : Int32))] [(.int (1 : Int32))])) _
    refine XS.iloadN X2.here hx rfl (hb hby at_72) rfl ?_
    show Steps p.tables e below (T2.setTop (mkF m 73 #[.val (.int vi0), .val (.int ((vi0 &&& (2147483647 : Int32)) % (5 : Int32))), .val (.ref w_COMPENSATION), .val (.int (1 : Int32))] [(.int (1 : Int32)), (.int (1 : Int32))])) _
    refine XS.icmpNo X2.here hx rfl (hb hby at_73) rfl (teq (rfl : (1 : Int32) = (1 : Int32))).2 ?_
    show Steps p.tables e below (T2.setTop (mkF m 76 #[.val (.int vi0), .val (.int ((vi0 &&& (2147483647 : Int32)) % (5 : Int32))), .val (.ref w_COMPENSATION), .val (.int (1 : Int32))] [])) _
    refine XS.iconst X2.here hx rfl (hb hby at_76) ?_
    show Steps p.tables e below (T2.setTop (mkF m 77 #[.val (.int vi0), .val (.int ((vi0 &&& (2147483647 : Int32)) % (5 : Int32))), .val (.ref w_COMPENSATION), .val (.int (1 : Int32))] [(.int (1 : Int32))])) _
    refine XS.goto X2.here hx rfl (pc0 := 77) (pc' := 81) rfl (hb hby at_77) (by decide) (by decide) ?_
    show Steps p.tables e below (T2.setTop (mkF m 81 #[.val (.int vi0), .val (.int ((vi0 &&& (2147483647 : Int32)) % (5 : Int32))), .val (.ref w_COMPENSATION), .val (.int (1 : Int32))] [(.int (1 : Int32))])) _
    exact retN X2 hx (t := .boolean) Bd.returns (by simp) (hb hby at_81) hr
  · show Q0_tff Z vi0 w_COMPENSATION h0 n0 _ T2.heap _
    rw [e2]
    exact ⟨rfl, N2⟩
theorem wd_20 {Z : State} {a0 : Array Value} (hw : ∀ d ∈ tables_1, d.before a0 Z = true) : ((Jvm.Cond.fieldLink "com/example/deferra/deferra/book/KindCarriesAmountPinLaw" (17 : Nat) "com/example/deferra/deferra/book/Posting$Kind" "SEPARATION" "Lcom/example/deferra/deferra/book/Posting$Kind;")).before a0 Z = true := hw _ (List.mem_of_getElem? (i := 20) rfl)
theorem ef_0_ttff (m : MethodId) (x0 : Int32) : entryFrame m #[(.int x0)] maxLocals = mkF m 0 #[.val (.int x0), .unset, .unset, .unset] [] := by first | (simp [entryFrame, mkF, argsToLocals, Value.category, maxLocals]; done) | rfl
def Q0_ttff (Z : State) (vi0 : Int32) (w_SEPARATION : Addr) (w_event_w_SEPARATION : Addr) (h0 : Heap) (n0 : Nat) (v : Option Value) (h : Heap) (L : List Loc) : Prop := v = some (.int (1 : Int32)) ∧ Fr n0 L
set_option maxRecDepth 65536 in
set_option maxHeartbeats 40000000 in
theorem rm0_ttff (l : Launch) (Z : State) (a0 : Array Value) (hw : ∀ d ∈ tables_1, d.before a0 Z = true) (ws : List Jvm.Cond) (vi0 : Int32) (w_SEPARATION : Addr) (w_event_w_SEPARATION : Addr) (h0 : Heap) (n0 : Nat) (Z0 : n0 ≤ h0.size) (hc8 : ¬ (((vi0 &&& (2147483647 : Int32)) % (5 : Int32)) = (0 : Int32))) (hc22 : ¬ (((vi0 &&& (2147483647 : Int32)) % (5 : Int32)) = (1 : Int32))) (hc36 : ((vi0 &&& (2147483647 : Int32)) % (5 : Int32)) = (2 : Int32)) (S_SEPARATION : Sta Z Z.heap "com/example/deferra/deferra/book/Posting$Kind" "SEPARATION" "Lcom/example/deferra/deferra/book/Posting$Kind;" (.ref w_SEPARATION)) (O0 : Old Z n0 h0) (E_w_SEPARATION : Exa Z Z.heap w_SEPARATION "com/example/deferra/deferra/book/Posting$Kind") (F_event_w_SEPARATION : Fld Z h0 w_SEPARATION "com/example/deferra/deferra/book/Posting$Kind" "event" "Lcom/example/deferra/deferra/payment/Event;" (.ref w_event_w_SEPARATION)) :
    MetFree l x (head1 (Jvm.Cond.code x code maxLocals ret :: ws) room_1) (fun a U => a = #[(.int vi0)] ∧ Z.Warmed39 U.vm ∧ U.heap = h0) (fun _ _ _ _ _ => True) (fun _ U o U' => ∃ v L, o = .returned v ∧ Q0_ttff Z vi0 w_SEPARATION w_event_w_SEPARATION h0 n0 v U'.heap L ∧ FrameEnd U o U' L room_1.cells room_1.slots) := by
  refine MetFree.of_bodySF (plainFor_of_name pn_com_example_deferra_deferra_book_KindCarriesAmountPinLaw) hisR ?_
  intro p e s m args below meth c s₁ Bd hml0 hP hK
  obtain ⟨rfl, hZ, hh⟩ := hP
  have hx := Bd.exec
  have hby := Bd.bytes
  have hml : c.maxLocals = 4 := hml0
  have hown : s.vm.findClass "com/example/deferra/deferra/book/KindCarriesAmountPinLaw" = some m.cls := findClass_of_methodNamed Bd.named
  have hnm := (name_of_methodNamed Bd.named Bd.method).1
  have X0 : Stand p l e room_1 s m #[(.int vi0)] below meth c s₁ [] 0 0 := Stand.of_body Bd
  have e0 : s₁.heap = h0 := by rw [← hh, Bd.state]; rfl
  have N0 := Fr.nil n0
  have pre0 : ∀ t, Steps p.tables e below (s₁.setTop (mkF m 0 #[.val (.int vi0), .unset, .unset, .unset] [])) t → Steps p.tables e below (s₁.setTop (entryFrame m #[(.int vi0)] maxLocals)) t := fun t k => castTop (ef_0_ttff m vi0) k
  obtain ⟨T1, X1, e1, st1⟩ := getS2 X0 hx hZ hown (host := "") (Or.inl (wd_20 hw)) Via.refl e0 (S_SEPARATION.ext O0.2) (g := (mkF m 39 #[.val (.int vi0), .val (.int ((vi0 &&& (2147483647 : Int32)) % (5 : Int32))), .unset, .unset] [])) rfl (hb hby at_39)
  obtain ⟨cq2, kq2, q2a, q2b, q2c⟩ := isOf hZ e1 (E_w_SEPARATION.ext O0.2)
  obtain ⟨_, _, ⟨T2, L2, k2, n2⟩, -, X2, ⟨Lc2, hQ2, l2, y2, z2⟩, st2⟩ := X1.virtualBack hx (y := (⟨"com/example/deferra/deferra/book/Posting$Kind", "carriesAmount", "()Z"⟩ : MethodName)) (z := (⟨"com/example/deferra/deferra/book/Posting$Kind", "carriesAmount", "()Z"⟩ : MethodName)) hown (mvT hZ (wd_4 hw)) (mvT hZ (wd_5 hw)) (notFace_of_selects (args := #[]) (mvT hZ (wd_7 hw))) (mvT hZ (wd_7 hw)) (mvT hZ (wd_6 hw)) (by decide) (backOf (W := 0) (rm1_nn l Z a0 hw [] w_SEPARATION w_event_w_SEPARATION h0 n0 Z0 F_event_w_SEPARATION) hZ (wd_8 hw) (wd_2 hw) (by decide) (by decide)) q2a q2c (g := (mkF m 69 #[.val (.int vi0), .val (.int ((vi0 &&& (2147483647 : Int32)) % (5 : Int32))), .val (.ref w_SEPARATION), .val (.int (0 : Int32))] [(.ref w_SEPARATION)])) rfl (by rw [hml]; rfl) (Steps.refl _) (argsL := []) (rest := []) (lenOf pd_0 rfl) rfl (by show 2 * 0 + _ ≤ _; exact Nat.le_of_eq rfl) (hb hby at_69) (fun _ _ => ⟨rfl, e1, (by decide : 0 + 0 ≤ _), (by decide : 0 + 0 ≤ _)⟩)
  dsimp only [Pt.U, Pt.locs, Pt.cells, Pt.slots] at X2 l2 y2 z2 st2 hQ2
  subst l2 y2 z2
  obtain ⟨rfl, N2q, p2_0⟩ := hQ2
  have N2 := Fr.app N0 N2q
  have e2 : T2.heap = h0 := p2_0
  obtain ⟨fs, hr, hrun, hended, hW, hsame⟩ := X2.leave (v := some (.int (1 : Int32))) (fun h => by rw [Bd.returns] at h; cases h)
  refine ⟨_, _, pre0 _ ?_, hrun, hended, _, _, rfl, ?_, ⟨_, rfl⟩, hW, hsame.mono (by decide) (by decide)⟩
  · show Steps p.tables e below (s₁.setTop (mkF m 0 #[.val (.int vi0), .unset, .unset, .unset] [])) _
    refine XS.iloadN X0.here hx rfl (hb hby at_0) rfl ?_
    show Steps p.tables e below (s₁.setTop (mkF m 1 #[.val (.int vi0), .unset, .unset, .unset] [(.int vi0)])) _
    refine X0.ldcInt hx hown (mvT hZ (wd_0 hw)) (g := (mkF m 1 #[.val (.int vi0), .unset, .unset, .unset] [(.int vi0)])) rfl (hb hby at_1) _ ?_
    show Steps p.tables e below (s₁.setTop (mkF m 3 #[.val (.int vi0), .unset, .unset, .unset] [(.int (2147483647 : Int32)), (.int vi0)])) _
    refine XS.iand X0.here hx rfl (hb hby at_3) rfl ?_
    show Steps p.tables e below (s₁.setTop (mkF m 4 #[.val (.int vi0), .unset, .unset, .unset] [(.int (vi0 &&& (2147483647 : Int32)))])) _
    refine XS.iconst X0.here hx rfl (hb hby at_4) ?_
    show Steps p.tables e below (s₁.setTop (mkF m 5 #[.val (.int vi0), .unset, .unset, .unset] [(.int (5 : Int32)), (.int (vi0 &&& (2147483647 : Int32)))])) _
    refine iremM X0 hx rfl (hb hby at_5) rfl (by decide) ?_
    show Steps p.tables e below (s₁.setTop (mkF m 6 #[.val (.int vi0), .unset, .unset, .unset] [(.int ((vi0 &&& (2147483647 : Int32)) % (5 : Int32)))])) _
    refine XS.istoreN X0.here hx rfl (hb hby at_6) rfl (l' := #[.val (.int vi0), .val (.int ((vi0 &&& (2147483647 : Int32)) % (5 : Int32))), .unset, .unset]) rfl ?_
    show Steps p.tables e below (s₁.setTop (mkF m 7 #[.val (.int vi0), .val (.int ((vi0 &&& (2147483647 : Int32)) % (5 : Int32))), .unset, .unset] [])) _
    refine XS.iloadN X0.here hx rfl (hb hby at_7) rfl ?_
    show Steps p.tables e below (s₁.setTop (mkF m 8 #[.val (.int vi0), .val (.int ((vi0 &&& (2147483647 : Int32)) % (5 : Int32))), .unset, .unset] [(.int ((vi0 &&& (2147483647 : Int32)) % (5 : Int32)))])) _
    refine XS.ifYes X0.here hx rfl (pc0 := 8) (pc' := 20) rfl (hb hby at_8) rfl ((if0 _ _).trans (feq hc8).2) (by decide) (by decide) ?_
    show Steps p.tables e below (s₁.setTop (mkF m 20 #[.val (.int vi0), .val (.int ((vi0 &&& (2147483647 : Int32)) % (5 : Int32))), .unset, .unset] [])) _
    refine XS.iloadN X0.here hx rfl (hb hby at_20) rfl ?_
    show Steps p.tables e below (s₁.setTop (mkF m 21 #[.val (.int vi0), .val (.int ((vi0 &&& (2147483647 : Int32)) % (5 : Int32))), .unset, .unset] [(.int ((vi0 &&& (2147483647 : Int32)) % (5 : Int32)))])) _
    refine XS.iconst X0.here hx rfl (hb hby at_21) ?_
    show Steps p.tables e below (s₁.setTop (mkF m 22 #[.val (.int vi0), .val (.int ((vi0 &&& (2147483647 : Int32)) % (5 : Int32))), .unset, .unset] [(.int (1 : Int32)), (.int ((vi0 &&& (2147483647 : Int32)) % (5 : Int32)))])) _
    refine XS.icmpYes X0.here hx rfl (pc0 := 22) (pc' := 34) rfl (hb hby at_22) rfl (feq hc22).2 (by decide) (by decide) ?_
    show Steps p.tables e below (s₁.setTop (mkF m 34 #[.val (.int vi0), .val (.int ((vi0 &&& (2147483647 : Int32)) % (5 : Int32))), .unset, .unset] [])) _
    refine XS.iloadN X0.here hx rfl (hb hby at_34) rfl ?_
    show Steps p.tables e below (s₁.setTop (mkF m 35 #[.val (.int vi0), .val (.int ((vi0 &&& (2147483647 : Int32)) % (5 : Int32))), .unset, .unset] [(.int ((vi0 &&& (2147483647 : Int32)) % (5 : Int32)))])) _
    refine XS.iconst X0.here hx rfl (hb hby at_35) ?_
    show Steps p.tables e below (s₁.setTop (mkF m 36 #[.val (.int vi0), .val (.int ((vi0 &&& (2147483647 : Int32)) % (5 : Int32))), .unset, .unset] [(.int (2 : Int32)), (.int ((vi0 &&& (2147483647 : Int32)) % (5 : Int32)))])) _
    refine XS.icmpNo X0.here hx rfl (hb hby at_36) rfl (teq hc36).2 ?_
    show Steps p.tables e below (s₁.setTop (mkF m 39 #[.val (.int vi0), .val (.int ((vi0 &&& (2147483647 : Int32)) % (5 : Int32))), .unset, .unset] [])) _
    refine st1 _ ?_
    show Steps p.tables e below (T1.setTop (mkF m 42 #[.val (.int vi0), .val (.int ((vi0 &&& (2147483647 : Int32)) % (5 : Int32))), .unset, .unset] [(.ref w_SEPARATION)])) _
    refine XS.astoreN X1.here hx rfl (hb hby at_42) rfl rfl (l' := #[.val (.int vi0), .val (.int ((vi0 &&& (2147483647 : Int32)) % (5 : Int32))), .val (.ref w_SEPARATION), .unset]) rfl ?_
    show Steps p.tables e below (T1.setTop (mkF m 43 #[.val (.int vi0), .val (.int ((vi0 &&& (2147483647 : Int32)) % (5 : Int32))), .val (.ref w_SEPARATION), .unset] [])) _
    refine XS.iconst X1.here hx rfl (hb hby at_43) ?_
    show Steps p.tables e below (T1.setTop (mkF m 44 #[.val (.int vi0), .val (.int ((vi0 &&& (2147483647 : Int32)) % (5 : Int32))), .val (.ref w_SEPARATION), .unset] [(.int (0 : Int32))])) _
    refine XS.istoreN X1.here hx rfl (hb hby at_44) rfl (l' := #[.val (.int vi0), .val (.int ((vi0 &&& (2147483647 : Int32)) % (5 : Int32))), .val (.ref w_SEPARATION), .val (.int (0 : Int32))]) rfl ?_
    show Steps p.tables e below (T1.setTop (mkF m 45 #[.val (.int vi0), .val (.int ((vi0 &&& (2147483647 : Int32)) % (5 : Int32))), .val (.ref w_SEPARATION), .val (.int (0 : Int32))] [])) _
    refine XS.goto X1.here hx rfl (pc0 := 45) (pc' := 68) rfl (hb hby at_45) (by decide) (by decide) ?_
    show Steps p.tables e below (T1.setTop (mkF m 68 #[.val (.int vi0), .val (.int ((vi0 &&& (2147483647 : Int32)) % (5 : Int32))), .val (.ref w_SEPARATION), .val (.int (0 : Int32))] [])) _
    refine XS.aloadN X1.here hx rfl (hb hby at_68) rfl rfl ?_
    show Steps p.tables e below (T1.setTop (mkF m 69 #[.val (.int vi0), .val (.int ((vi0 &&& (2147483647 : Int32)) % (5 : Int32))), .val (.ref w_SEPARATION), .val (.int (0 : Int32))] [(.ref w_SEPARATION)])) _
    refine st2.trans ?_
    show Steps p.tables e below (T2.setTop (mkF m 72 #[.val (.int vi0), .val (.int ((vi0 &&& (2147483647 : Int32)) % (5 : Int32))), .val (.ref w_SEPARATION), .val (.int (0 : Int32))] [(.int (0 : Int32))])) _
    refine XS.iloadN X2.here hx rfl (hb hby at_72) rfl ?_
    show Steps p.tables e below (T2.setTop (mkF m 73 #[.val (.int vi0), .val (.int ((vi0 &&& (2147483647 : Int32)) % (5 : Int32))), .val (.ref w_SEPARATION), .val (.int (0 : Int32))] [(.int (0 : Int32)), (.int (0 : Int32))])) _
    refine XS.icmpNo X2.here hx rfl (hb hby at_73) rfl (teq (rfl : (0 : Int32) = (0 : Int32))).2 ?_
    show Steps p.tables e below (T2.setTop (mkF m 76 #[.val (.int vi0), .val (.int ((vi0 &&& (2147483647 : Int32)) % (5 : Int32))), .val (.ref w_SEPARATION), .val (.int (0 : Int32))] [])) _
    refine XS.iconst X2.here hx rfl (hb hby at_76) ?_
    show Steps p.tables e below (T2.setTop (mkF m 77 #[.val (.int vi0), .val (.int ((vi0 &&& (2147483647 : Int32)) % (5 : Int32))), .val (.ref w_SEPARATION), .val (.int (0 : Int32))] [(.int (1 : Int32))])) _
    refine XS.goto X2.here hx rfl (pc0 := 77) (pc' := 81) rfl (hb hby at_77) (by decide) (by decide) ?_
    show Steps p.tables e below (T2.setTop (mkF m 81 #[.val (.int vi0), .val (.int ((vi0 &&& (2147483647 : Int32)) % (5 : Int32))), .val (.ref w_SEPARATION), .val (.int (0 : Int32))] [(.int (1 : Int32))])) _
    exact retN X2 hx (t := .boolean) Bd.returns (by simp) (hb hby at_81) hr
  · show Q0_ttff Z vi0 w_SEPARATION w_event_w_SEPARATION h0 n0 _ T2.heap _
    rw [e2]
    exact ⟨rfl, N2⟩
theorem wd_11 {Z : State} {a0 : Array Value} (hw : ∀ d ∈ tables_1, d.before a0 Z = true) : ((Jvm.Cond.fieldLink "com/example/deferra/deferra/book/KindCarriesAmountPinLaw" (20 : Nat) "com/example/deferra/deferra/book/Posting$Kind" "DEATH" "Lcom/example/deferra/deferra/book/Posting$Kind;")).before a0 Z = true := hw _ (List.mem_of_getElem? (i := 11) rfl)
theorem ef_0_tttff (m : MethodId) (x0 : Int32) : entryFrame m #[(.int x0)] maxLocals = mkF m 0 #[.val (.int x0), .unset, .unset, .unset] [] := by first | (simp [entryFrame, mkF, argsToLocals, Value.category, maxLocals]; done) | rfl
def Q0_tttff (Z : State) (vi0 : Int32) (w_DEATH : Addr) (w_event_w_DEATH : Addr) (h0 : Heap) (n0 : Nat) (v : Option Value) (h : Heap) (L : List Loc) : Prop := v = some (.int (1 : Int32)) ∧ Fr n0 L
set_option maxRecDepth 65536 in
set_option maxHeartbeats 40000000 in
theorem rm0_tttff (l : Launch) (Z : State) (a0 : Array Value) (hw : ∀ d ∈ tables_1, d.before a0 Z = true) (ws : List Jvm.Cond) (vi0 : Int32) (w_DEATH : Addr) (w_event_w_DEATH : Addr) (h0 : Heap) (n0 : Nat) (Z0 : n0 ≤ h0.size) (hc8 : ¬ (((vi0 &&& (2147483647 : Int32)) % (5 : Int32)) = (0 : Int32))) (hc22 : ¬ (((vi0 &&& (2147483647 : Int32)) % (5 : Int32)) = (1 : Int32))) (hc36 : ¬ (((vi0 &&& (2147483647 : Int32)) % (5 : Int32)) = (2 : Int32))) (hc50 : ((vi0 &&& (2147483647 : Int32)) % (5 : Int32)) = (3 : Int32)) (S_DEATH : Sta Z Z.heap "com/example/deferra/deferra/book/Posting$Kind" "DEATH" "Lcom/example/deferra/deferra/book/Posting$Kind;" (.ref w_DEATH)) (O0 : Old Z n0 h0) (E_w_DEATH : Exa Z Z.heap w_DEATH "com/example/deferra/deferra/book/Posting$Kind") (F_event_w_DEATH : Fld Z h0 w_DEATH "com/example/deferra/deferra/book/Posting$Kind" "event" "Lcom/example/deferra/deferra/payment/Event;" (.ref w_event_w_DEATH)) :
    MetFree l x (head1 (Jvm.Cond.code x code maxLocals ret :: ws) room_1) (fun a U => a = #[(.int vi0)] ∧ Z.Warmed39 U.vm ∧ U.heap = h0) (fun _ _ _ _ _ => True) (fun _ U o U' => ∃ v L, o = .returned v ∧ Q0_tttff Z vi0 w_DEATH w_event_w_DEATH h0 n0 v U'.heap L ∧ FrameEnd U o U' L room_1.cells room_1.slots) := by
  refine MetFree.of_bodySF (plainFor_of_name pn_com_example_deferra_deferra_book_KindCarriesAmountPinLaw) hisR ?_
  intro p e s m args below meth c s₁ Bd hml0 hP hK
  obtain ⟨rfl, hZ, hh⟩ := hP
  have hx := Bd.exec
  have hby := Bd.bytes
  have hml : c.maxLocals = 4 := hml0
  have hown : s.vm.findClass "com/example/deferra/deferra/book/KindCarriesAmountPinLaw" = some m.cls := findClass_of_methodNamed Bd.named
  have hnm := (name_of_methodNamed Bd.named Bd.method).1
  have X0 : Stand p l e room_1 s m #[(.int vi0)] below meth c s₁ [] 0 0 := Stand.of_body Bd
  have e0 : s₁.heap = h0 := by rw [← hh, Bd.state]; rfl
  have N0 := Fr.nil n0
  have pre0 : ∀ t, Steps p.tables e below (s₁.setTop (mkF m 0 #[.val (.int vi0), .unset, .unset, .unset] [])) t → Steps p.tables e below (s₁.setTop (entryFrame m #[(.int vi0)] maxLocals)) t := fun t k => castTop (ef_0_tttff m vi0) k
  obtain ⟨T1, X1, e1, st1⟩ := getS2 X0 hx hZ hown (host := "") (Or.inl (wd_11 hw)) Via.refl e0 (S_DEATH.ext O0.2) (g := (mkF m 53 #[.val (.int vi0), .val (.int ((vi0 &&& (2147483647 : Int32)) % (5 : Int32))), .unset, .unset] [])) rfl (hb hby at_53)
  obtain ⟨cq2, kq2, q2a, q2b, q2c⟩ := isOf hZ e1 (E_w_DEATH.ext O0.2)
  obtain ⟨_, _, ⟨T2, L2, k2, n2⟩, -, X2, ⟨Lc2, hQ2, l2, y2, z2⟩, st2⟩ := X1.virtualBack hx (y := (⟨"com/example/deferra/deferra/book/Posting$Kind", "carriesAmount", "()Z"⟩ : MethodName)) (z := (⟨"com/example/deferra/deferra/book/Posting$Kind", "carriesAmount", "()Z"⟩ : MethodName)) hown (mvT hZ (wd_4 hw)) (mvT hZ (wd_5 hw)) (notFace_of_selects (args := #[]) (mvT hZ (wd_7 hw))) (mvT hZ (wd_7 hw)) (mvT hZ (wd_6 hw)) (by decide) (backOf (W := 0) (rm1_nn l Z a0 hw [] w_DEATH w_event_w_DEATH h0 n0 Z0 F_event_w_DEATH) hZ (wd_8 hw) (wd_2 hw) (by decide) (by decide)) q2a q2c (g := (mkF m 69 #[.val (.int vi0), .val (.int ((vi0 &&& (2147483647 : Int32)) % (5 : Int32))), .val (.ref w_DEATH), .val (.int (0 : Int32))] [(.ref w_DEATH)])) rfl (by rw [hml]; rfl) (Steps.refl _) (argsL := []) (rest := []) (lenOf pd_0 rfl) rfl (by show 2 * 0 + _ ≤ _; exact Nat.le_of_eq rfl) (hb hby at_69) (fun _ _ => ⟨rfl, e1, (by decide : 0 + 0 ≤ _), (by decide : 0 + 0 ≤ _)⟩)
  dsimp only [Pt.U, Pt.locs, Pt.cells, Pt.slots] at X2 l2 y2 z2 st2 hQ2
  subst l2 y2 z2
  obtain ⟨rfl, N2q, p2_0⟩ := hQ2
  have N2 := Fr.app N0 N2q
  have e2 : T2.heap = h0 := p2_0
  obtain ⟨fs, hr, hrun, hended, hW, hsame⟩ := X2.leave (v := some (.int (1 : Int32))) (fun h => by rw [Bd.returns] at h; cases h)
  refine ⟨_, _, pre0 _ ?_, hrun, hended, _, _, rfl, ?_, ⟨_, rfl⟩, hW, hsame.mono (by decide) (by decide)⟩
  · show Steps p.tables e below (s₁.setTop (mkF m 0 #[.val (.int vi0), .unset, .unset, .unset] [])) _
    refine XS.iloadN X0.here hx rfl (hb hby at_0) rfl ?_
    show Steps p.tables e below (s₁.setTop (mkF m 1 #[.val (.int vi0), .unset, .unset, .unset] [(.int vi0)])) _
    refine X0.ldcInt hx hown (mvT hZ (wd_0 hw)) (g := (mkF m 1 #[.val (.int vi0), .unset, .unset, .unset] [(.int vi0)])) rfl (hb hby at_1) _ ?_
    show Steps p.tables e below (s₁.setTop (mkF m 3 #[.val (.int vi0), .unset, .unset, .unset] [(.int (2147483647 : Int32)), (.int vi0)])) _
    refine XS.iand X0.here hx rfl (hb hby at_3) rfl ?_
    show Steps p.tables e below (s₁.setTop (mkF m 4 #[.val (.int vi0), .unset, .unset, .unset] [(.int (vi0 &&& (2147483647 : Int32)))])) _
    refine XS.iconst X0.here hx rfl (hb hby at_4) ?_
    show Steps p.tables e below (s₁.setTop (mkF m 5 #[.val (.int vi0), .unset, .unset, .unset] [(.int (5 : Int32)), (.int (vi0 &&& (2147483647 : Int32)))])) _
    refine iremM X0 hx rfl (hb hby at_5) rfl (by decide) ?_
    show Steps p.tables e below (s₁.setTop (mkF m 6 #[.val (.int vi0), .unset, .unset, .unset] [(.int ((vi0 &&& (2147483647 : Int32)) % (5 : Int32)))])) _
    refine XS.istoreN X0.here hx rfl (hb hby at_6) rfl (l' := #[.val (.int vi0), .val (.int ((vi0 &&& (2147483647 : Int32)) % (5 : Int32))), .unset, .unset]) rfl ?_
    show Steps p.tables e below (s₁.setTop (mkF m 7 #[.val (.int vi0), .val (.int ((vi0 &&& (2147483647 : Int32)) % (5 : Int32))), .unset, .unset] [])) _
    refine XS.iloadN X0.here hx rfl (hb hby at_7) rfl ?_
    show Steps p.tables e below (s₁.setTop (mkF m 8 #[.val (.int vi0), .val (.int ((vi0 &&& (2147483647 : Int32)) % (5 : Int32))), .unset, .unset] [(.int ((vi0 &&& (2147483647 : Int32)) % (5 : Int32)))])) _
    refine XS.ifYes X0.here hx rfl (pc0 := 8) (pc' := 20) rfl (hb hby at_8) rfl ((if0 _ _).trans (feq hc8).2) (by decide) (by decide) ?_
    show Steps p.tables e below (s₁.setTop (mkF m 20 #[.val (.int vi0), .val (.int ((vi0 &&& (2147483647 : Int32)) % (5 : Int32))), .unset, .unset] [])) _
    refine XS.iloadN X0.here hx rfl (hb hby at_20) rfl ?_
    show Steps p.tables e below (s₁.setTop (mkF m 21 #[.val (.int vi0), .val (.int ((vi0 &&& (2147483647 : Int32)) % (5 : Int32))), .unset, .unset] [(.int ((vi0 &&& (2147483647 : Int32)) % (5 : Int32)))])) _
    refine XS.iconst X0.here hx rfl (hb hby at_21) ?_
    show Steps p.tables e below (s₁.setTop (mkF m 22 #[.val (.int vi0), .val (.int ((vi0 &&& (2147483647 : Int32)) % (5 : Int32))), .unset, .unset] [(.int (1 : Int32)), (.int ((vi0 &&& (2147483647 : Int32)) % (5 : Int32)))])) _
    refine XS.icmpYes X0.here hx rfl (pc0 := 22) (pc' := 34) rfl (hb hby at_22) rfl (feq hc22).2 (by decide) (by decide) ?_
    show Steps p.tables e below (s₁.setTop (mkF m 34 #[.val (.int vi0), .val (.int ((vi0 &&& (2147483647 : Int32)) % (5 : Int32))), .unset, .unset] [])) _
    refine XS.iloadN X0.here hx rfl (hb hby at_34) rfl ?_
    show Steps p.tables e below (s₁.setTop (mkF m 35 #[.val (.int vi0), .val (.int ((vi0 &&& (2147483647 : Int32)) % (5 : Int32))), .unset, .unset] [(.int ((vi0 &&& (2147483647 : Int32)) % (5 : Int32)))])) _
    refine XS.iconst X0.here hx rfl (hb hby at_35) ?_
    show Steps p.tables e below (s₁.setTop (mkF m 36 #[.val (.int vi0), .val (.int ((vi0 &&& (2147483647 : Int32)) % (5 : Int32))), .unset, .unset] [(.int (2 : Int32)), (.int ((vi0 &&& (2147483647 : Int32)) % (5 : Int32)))])) _
    refine XS.icmpYes X0.here hx rfl (pc0 := 36) (pc' := 48) rfl (hb hby at_36) rfl (feq hc36).2 (by decide) (by decide) ?_
    show Steps p.tables e below (s₁.setTop (mkF m 48 #[.val (.int vi0), .val (.int ((vi0 &&& (2147483647 : Int32)) % (5 : Int32))), .unset, .unset] [])) _
    refine XS.iloadN X0.here hx rfl (hb hby at_48) rfl ?_
    show Steps p.tables e below (s₁.setTop (mkF m 49 #[.val (.int vi0), .val (.int ((vi0 &&& (2147483647 : Int32)) % (5 : Int32))), .unset, .unset] [(.int ((vi0 &&& (2147483647 : Int32)) % (5 : Int32)))])) _
    refine XS.iconst X0.here hx rfl (hb hby at_49) ?_
    show Steps p.tables e below (s₁.setTop (mkF m 50 #[.val (.int vi0), .val (.int ((vi0 &&& (2147483647 : Int32)) % (5 : Int32))), .unset, .unset] [(.int (3 : Int32)), (.int ((vi0 &&& (2147483647 : Int32)) % (5 : Int32)))])) _
    refine XS.icmpNo X0.here hx rfl (hb hby at_50) rfl (teq hc50).2 ?_
    show Steps p.tables e below (s₁.setTop (mkF m 53 #[.val (.int vi0), .val (.int ((vi0 &&& (2147483647 : Int32)) % (5 : Int32))), .unset, .unset] [])) _
    refine st1 _ ?_
    show Steps p.tables e below (T1.setTop (mkF m 56 #[.val (.int vi0), .val (.int ((vi0 &&& (2147483647 : Int32)) % (5 : Int32))), .unset, .unset] [(.ref w_DEATH)])) _
    refine XS.astoreN X1.here hx rfl (hb hby at_56) rfl rfl (l' := #[.val (.int vi0), .val (.int ((vi0 &&& (2147483647 : Int32)) % (5 : Int32))), .val (.ref w_DEATH), .unset]) rfl ?_
    show Steps p.tables e below (T1.setTop (mkF m 57 #[.val (.int vi0), .val (.int ((vi0 &&& (2147483647 : Int32)) % (5 : Int32))), .val (.ref w_DEATH), .unset] [])) _
    refine XS.iconst X1.here hx rfl (hb hby at_57) ?_
    show Steps p.tables e below (T1.setTop (mkF m 58 #[.val (.int vi0), .val (.int ((vi0 &&& (2147483647 : Int32)) % (5 : Int32))), .val (.ref w_DEATH), .unset] [(.int (0 : Int32))])) _
    refine XS.istoreN X1.here hx rfl (hb hby at_58) rfl (l' := #[.val (.int vi0), .val (.int ((vi0 &&& (2147483647 : Int32)) % (5 : Int32))), .val (.ref w_DEATH), .val (.int (0 : Int32))]) rfl ?_
    show Steps p.tables e below (T1.setTop (mkF m 59 #[.val (.int vi0), .val (.int ((vi0 &&& (2147483647 : Int32)) % (5 : Int32))), .val (.ref w_DEATH), .val (.int (0 : Int32))] [])) _
    refine XS.goto X1.here hx rfl (pc0 := 59) (pc' := 68) rfl (hb hby at_59) (by decide) (by decide) ?_
    show Steps p.tables e below (T1.setTop (mkF m 68 #[.val (.int vi0), .val (.int ((vi0 &&& (2147483647 : Int32)) % (5 : Int32))), .val (.ref w_DEATH), .val (.int (0 : Int32))] [])) _
    refine XS.aloadN X1.here hx rfl (hb hby at_68) rfl rfl ?_
    show Steps p.tables e below (T1.setTop (mkF m 69 #[.val (.int vi0), .val (.int ((vi0 &&& (2147483647 : Int32)) % (5 : Int32))), .val (.ref w_DEATH), .val (.int (0 : Int32))] [(.ref w_DEATH)])) _
    refine st2.trans ?_
    show Steps p.tables e below (T2.setTop (mkF m 72 #[.val (.int vi0), .val (.int ((vi0 &&& (2147483647 : Int32)) % (5 : Int32))), .val (.ref w_DEATH), .val (.int (0 : Int32))] [(.int (0 : Int32))])) _
    refine XS.iloadN X2.here hx rfl (hb hby at_72) rfl ?_
    show Steps p.tables e below (T2.setTop (mkF m 73 #[.val (.int vi0), .val (.int ((vi0 &&& (2147483647 : Int32)) % (5 : Int32))), .val (.ref w_DEATH), .val (.int (0 : Int32))] [(.int (0 : Int32)), (.int (0 : Int32))])) _
    refine XS.icmpNo X2.here hx rfl (hb hby at_73) rfl (teq (rfl : (0 : Int32) = (0 : Int32))).2 ?_
    show Steps p.tables e below (T2.setTop (mkF m 76 #[.val (.int vi0), .val (.int ((vi0 &&& (2147483647 : Int32)) % (5 : Int32))), .val (.ref w_DEATH), .val (.int (0 : Int32))] [])) _
    refine XS.iconst X2.here hx rfl (hb hby at_76) ?_
    show Steps p.tables e below (T2.setTop (mkF m 77 #[.val (.int vi0), .val (.int ((vi0 &&& (2147483647 : Int32)) % (5 : Int32))), .val (.ref w_DEATH), .val (.int (0 : Int32))] [(.int (1 : Int32))])) _
    refine XS.goto X2.here hx rfl (pc0 := 77) (pc' := 81) rfl (hb hby at_77) (by decide) (by decide) ?_
    show Steps p.tables e below (T2.setTop (mkF m 81 #[.val (.int vi0), .val (.int ((vi0 &&& (2147483647 : Int32)) % (5 : Int32))), .val (.ref w_DEATH), .val (.int (0 : Int32))] [(.int (1 : Int32))])) _
    exact retN X2 hx (t := .boolean) Bd.returns (by simp) (hb hby at_81) hr
  · show Q0_tttff Z vi0 w_DEATH w_event_w_DEATH h0 n0 _ T2.heap _
    rw [e2]
    exact ⟨rfl, N2⟩
theorem wd_17 {Z : State} {a0 : Array Value} (hw : ∀ d ∈ tables_1, d.before a0 Z = true) : ((Jvm.Cond.fieldLink "com/example/deferra/deferra/book/KindCarriesAmountPinLaw" (23 : Nat) "com/example/deferra/deferra/book/Posting$Kind" "CHANGE_IN_CONTROL" "Lcom/example/deferra/deferra/book/Posting$Kind;")).before a0 Z = true := hw _ (List.mem_of_getElem? (i := 17) rfl)
theorem ef_0_ttttf (m : MethodId) (x0 : Int32) : entryFrame m #[(.int x0)] maxLocals = mkF m 0 #[.val (.int x0), .unset, .unset, .unset] [] := by first | (simp [entryFrame, mkF, argsToLocals, Value.category, maxLocals]; done) | rfl
def Q0_ttttf (Z : State) (vi0 : Int32) (w_CHANGE_IN_CONTROL : Addr) (w_event_w_CHANGE_IN_CONTROL : Addr) (h0 : Heap) (n0 : Nat) (v : Option Value) (h : Heap) (L : List Loc) : Prop := v = some (.int (1 : Int32)) ∧ Fr n0 L
set_option maxRecDepth 65536 in
set_option maxHeartbeats 40000000 in
theorem rm0_ttttf (l : Launch) (Z : State) (a0 : Array Value) (hw : ∀ d ∈ tables_1, d.before a0 Z = true) (ws : List Jvm.Cond) (vi0 : Int32) (w_CHANGE_IN_CONTROL : Addr) (w_event_w_CHANGE_IN_CONTROL : Addr) (h0 : Heap) (n0 : Nat) (Z0 : n0 ≤ h0.size) (hc8 : ¬ (((vi0 &&& (2147483647 : Int32)) % (5 : Int32)) = (0 : Int32))) (hc22 : ¬ (((vi0 &&& (2147483647 : Int32)) % (5 : Int32)) = (1 : Int32))) (hc36 : ¬ (((vi0 &&& (2147483647 : Int32)) % (5 : Int32)) = (2 : Int32))) (hc50 : ¬ (((vi0 &&& (2147483647 : Int32)) % (5 : Int32)) = (3 : Int32))) (S_CHANGE_IN_CONTROL : Sta Z Z.heap "com/example/deferra/deferra/book/Posting$Kind" "CHANGE_IN_CONTROL" "Lcom/example/deferra/deferra/book/Posting$Kind;" (.ref w_CHANGE_IN_CONTROL)) (O0 : Old Z n0 h0) (E_w_CHANGE_IN_CONTROL : Exa Z Z.heap w_CHANGE_IN_CONTROL "com/example/deferra/deferra/book/Posting$Kind") (F_event_w_CHANGE_IN_CONTROL : Fld Z h0 w_CHANGE_IN_CONTROL "com/example/deferra/deferra/book/Posting$Kind" "event" "Lcom/example/deferra/deferra/payment/Event;" (.ref w_event_w_CHANGE_IN_CONTROL)) :
    MetFree l x (head1 (Jvm.Cond.code x code maxLocals ret :: ws) room_1) (fun a U => a = #[(.int vi0)] ∧ Z.Warmed39 U.vm ∧ U.heap = h0) (fun _ _ _ _ _ => True) (fun _ U o U' => ∃ v L, o = .returned v ∧ Q0_ttttf Z vi0 w_CHANGE_IN_CONTROL w_event_w_CHANGE_IN_CONTROL h0 n0 v U'.heap L ∧ FrameEnd U o U' L room_1.cells room_1.slots) := by
  refine MetFree.of_bodySF (plainFor_of_name pn_com_example_deferra_deferra_book_KindCarriesAmountPinLaw) hisR ?_
  intro p e s m args below meth c s₁ Bd hml0 hP hK
  obtain ⟨rfl, hZ, hh⟩ := hP
  have hx := Bd.exec
  have hby := Bd.bytes
  have hml : c.maxLocals = 4 := hml0
  have hown : s.vm.findClass "com/example/deferra/deferra/book/KindCarriesAmountPinLaw" = some m.cls := findClass_of_methodNamed Bd.named
  have hnm := (name_of_methodNamed Bd.named Bd.method).1
  have X0 : Stand p l e room_1 s m #[(.int vi0)] below meth c s₁ [] 0 0 := Stand.of_body Bd
  have e0 : s₁.heap = h0 := by rw [← hh, Bd.state]; rfl
  have N0 := Fr.nil n0
  have pre0 : ∀ t, Steps p.tables e below (s₁.setTop (mkF m 0 #[.val (.int vi0), .unset, .unset, .unset] [])) t → Steps p.tables e below (s₁.setTop (entryFrame m #[(.int vi0)] maxLocals)) t := fun t k => castTop (ef_0_ttttf m vi0) k
  obtain ⟨T1, X1, e1, st1⟩ := getS2 X0 hx hZ hown (host := "") (Or.inl (wd_17 hw)) Via.refl e0 (S_CHANGE_IN_CONTROL.ext O0.2) (g := (mkF m 62 #[.val (.int vi0), .val (.int ((vi0 &&& (2147483647 : Int32)) % (5 : Int32))), .unset, .unset] [])) rfl (hb hby at_62)
  obtain ⟨cq2, kq2, q2a, q2b, q2c⟩ := isOf hZ e1 (E_w_CHANGE_IN_CONTROL.ext O0.2)
  obtain ⟨_, _, ⟨T2, L2, k2, n2⟩, -, X2, ⟨Lc2, hQ2, l2, y2, z2⟩, st2⟩ := X1.virtualBack hx (y := (⟨"com/example/deferra/deferra/book/Posting$Kind", "carriesAmount", "()Z"⟩ : MethodName)) (z := (⟨"com/example/deferra/deferra/book/Posting$Kind", "carriesAmount", "()Z"⟩ : MethodName)) hown (mvT hZ (wd_4 hw)) (mvT hZ (wd_5 hw)) (notFace_of_selects (args := #[]) (mvT hZ (wd_7 hw))) (mvT hZ (wd_7 hw)) (mvT hZ (wd_6 hw)) (by decide) (backOf (W := 0) (rm1_nn l Z a0 hw [] w_CHANGE_IN_CONTROL w_event_w_CHANGE_IN_CONTROL h0 n0 Z0 F_event_w_CHANGE_IN_CONTROL) hZ (wd_8 hw) (wd_2 hw) (by decide) (by decide)) q2a q2c (g := (mkF m 69 #[.val (.int vi0), .val (.int ((vi0 &&& (2147483647 : Int32)) % (5 : Int32))), .val (.ref w_CHANGE_IN_CONTROL), .val (.int (0 : Int32))] [(.ref w_CHANGE_IN_CONTROL)])) rfl (by rw [hml]; rfl) (Steps.refl _) (argsL := []) (rest := []) (lenOf pd_0 rfl) rfl (by show 2 * 0 + _ ≤ _; exact Nat.le_of_eq rfl) (hb hby at_69) (fun _ _ => ⟨rfl, e1, (by decide : 0 + 0 ≤ _), (by decide : 0 + 0 ≤ _)⟩)
  dsimp only [Pt.U, Pt.locs, Pt.cells, Pt.slots] at X2 l2 y2 z2 st2 hQ2
  subst l2 y2 z2
  obtain ⟨rfl, N2q, p2_0⟩ := hQ2
  have N2 := Fr.app N0 N2q
  have e2 : T2.heap = h0 := p2_0
  obtain ⟨fs, hr, hrun, hended, hW, hsame⟩ := X2.leave (v := some (.int (1 : Int32))) (fun h => by rw [Bd.returns] at h; cases h)
  refine ⟨_, _, pre0 _ ?_, hrun, hended, _, _, rfl, ?_, ⟨_, rfl⟩, hW, hsame.mono (by decide) (by decide)⟩
  · show Steps p.tables e below (s₁.setTop (mkF m 0 #[.val (.int vi0), .unset, .unset, .unset] [])) _
    refine XS.iloadN X0.here hx rfl (hb hby at_0) rfl ?_
    show Steps p.tables e below (s₁.setTop (mkF m 1 #[.val (.int vi0), .unset, .unset, .unset] [(.int vi0)])) _
    refine X0.ldcInt hx hown (mvT hZ (wd_0 hw)) (g := (mkF m 1 #[.val (.int vi0), .unset, .unset, .unset] [(.int vi0)])) rfl (hb hby at_1) _ ?_
    show Steps p.tables e below (s₁.setTop (mkF m 3 #[.val (.int vi0), .unset, .unset, .unset] [(.int (2147483647 : Int32)), (.int vi0)])) _
    refine XS.iand X0.here hx rfl (hb hby at_3) rfl ?_
    show Steps p.tables e below (s₁.setTop (mkF m 4 #[.val (.int vi0), .unset, .unset, .unset] [(.int (vi0 &&& (2147483647 : Int32)))])) _
    refine XS.iconst X0.here hx rfl (hb hby at_4) ?_
    show Steps p.tables e below (s₁.setTop (mkF m 5 #[.val (.int vi0), .unset, .unset, .unset] [(.int (5 : Int32)), (.int (vi0 &&& (2147483647 : Int32)))])) _
    refine iremM X0 hx rfl (hb hby at_5) rfl (by decide) ?_
    show Steps p.tables e below (s₁.setTop (mkF m 6 #[.val (.int vi0), .unset, .unset, .unset] [(.int ((vi0 &&& (2147483647 : Int32)) % (5 : Int32)))])) _
    refine XS.istoreN X0.here hx rfl (hb hby at_6) rfl (l' := #[.val (.int vi0), .val (.int ((vi0 &&& (2147483647 : Int32)) % (5 : Int32))), .unset, .unset]) rfl ?_
    show Steps p.tables e below (s₁.setTop (mkF m 7 #[.val (.int vi0), .val (.int ((vi0 &&& (2147483647 : Int32)) % (5 : Int32))), .unset, .unset] [])) _
    refine XS.iloadN X0.here hx rfl (hb hby at_7) rfl ?_
    show Steps p.tables e below (s₁.setTop (mkF m 8 #[.val (.int vi0), .val (.int ((vi0 &&& (2147483647 : Int32)) % (5 : Int32))), .unset, .unset] [(.int ((vi0 &&& (2147483647 : Int32)) % (5 : Int32)))])) _
    refine XS.ifYes X0.here hx rfl (pc0 := 8) (pc' := 20) rfl (hb hby at_8) rfl ((if0 _ _).trans (feq hc8).2) (by decide) (by decide) ?_
    show Steps p.tables e below (s₁.setTop (mkF m 20 #[.val (.int vi0), .val (.int ((vi0 &&& (2147483647 : Int32)) % (5 : Int32))), .unset, .unset] [])) _
    refine XS.iloadN X0.here hx rfl (hb hby at_20) rfl ?_
    show Steps p.tables e below (s₁.setTop (mkF m 21 #[.val (.int vi0), .val (.int ((vi0 &&& (2147483647 : Int32)) % (5 : Int32))), .unset, .unset] [(.int ((vi0 &&& (2147483647 : Int32)) % (5 : Int32)))])) _
    refine XS.iconst X0.here hx rfl (hb hby at_21) ?_
    show Steps p.tables e below (s₁.setTop (mkF m 22 #[.val (.int vi0), .val (.int ((vi0 &&& (2147483647 : Int32)) % (5 : Int32))), .unset, .unset] [(.int (1 : Int32)), (.int ((vi0 &&& (2147483647 : Int32)) % (5 : Int32)))])) _
    refine XS.icmpYes X0.here hx rfl (pc0 := 22) (pc' := 34) rfl (hb hby at_22) rfl (feq hc22).2 (by decide) (by decide) ?_
    show Steps p.tables e below (s₁.setTop (mkF m 34 #[.val (.int vi0), .val (.int ((vi0 &&& (2147483647 : Int32)) % (5 : Int32))), .unset, .unset] [])) _
    refine XS.iloadN X0.here hx rfl (hb hby at_34) rfl ?_
    show Steps p.tables e below (s₁.setTop (mkF m 35 #[.val (.int vi0), .val (.int ((vi0 &&& (2147483647 : Int32)) % (5 : Int32))), .unset, .unset] [(.int ((vi0 &&& (2147483647 : Int32)) % (5 : Int32)))])) _
    refine XS.iconst X0.here hx rfl (hb hby at_35) ?_
    show Steps p.tables e below (s₁.setTop (mkF m 36 #[.val (.int vi0), .val (.int ((vi0 &&& (2147483647 : Int32)) % (5 : Int32))), .unset, .unset] [(.int (2 : Int32)), (.int ((vi0 &&& (2147483647 : Int32)) % (5 : Int32)))])) _
    refine XS.icmpYes X0.here hx rfl (pc0 := 36) (pc' := 48) rfl (hb hby at_36) rfl (feq hc36).2 (by decide) (by decide) ?_
    show Steps p.tables e below (s₁.setTop (mkF m 48 #[.val (.int vi0), .val (.int ((vi0 &&& (2147483647 : Int32)) % (5 : Int32))), .unset, .unset] [])) _
    refine XS.iloadN X0.here hx rfl (hb hby at_48) rfl ?_
    show Steps p.tables e below (s₁.setTop (mkF m 49 #[.val (.int vi0), .val (.int ((vi0 &&& (2147483647 : Int32)) % (5 : Int32))), .unset, .unset] [(.int ((vi0 &&& (2147483647 : Int32)) % (5 : Int32)))])) _
    refine XS.iconst X0.here hx rfl (hb hby at_49) ?_
    show Steps p.tables e below (s₁.setTop (mkF m 50 #[.val (.int vi0), .val (.int ((vi0 &&& (2147483647 : Int32)) % (5 : Int32))), .unset, .unset] [(.int (3 : Int32)), (.int ((vi0 &&& (2147483647 : Int32)) % (5 : Int32)))])) _
    refine XS.icmpYes X0.here hx rfl (pc0 := 50) (pc' := 62) rfl (hb hby at_50) rfl (feq hc50).2 (by decide) (by decide) ?_
    show Steps p.tables e below (s₁.setTop (mkF m 62 #[.val (.int vi0), .val (.int ((vi0 &&& (2147483647 : Int32)) % (5 : Int32))), .unset, .unset] [])) _
    refine st1 _ ?_
    show Steps p.tables e below (T1.setTop (mkF m 65 #[.val (.int vi0), .val (.int ((vi0 &&& (2147483647 : Int32)) % (5 : Int32))), .unset, .unset] [(.ref w_CHANGE_IN_CONTROL)])) _
    refine XS.astoreN X1.here hx rfl (hb hby at_65) rfl rfl (l' := #[.val (.int vi0), .val (.int ((vi0 &&& (2147483647 : Int32)) % (5 : Int32))), .val (.ref w_CHANGE_IN_CONTROL), .unset]) rfl ?_
    show Steps p.tables e below (T1.setTop (mkF m 66 #[.val (.int vi0), .val (.int ((vi0 &&& (2147483647 : Int32)) % (5 : Int32))), .val (.ref w_CHANGE_IN_CONTROL), .unset] [])) _
    refine XS.iconst X1.here hx rfl (hb hby at_66) ?_
    show Steps p.tables e below (T1.setTop (mkF m 67 #[.val (.int vi0), .val (.int ((vi0 &&& (2147483647 : Int32)) % (5 : Int32))), .val (.ref w_CHANGE_IN_CONTROL), .unset] [(.int (0 : Int32))])) _
    refine XS.istoreN X1.here hx rfl (hb hby at_67) rfl (l' := #[.val (.int vi0), .val (.int ((vi0 &&& (2147483647 : Int32)) % (5 : Int32))), .val (.ref w_CHANGE_IN_CONTROL), .val (.int (0 : Int32))]) rfl ?_
    show Steps p.tables e below (T1.setTop (mkF m 68 #[.val (.int vi0), .val (.int ((vi0 &&& (2147483647 : Int32)) % (5 : Int32))), .val (.ref w_CHANGE_IN_CONTROL), .val (.int (0 : Int32))] [])) _
    refine XS.aloadN X1.here hx rfl (hb hby at_68) rfl rfl ?_
    show Steps p.tables e below (T1.setTop (mkF m 69 #[.val (.int vi0), .val (.int ((vi0 &&& (2147483647 : Int32)) % (5 : Int32))), .val (.ref w_CHANGE_IN_CONTROL), .val (.int (0 : Int32))] [(.ref w_CHANGE_IN_CONTROL)])) _
    refine st2.trans ?_
    show Steps p.tables e below (T2.setTop (mkF m 72 #[.val (.int vi0), .val (.int ((vi0 &&& (2147483647 : Int32)) % (5 : Int32))), .val (.ref w_CHANGE_IN_CONTROL), .val (.int (0 : Int32))] [(.int (0 : Int32))])) _
    refine XS.iloadN X2.here hx rfl (hb hby at_72) rfl ?_
    show Steps p.tables e below (T2.setTop (mkF m 73 #[.val (.int vi0), .val (.int ((vi0 &&& (2147483647 : Int32)) % (5 : Int32))), .val (.ref w_CHANGE_IN_CONTROL), .val (.int (0 : Int32))] [(.int (0 : Int32)), (.int (0 : Int32))])) _
    refine XS.icmpNo X2.here hx rfl (hb hby at_73) rfl (teq (rfl : (0 : Int32) = (0 : Int32))).2 ?_
    show Steps p.tables e below (T2.setTop (mkF m 76 #[.val (.int vi0), .val (.int ((vi0 &&& (2147483647 : Int32)) % (5 : Int32))), .val (.ref w_CHANGE_IN_CONTROL), .val (.int (0 : Int32))] [])) _
    refine XS.iconst X2.here hx rfl (hb hby at_76) ?_
    show Steps p.tables e below (T2.setTop (mkF m 77 #[.val (.int vi0), .val (.int ((vi0 &&& (2147483647 : Int32)) % (5 : Int32))), .val (.ref w_CHANGE_IN_CONTROL), .val (.int (0 : Int32))] [(.int (1 : Int32))])) _
    refine XS.goto X2.here hx rfl (pc0 := 77) (pc' := 81) rfl (hb hby at_77) (by decide) (by decide) ?_
    show Steps p.tables e below (T2.setTop (mkF m 81 #[.val (.int vi0), .val (.int ((vi0 &&& (2147483647 : Int32)) % (5 : Int32))), .val (.ref w_CHANGE_IN_CONTROL), .val (.int (0 : Int32))] [(.int (1 : Int32))])) _
    exact retN X2 hx (t := .boolean) Bd.returns (by simp) (hb hby at_81) hr
  · show Q0_ttttf Z vi0 w_CHANGE_IN_CONTROL w_event_w_CHANGE_IN_CONTROL h0 n0 _ T2.heap _
    rw [e2]
    exact ⟨rfl, N2⟩
set_option maxRecDepth 65536 in
theorem rmL (l : Launch) (Z : State) (a0 : Array Value) (hw : ∀ d ∈ tables_1, d.before a0 Z = true) (ws : List Jvm.Cond) (vi0 : Int32) (w_DEFERRAL : Addr) (w_COMPENSATION : Addr) (w_SEPARATION : Addr) (w_event_w_SEPARATION : Addr) (w_DEATH : Addr) (w_event_w_DEATH : Addr) (w_CHANGE_IN_CONTROL : Addr) (w_event_w_CHANGE_IN_CONTROL : Addr) (h0 : Heap) (n0 : Nat) (Z0 : n0 ≤ h0.size) (S_DEFERRAL : Sta Z Z.heap "com/example/deferra/deferra/book/Posting$Kind" "DEFERRAL" "Lcom/example/deferra/deferra/book/Posting$Kind;" (.ref w_DEFERRAL)) (O0 : Old Z n0 h0) (E_w_DEFERRAL : Exa Z Z.heap w_DEFERRAL "com/example/deferra/deferra/book/Posting$Kind") (F_event_w_DEFERRAL : Fld Z h0 w_DEFERRAL "com/example/deferra/deferra/book/Posting$Kind" "event" "Lcom/example/deferra/deferra/payment/Event;" .null) (S_COMPENSATION : Sta Z Z.heap "com/example/deferra/deferra/book/Posting$Kind" "COMPENSATION" "Lcom/example/deferra/deferra/book/Posting$Kind;" (.ref w_COMPENSATION)) (E_w_COMPENSATION : Exa Z Z.heap w_COMPENSATION "com/example/deferra/deferra/book/Posting$Kind") (F_event_w_COMPENSATION : Fld Z h0 w_COMPENSATION "com/example/deferra/deferra/book/Posting$Kind" "event" "Lcom/example/deferra/deferra/payment/Event;" .null) (S_SEPARATION : Sta Z Z.heap "com/example/deferra/deferra/book/Posting$Kind" "SEPARATION" "Lcom/example/deferra/deferra/book/Posting$Kind;" (.ref w_SEPARATION)) (E_w_SEPARATION : Exa Z Z.heap w_SEPARATION "com/example/deferra/deferra/book/Posting$Kind") (F_event_w_SEPARATION : Fld Z h0 w_SEPARATION "com/example/deferra/deferra/book/Posting$Kind" "event" "Lcom/example/deferra/deferra/payment/Event;" (.ref w_event_w_SEPARATION)) (S_DEATH : Sta Z Z.heap "com/example/deferra/deferra/book/Posting$Kind" "DEATH" "Lcom/example/deferra/deferra/book/Posting$Kind;" (.ref w_DEATH)) (E_w_DEATH : Exa Z Z.heap w_DEATH "com/example/deferra/deferra/book/Posting$Kind") (F_event_w_DEATH : Fld Z h0 w_DEATH "com/example/deferra/deferra/book/Posting$Kind" "event" "Lcom/example/deferra/deferra/payment/Event;" (.ref w_event_w_DEATH)) (S_CHANGE_IN_CONTROL : Sta Z Z.heap "com/example/deferra/deferra/book/Posting$Kind" "CHANGE_IN_CONTROL" "Lcom/example/deferra/deferra/book/Posting$Kind;" (.ref w_CHANGE_IN_CONTROL)) (E_w_CHANGE_IN_CONTROL : Exa Z Z.heap w_CHANGE_IN_CONTROL "com/example/deferra/deferra/book/Posting$Kind") (F_event_w_CHANGE_IN_CONTROL : Fld Z h0 w_CHANGE_IN_CONTROL "com/example/deferra/deferra/book/Posting$Kind" "event" "Lcom/example/deferra/deferra/payment/Event;" (.ref w_event_w_CHANGE_IN_CONTROL)) :
    MetFree l x (head1 (Jvm.Cond.code x code maxLocals ret :: ws) room_1) (fun a U => a = #[(.int vi0)] ∧ Z.Warmed39 U.vm ∧ U.heap = h0) (fun _ _ _ _ _ => True) (fun _ U o U' => ∃ v L, o = .returned v ∧ (v = some (.int (1 : Int32)) ∧ Fr n0 L) ∧ FrameEnd U o U' L room_1.cells room_1.slots) := by
  by_cases c0 : ((vi0 &&& (2147483647 : Int32)) % (5 : Int32)) = (0 : Int32)
  · exact rm0_ff l Z a0 hw ws vi0 w_DEFERRAL h0 n0 Z0 c0 S_DEFERRAL O0 E_w_DEFERRAL F_event_w_DEFERRAL
  · skip
    by_cases c1 : ((vi0 &&& (2147483647 : Int32)) % (5 : Int32)) = (1 : Int32)
    · exact rm0_tff l Z a0 hw ws vi0 w_COMPENSATION h0 n0 Z0 c0 c1 S_COMPENSATION O0 E_w_COMPENSATION F_event_w_COMPENSATION
    · skip
      by_cases c2 : ((vi0 &&& (2147483647 : Int32)) % (5 : Int32)) = (2 : Int32)
      · exact rm0_ttff l Z a0 hw ws vi0 w_SEPARATION w_event_w_SEPARATION h0 n0 Z0 c0 c1 c2 S_SEPARATION O0 E_w_SEPARATION F_event_w_SEPARATION
      · skip
        by_cases c3 : ((vi0 &&& (2147483647 : Int32)) % (5 : Int32)) = (3 : Int32)
        · exact rm0_tttff l Z a0 hw ws vi0 w_DEATH w_event_w_DEATH h0 n0 Z0 c0 c1 c2 c3 S_DEATH O0 E_w_DEATH F_event_w_DEATH
        · skip
          exact rm0_ttttf l Z a0 hw ws vi0 w_CHANGE_IN_CONTROL w_event_w_CHANGE_IN_CONTROL h0 n0 Z0 c0 c1 c2 c3 S_CHANGE_IN_CONTROL O0 E_w_CHANGE_IN_CONTROL F_event_w_CHANGE_IN_CONTROL
theorem wd_3 {Z : State} {a0 : Array Value} (hw : ∀ d ∈ tables_1, d.before a0 Z = true) : ((Jvm.Cond.laysStatic "com/example/deferra/deferra/book/Posting$Kind" "DEFERRAL" "Lcom/example/deferra/deferra/book/Posting$Kind;")).before a0 Z = true := hw _ (List.mem_of_getElem? (i := 3) rfl)
theorem wd_12 {Z : State} {a0 : Array Value} (hw : ∀ d ∈ tables_1, d.before a0 Z = true) : ((Jvm.Cond.laysStatic "com/example/deferra/deferra/book/Posting$Kind" "DEATH" "Lcom/example/deferra/deferra/book/Posting$Kind;")).before a0 Z = true := hw _ (List.mem_of_getElem? (i := 12) rfl)
theorem wd_13 {Z : State} {a0 : Array Value} (hw : ∀ d ∈ tables_1, d.before a0 Z = true) : ((Jvm.Cond.initialized "com/example/deferra/deferra/payment/Event")).before a0 Z = true := hw _ (List.mem_of_getElem? (i := 13) rfl)
theorem wd_14 {Z : State} {a0 : Array Value} (hw : ∀ d ∈ tables_1, d.before a0 Z = true) : ((Jvm.Cond.laysStatic "com/example/deferra/deferra/payment/Event" "DEATH" "Lcom/example/deferra/deferra/payment/Event;")).before a0 Z = true := hw _ (List.mem_of_getElem? (i := 14) rfl)
theorem wd_16 {Z : State} {a0 : Array Value} (hw : ∀ d ∈ tables_1, d.before a0 Z = true) : ((Jvm.Cond.laysStatic "com/example/deferra/deferra/book/Posting$Kind" "COMPENSATION" "Lcom/example/deferra/deferra/book/Posting$Kind;")).before a0 Z = true := hw _ (List.mem_of_getElem? (i := 16) rfl)
theorem wd_18 {Z : State} {a0 : Array Value} (hw : ∀ d ∈ tables_1, d.before a0 Z = true) : ((Jvm.Cond.laysStatic "com/example/deferra/deferra/book/Posting$Kind" "CHANGE_IN_CONTROL" "Lcom/example/deferra/deferra/book/Posting$Kind;")).before a0 Z = true := hw _ (List.mem_of_getElem? (i := 18) rfl)
theorem wd_19 {Z : State} {a0 : Array Value} (hw : ∀ d ∈ tables_1, d.before a0 Z = true) : ((Jvm.Cond.laysStatic "com/example/deferra/deferra/payment/Event" "CHANGE_IN_CONTROL" "Lcom/example/deferra/deferra/payment/Event;")).before a0 Z = true := hw _ (List.mem_of_getElem? (i := 19) rfl)
theorem wd_21 {Z : State} {a0 : Array Value} (hw : ∀ d ∈ tables_1, d.before a0 Z = true) : ((Jvm.Cond.laysStatic "com/example/deferra/deferra/book/Posting$Kind" "SEPARATION" "Lcom/example/deferra/deferra/book/Posting$Kind;")).before a0 Z = true := hw _ (List.mem_of_getElem? (i := 21) rfl)
theorem wd_22 {Z : State} {a0 : Array Value} (hw : ∀ d ∈ tables_1, d.before a0 Z = true) : ((Jvm.Cond.laysStatic "com/example/deferra/deferra/payment/Event" "SEPARATION" "Lcom/example/deferra/deferra/payment/Event;")).before a0 Z = true := hw _ (List.mem_of_getElem? (i := 22) rfl)
set_option maxRecDepth 65536 in
set_option maxHeartbeats 40000000 in
theorem comes_1 {Post : Tables → Env → Array Value → State → Outcome → State → Prop} (hpost : ∀ tb e args s v u, (limb_1_1.after args s (.returned v) u = true ∧ limb_1_2.after args s (.returned v) u = true ∧ True) → FrameEnd s (.returned v) u (Jvm.fieldLocs frame_1_writes args s ++ Jvm.arrayLocs frame_1_arrays args s ++ Jvm.staticLocs frame_1_statics s) 0 0 → Post tb e args s (.returned v) u) :
    ArmFor flags0 classFile x code maxLocals ret World_1 tables_1 room_1 Calls_1 rest_1 Pre_1 Post := by
  intro l hfl _ _ p e ha hc hk s m args below hf hA hF happ hP
  obtain ⟨hcalls, hrest, hpre⟩ := hP
  obtain ⟨-, -, -, hnamed, -, -, -, hat⟩ := (Spec.applies_iff hf).mp happ
  obtain ⟨hg, hn⟩ := and_e (Cond.before_iff.mp (show (Jvm.Cond.and given_1 narrow_1).before args s = true from hpre))
  obtain ⟨gc, hg⟩ := and_e hg
  have ga0 := hg
  obtain ⟨w0, rfl⟩ : ∃ w0 : Value, args = #[w0] := by
    have hs : args.size = 1 := by simpa [Cond.value, given_1] using gc
    obtain ⟨L⟩ := args
    match L, hs with
    | [w0], _ => exact ⟨w0, rfl⟩
  have hw := fun d (hd : d ∈ tables_1) => atoms_spec (ws := Jvm.Cond.code x code maxLocals ret :: tables_1) hat d (List.mem_cons_of_mem _ hd)
  obtain ⟨i0, ei0⟩ := is_v ga0
  obtain rfl : w0 = (.int i0) := Option.some.inj ei0
  obtain ⟨h_0, hn⟩ := and_e hn
  obtain ⟨h_1, hn⟩ := and_e hn
  obtain ⟨h_2, hn⟩ := and_e hn
  obtain ⟨h_3, hn⟩ := and_e hn
  obtain ⟨h_4, hn⟩ := and_e hn
  obtain ⟨h_5, hn⟩ := and_e hn
  obtain ⟨h_6, hn⟩ := and_e hn
  obtain ⟨h_7, hn⟩ := and_e hn
  obtain ⟨h_8, hn⟩ := and_e hn
  obtain ⟨h_9, hn⟩ := and_e hn
  obtain ⟨h_10, hn⟩ := and_e hn
  obtain ⟨h_11, hn⟩ := and_e hn
  have h_12 := hn
  obtain ⟨a_DEFERRAL, e_DEFERRAL⟩ := exa_v h_0
  have S_DEFERRAL : Sta s s.heap "com/example/deferra/deferra/book/Posting$Kind" "DEFERRAL" "Lcom/example/deferra/deferra/book/Posting$Kind;" (.ref a_DEFERRAL) := Sta.start e_DEFERRAL (Or.inr ⟨(wd_2 hw), (wd_3 hw)⟩)
  have E_DEFERRAL : Exa s s.heap a_DEFERRAL "com/example/deferra/deferra/book/Posting$Kind" := Exa.start e_DEFERRAL h_0
  obtain ⟨a_DEATH, e_DEATH⟩ := exa_v h_2
  have S_DEATH : Sta s s.heap "com/example/deferra/deferra/book/Posting$Kind" "DEATH" "Lcom/example/deferra/deferra/book/Posting$Kind;" (.ref a_DEATH) := Sta.start e_DEATH (Or.inr ⟨(wd_2 hw), (wd_12 hw)⟩)
  have E_DEATH : Exa s s.heap a_DEATH "com/example/deferra/deferra/book/Posting$Kind" := Exa.start e_DEATH h_2
  obtain ⟨a_DEATH_3, e_DEATH_3⟩ := exa_v h_3
  have S_DEATH_3 : Sta s s.heap "com/example/deferra/deferra/payment/Event" "DEATH" "Lcom/example/deferra/deferra/payment/Event;" (.ref a_DEATH_3) := Sta.start e_DEATH_3 (Or.inr ⟨(wd_13 hw), (wd_14 hw)⟩)
  have E_DEATH_3 : Exa s s.heap a_DEATH_3 "com/example/deferra/deferra/payment/Event" := Exa.start e_DEATH_3 h_3
  obtain ⟨a_COMPENSATION, e_COMPENSATION⟩ := exa_v h_5
  have S_COMPENSATION : Sta s s.heap "com/example/deferra/deferra/book/Posting$Kind" "COMPENSATION" "Lcom/example/deferra/deferra/book/Posting$Kind;" (.ref a_COMPENSATION) := Sta.start e_COMPENSATION (Or.inr ⟨(wd_2 hw), (wd_16 hw)⟩)
  have E_COMPENSATION : Exa s s.heap a_COMPENSATION "com/example/deferra/deferra/book/Posting$Kind" := Exa.start e_COMPENSATION h_5
  obtain ⟨a_CHANGE_IN_CONTROL, e_CHANGE_IN_CONTROL⟩ := exa_v h_7
  have S_CHANGE_IN_CONTROL : Sta s s.heap "com/example/deferra/deferra/book/Posting$Kind" "CHANGE_IN_CONTROL" "Lcom/example/deferra/deferra/book/Posting$Kind;" (.ref a_CHANGE_IN_CONTROL) := Sta.start e_CHANGE_IN_CONTROL (Or.inr ⟨(wd_2 hw), (wd_18 hw)⟩)
  have E_CHANGE_IN_CONTROL : Exa s s.heap a_CHANGE_IN_CONTROL "com/example/deferra/deferra/book/Posting$Kind" := Exa.start e_CHANGE_IN_CONTROL h_7
  obtain ⟨a_CHANGE_IN_CONTROL_8, e_CHANGE_IN_CONTROL_8⟩ := exa_v h_8
  have S_CHANGE_IN_CONTROL_8 : Sta s s.heap "com/example/deferra/deferra/payment/Event" "CHANGE_IN_CONTROL" "Lcom/example/deferra/deferra/payment/Event;" (.ref a_CHANGE_IN_CONTROL_8) := Sta.start e_CHANGE_IN_CONTROL_8 (Or.inr ⟨(wd_13 hw), (wd_19 hw)⟩)
  have E_CHANGE_IN_CONTROL_8 : Exa s s.heap a_CHANGE_IN_CONTROL_8 "com/example/deferra/deferra/payment/Event" := Exa.start e_CHANGE_IN_CONTROL_8 h_8
  obtain ⟨a_SEPARATION, e_SEPARATION⟩ := exa_v h_10
  have S_SEPARATION : Sta s s.heap "com/example/deferra/deferra/book/Posting$Kind" "SEPARATION" "Lcom/example/deferra/deferra/book/Posting$Kind;" (.ref a_SEPARATION) := Sta.start e_SEPARATION (Or.inr ⟨(wd_2 hw), (wd_21 hw)⟩)
  have E_SEPARATION : Exa s s.heap a_SEPARATION "com/example/deferra/deferra/book/Posting$Kind" := Exa.start e_SEPARATION h_10
  obtain ⟨a_SEPARATION_11, e_SEPARATION_11⟩ := exa_v h_11
  have S_SEPARATION_11 : Sta s s.heap "com/example/deferra/deferra/payment/Event" "SEPARATION" "Lcom/example/deferra/deferra/payment/Event;" (.ref a_SEPARATION_11) := Sta.start e_SEPARATION_11 (Or.inr ⟨(wd_13 hw), (wd_22 hw)⟩)
  have E_SEPARATION_11 : Exa s s.heap a_SEPARATION_11 "com/example/deferra/deferra/payment/Event" := Exa.start e_SEPARATION_11 h_11
  have F_event_DEFERRAL : Fld s s.heap a_DEFERRAL "com/example/deferra/deferra/book/Posting$Kind" "event" "Lcom/example/deferra/deferra/payment/Event;" .null := own_fnull e_DEFERRAL h_1
  have F_event_DEATH : Fld s s.heap a_DEATH "com/example/deferra/deferra/book/Posting$Kind" "event" "Lcom/example/deferra/deferra/payment/Event;" (.ref a_DEATH_3) := own_fref e_DEATH e_DEATH_3 h_4
  have F_event_COMPENSATION : Fld s s.heap a_COMPENSATION "com/example/deferra/deferra/book/Posting$Kind" "event" "Lcom/example/deferra/deferra/payment/Event;" .null := own_fnull e_COMPENSATION h_6
  have F_event_CHANGE_IN_CONTROL : Fld s s.heap a_CHANGE_IN_CONTROL "com/example/deferra/deferra/book/Posting$Kind" "event" "Lcom/example/deferra/deferra/payment/Event;" (.ref a_CHANGE_IN_CONTROL_8) := own_fref e_CHANGE_IN_CONTROL e_CHANGE_IN_CONTROL_8 h_9
  have F_event_SEPARATION : Fld s s.heap a_SEPARATION "com/example/deferra/deferra/book/Posting$Kind" "event" "Lcom/example/deferra/deferra/payment/Event;" (.ref a_SEPARATION_11) := own_fref e_SEPARATION e_SEPARATION_11 h_12
  obtain ⟨n, o, h1, h2, h3, _, L, rfl, ⟨rfl, N⟩, hq⟩ := rmL l s _ hw tables_1 i0 a_DEFERRAL a_COMPENSATION a_SEPARATION a_SEPARATION_11 a_DEATH a_DEATH_3 a_CHANGE_IN_CONTROL a_CHANGE_IN_CONTROL_8 s.heap s.heap.size (Nat.le_refl _) S_DEFERRAL (Old.start s) E_DEFERRAL F_event_DEFERRAL S_COMPENSATION E_COMPENSATION F_event_COMPENSATION S_SEPARATION E_SEPARATION F_event_SEPARATION S_DEATH E_DEATH F_event_DEATH S_CHANGE_IN_CONTROL E_CHANGE_IN_CONTROL F_event_CHANGE_IN_CONTROL p e ha hc hk s m _ below hf ((Spec.applies_iff_loose hf).mp happ).1 ⟨rfl, State.Warmed39.refl s, rfl⟩ trivial
  refine ⟨n, _, h1, h2, h3, hpost _ _ _ _ _ _ ⟨Cond.after_iff.mpr rfl, Cond.after_iff.mpr (eq_i res_at (Term.int_eval (1)) rfl), trivial⟩ ⟨hq.1, hq.2.1, (hq.2.2.sift fun y hy => Or.inr (N y hy)).mono (by decide) (by decide)⟩⟩
theorem main_1_1 : Claimed_1_1 := comes_1 fun _ _ _ _ _ _ h hF => ⟨h.1, hF⟩
theorem main_1_2 : Claimed_1_2 := comes_1 fun _ _ _ _ _ _ h hF => ⟨h.2.1, hF⟩
end Jvm.Pilot.@@N@@
namespace Jvm.Pilot.@@N@@
open Jvm Jvm.ClassFile Sem Op Lib Jvm.Free Jvm.Stand Jvm.Pilot.@@N@@.Jvm.D
/-! MADE BY PROGRAM (witnessworld.py) out of the Statement's table words and the real class files: 12 classes; the members and pool entries that the words name. The judged class is class 1, her method 1. -/
namespace start1
open Jvm.ClassFile
def u (s : String) : CpInfo := .utf8 (stringToUtf16 s)
/-- a pool by its gaps: so many unusable entries, then the entry; so many at the end -/
def gap : Nat → List CpInfo → List CpInfo
  | 0, r => r
  | n + 1, r => .unusable :: gap n r
def poolList (es : List (Nat × CpInfo)) (last : Nat) : List CpInfo := es.foldr (fun e r => gap e.1 (e.2 :: r)) (gap last [])
def pool (es : List (Nat × CpInfo)) (last : Nat) : Array CpInfo := ⟨poolList es last⟩
def fileOf (pool : Array CpInfo) (this : Nat) (attrs : Array Attribute := #[]) (ms : Array MethodInfo := #[]) (fl : Nat := 33) (sup : Nat := 0) (ifs : Array Nat := #[]) (fds : Array FieldInfo := #[]) : ClassFile where
  minorVersion := 0
  majorVersion := 65
  constantPool := pool
  accessFlags := fl
  thisClass := this
  superClass := sup
  interfaces := ifs
  fields := fds
  methods := ms
  attributes := attrs
def plain (name : String) (sup : Option ClassId) : Class where
  name := name
  kind := .ordinary
  loader := none
  accessFlags := 33
  super := sup
  interfaces := #[]
  cf := none
  fields := #[]
  methods := #[]
  instanceTypes := #[]
  staticTypes := #[]
  resolved := #[]
  callSites := []
  init := .initialized
  statics := none
  mirror := none

def pool0 : Array CpInfo := pool [(5, u "<init>"), (0, u "()V"), (1, .class_ 10), (1, u "java/lang/Object")] 113

def k0m0 : Method := { name := "<init>", desc := "()V", sig := { parameters := [], returnType := none }, accessFlags := 1, code := none }
/-- java/lang/Object -/
def k0 : Class := { plain "java/lang/Object" none with
  accessFlags := 33
  interfaces := #[]
  cf := some (fileOf pool0 8 #[] #[{ accessFlags := 1, nameIndex := 5, descriptorIndex := 6, attributes := #[] }] 33 0 #[] #[])
  fields := #[]
  methods := #[k0m0]
  instanceTypes := #[]
  staticTypes := #[]
  resolved := Array.replicate 124 none
  statics := none }

def pool1 : Array CpInfo := pool [(2, .class_ 4), (1, u "java/lang/Object"), (0, u "<init>"), (0, u "()V"), (0, .integer 2147483647), (0, .fieldref 9 10), (0, .class_ 11), (0, .nameAndType 12 13), (0, u "com/example/deferra/deferra/book/Posting$Kind"), (0, u "DEFERRAL"), (0, u "Lcom/example/deferra/deferra/book/Posting$Kind;"), (0, .fieldref 9 15), (0, .nameAndType 16 13), (0, u "COMPENSATION"), (0, .fieldref 9 18), (0, .nameAndType 19 13), (0, u "SEPARATION"), (0, .fieldref 9 21), (0, .nameAndType 22 13), (0, u "DEATH"), (0, .fieldref 9 24), (0, .nameAndType 25 13), (0, u "CHANGE_IN_CONTROL"), (0, .methodref 9 27), (0, .nameAndType 28 29), (0, u "carriesAmount"), (0, u "()Z"), (0, .class_ 31), (0, u "com/example/deferra/deferra/book/KindCarriesAmountPinLaw"), (2, u "law"), (0, u "(I)Z")] 7

def k1m0 : Method := { name := "<init>", desc := "()V", sig := { parameters := [], returnType := none }, accessFlags := 2, code := none }
def k1c1 : Code := { maxStack := 2, maxLocals := 4, code := code, exceptionTable := #[], attributes := #[] }
def k1m1 : Method := { name := "law", desc := "(I)Z", sig := { parameters := [.int], returnType := some .boolean }, accessFlags := 9, code := some k1c1 }
/-- com/example/deferra/deferra/book/KindCarriesAmountPinLaw -/
def k1 : Class := { plain "com/example/deferra/deferra/book/KindCarriesAmountPinLaw" (some 0) with
  accessFlags := 49
  interfaces := #[]
  cf := some (fileOf pool1 30 #[] #[{ accessFlags := 2, nameIndex := 5, descriptorIndex := 6, attributes := #[] }, { accessFlags := 9, nameIndex := 34, descriptorIndex := 35, attributes := #[] }] 49 2 #[] #[])
  fields := #[]
  methods := #[k1m0, k1m1]
  instanceTypes := #[]
  staticTypes := #[]
  resolved := Array.replicate 43 none
  statics := none }

def pool2 : Array CpInfo := pool [(1, .class_ 2), (0, u "java/lang/constant/Constable"), (0, .class_ 4), (0, u "java/lang/Object")] 6

/-- java/lang/constant/Constable -/
def k2 : Class := { plain "java/lang/constant/Constable" (some 0) with
  accessFlags := 1537
  interfaces := #[]
  cf := some (fileOf pool2 1 #[] #[] 1537 3 #[] #[])
  fields := #[]
  methods := #[]
  instanceTypes := #[]
  staticTypes := #[]
  resolved := Array.replicate 11 none
  statics := none }

def pool3 : Array CpInfo := pool [(1, .class_ 2), (0, u "java/lang/Comparable"), (0, .class_ 4), (0, u "java/lang/Object")] 7

/-- java/lang/Comparable -/
def k3 : Class := { plain "java/lang/Comparable" (some 0) with
  accessFlags := 1537
  interfaces := #[]
  cf := some (fileOf pool3 1 #[] #[] 1537 3 #[] #[])
  fields := #[]
  methods := #[]
  instanceTypes := #[]
  staticTypes := #[]
  resolved := Array.replicate 12 none
  statics := none }

def pool4 : Array CpInfo := pool [(1, .class_ 2), (0, u "java/io/Serializable"), (0, .class_ 4), (0, u "java/lang/Object")] 2

/-- java/io/Serializable -/
def k4 : Class := { plain "java/io/Serializable" (some 0) with
  accessFlags := 1537
  interfaces := #[]
  cf := some (fileOf pool4 1 #[] #[] 1537 3 #[] #[])
  fields := #[]
  methods := #[]
  instanceTypes := #[]
  staticTypes := #[]
  resolved := Array.replicate 7 none
  statics := none }

def pool5 : Array CpInfo := pool [(2, .class_ 4), (1, u "java/lang/Enum"), (0, u "name"), (0, u "Ljava/lang/String;"), (2, u "ordinal"), (0, u "I"), (1, .class_ 14), (1, u "java/lang/Object"), (4, u "hash"), (86, .class_ 108), (1, u "java/lang/Enum$EnumDesc"), (2, .class_ 112), (0, u "java/lang/constant/Constable"), (0, .class_ 114), (0, u "java/lang/Comparable"), (0, .class_ 116), (0, u "java/io/Serializable")] 87

/-- java/lang/Enum -/
def k5 : Class := { plain "java/lang/Enum" (some 0) with
  accessFlags := 1057
  interfaces := #[2, 3, 4]
  cf := some (fileOf pool5 2 #[.nestMembers #[106]] #[] 1057 12 #[111, 113, 115] #[{ accessFlags := 18, nameIndex := 5, descriptorIndex := 6, attributes := #[] }, { accessFlags := 18, nameIndex := 9, descriptorIndex := 10, attributes := #[] }, { accessFlags := 2, nameIndex := 19, descriptorIndex := 10, attributes := #[] }])
  fields := #[{ name := "name", type := (.object "java/lang/String"), accessFlags := 18, slot := 0, constantValue := 0 }, { name := "ordinal", type := .int, accessFlags := 18, slot := 1, constantValue := 0 }, { name := "hash", type := .int, accessFlags := 2, slot := 2, constantValue := 0 }]
  methods := #[]
  instanceTypes := #[(.object "java/lang/String"), .int, .int]
  staticTypes := #[]
  resolved := Array.replicate 204 none
  statics := none }

def pool6 : Array CpInfo := pool [(9, .class_ 10), (0, u "com/example/deferra/deferra/Written"), (20, .class_ 32), (0, u "java/lang/Object")] 9

/-- com/example/deferra/deferra/Written -/
def k6 : Class := { plain "com/example/deferra/deferra/Written" (some 0) with
  accessFlags := 1537
  interfaces := #[]
  cf := some (fileOf pool6 9 #[] #[] 1537 31 #[] #[])
  fields := #[]
  methods := #[]
  instanceTypes := #[]
  staticTypes := #[]
  resolved := Array.replicate 42 none
  statics := none }

def pool7 : Array CpInfo := pool [(1, .class_ 2), (0, u "com/example/deferra/deferra/book/Posting$Kind"), (2, u "DEFERRAL"), (0, u "Lcom/example/deferra/deferra/book/Posting$Kind;"), (2, u "COMPENSATION"), (2, u "SEPARATION"), (2, u "DEATH"), (2, u "CHANGE_IN_CONTROL"), (2, u "$VALUES"), (0, u "[Lcom/example/deferra/deferra/book/Posting$Kind;"), (6, .class_ 31), (1, u "java/lang/Enum"), (8, u "written"), (0, u "Ljava/lang/String;"), (0, .fieldref 1 43), (0, .nameAndType 44 45), (0, u "event"), (0, u "Lcom/example/deferra/deferra/payment/Event;"), (36, .class_ 83), (0, u "com/example/deferra/deferra/Written"), (8, u "carriesAmount"), (0, u "()Z"), (9, .class_ 104), (0, u "com/example/deferra/deferra/book/Posting")] 2

def k7c0 : Code := { maxStack := 1, maxLocals := 1, code := prog_10_method_6_code, exceptionTable := #[], attributes := #[] }
def k7m0 : Method := { name := "carriesAmount", desc := "()Z", sig := { parameters := [], returnType := some .boolean }, accessFlags := 1, code := some k7c0 }
/-- com/example/deferra/deferra/book/Posting$Kind -/
def k7 : Class := { plain "com/example/deferra/deferra/book/Posting$Kind" (some 5) with
  accessFlags := 16433
  interfaces := #[6]
  cf := some (fileOf pool7 1 #[.nestHost 103] #[{ accessFlags := 1, nameIndex := 92, descriptorIndex := 93, attributes := #[] }] 16433 29 #[82] #[{ accessFlags := 16409, nameIndex := 5, descriptorIndex := 6, attributes := #[] }, { accessFlags := 16409, nameIndex := 9, descriptorIndex := 6, attributes := #[] }, { accessFlags := 16409, nameIndex := 12, descriptorIndex := 6, attributes := #[] }, { accessFlags := 16409, nameIndex := 15, descriptorIndex := 6, attributes := #[] }, { accessFlags := 16409, nameIndex := 18, descriptorIndex := 6, attributes := #[] }, { accessFlags := 18, nameIndex := 40, descriptorIndex := 41, attributes := #[] }, { accessFlags := 18, nameIndex := 44, descriptorIndex := 45, attributes := #[] }, { accessFlags := 4122, nameIndex := 21, descriptorIndex := 22, attributes := #[] }])
  fields := #[{ name := "DEFERRAL", type := (.object "com/example/deferra/deferra/book/Posting$Kind"), accessFlags := 16409, slot := 0, constantValue := 0 }, { name := "COMPENSATION", type := (.object "com/example/deferra/deferra/book/Posting$Kind"), accessFlags := 16409, slot := 1, constantValue := 0 }, { name := "SEPARATION", type := (.object "com/example/deferra/deferra/book/Posting$Kind"), accessFlags := 16409, slot := 2, constantValue := 0 }, { name := "DEATH", type := (.object "com/example/deferra/deferra/book/Posting$Kind"), accessFlags := 16409, slot := 3, constantValue := 0 }, { name := "CHANGE_IN_CONTROL", type := (.object "com/example/deferra/deferra/book/Posting$Kind"), accessFlags := 16409, slot := 4, constantValue := 0 }, { name := "written", type := (.object "java/lang/String"), accessFlags := 18, slot := 3, constantValue := 0 }, { name := "event", type := (.object "com/example/deferra/deferra/payment/Event"), accessFlags := 18, slot := 4, constantValue := 0 }, { name := "$VALUES", type := (.array (.object "com/example/deferra/deferra/book/Posting$Kind")), accessFlags := 4122, slot := 5, constantValue := 0 }]
  methods := #[k7m0]
  instanceTypes := #[(.object "java/lang/String"), .int, .int, (.object "java/lang/String"), (.object "com/example/deferra/deferra/payment/Event")]
  staticTypes := #[(.object "com/example/deferra/deferra/book/Posting$Kind"), (.object "com/example/deferra/deferra/book/Posting$Kind"), (.object "com/example/deferra/deferra/book/Posting$Kind"), (.object "com/example/deferra/deferra/book/Posting$Kind"), (.object "com/example/deferra/deferra/book/Posting$Kind"), (.array (.object "com/example/deferra/deferra/book/Posting$Kind"))]
  resolved := Array.replicate 107 none
  statics := some 0 }

def pool8 : Array CpInfo := pool [(1, .class_ 2), (0, u "com/example/deferra/deferra/payment/Event"), (2, u "SEPARATION"), (0, u "Lcom/example/deferra/deferra/payment/Event;"), (2, u "DEATH"), (2, u "CHANGE_IN_CONTROL"), (2, u "$VALUES"), (0, u "[Lcom/example/deferra/deferra/payment/Event;"), (6, .class_ 25), (1, u "java/lang/Enum"), (8, u "written"), (0, u "Ljava/lang/String;"), (2, u "planWide"), (0, u "Z"), (16, .class_ 57), (0, u "com/example/deferra/deferra/Written")] 15

/-- com/example/deferra/deferra/payment/Event -/
def k8 : Class := { plain "com/example/deferra/deferra/payment/Event" (some 5) with
  accessFlags := 16433
  interfaces := #[6]
  cf := some (fileOf pool8 1 #[] #[] 16433 23 #[56] #[{ accessFlags := 16409, nameIndex := 5, descriptorIndex := 6, attributes := #[] }, { accessFlags := 16409, nameIndex := 9, descriptorIndex := 6, attributes := #[] }, { accessFlags := 16409, nameIndex := 12, descriptorIndex := 6, attributes := #[] }, { accessFlags := 18, nameIndex := 34, descriptorIndex := 35, attributes := #[] }, { accessFlags := 18, nameIndex := 38, descriptorIndex := 39, attributes := #[] }, { accessFlags := 4122, nameIndex := 15, descriptorIndex := 16, attributes := #[] }])
  fields := #[{ name := "SEPARATION", type := (.object "com/example/deferra/deferra/payment/Event"), accessFlags := 16409, slot := 0, constantValue := 0 }, { name := "DEATH", type := (.object "com/example/deferra/deferra/payment/Event"), accessFlags := 16409, slot := 1, constantValue := 0 }, { name := "CHANGE_IN_CONTROL", type := (.object "com/example/deferra/deferra/payment/Event"), accessFlags := 16409, slot := 2, constantValue := 0 }, { name := "written", type := (.object "java/lang/String"), accessFlags := 18, slot := 3, constantValue := 0 }, { name := "planWide", type := .boolean, accessFlags := 18, slot := 4, constantValue := 0 }, { name := "$VALUES", type := (.array (.object "com/example/deferra/deferra/payment/Event")), accessFlags := 4122, slot := 3, constantValue := 0 }]
  methods := #[]
  instanceTypes := #[(.object "java/lang/String"), .int, .int, (.object "java/lang/String"), .boolean]
  staticTypes := #[(.object "com/example/deferra/deferra/payment/Event"), (.object "com/example/deferra/deferra/payment/Event"), (.object "com/example/deferra/deferra/payment/Event"), (.array (.object "com/example/deferra/deferra/payment/Event"))]
  resolved := Array.replicate 73 none
  statics := some 1 }

def pool9 : Array CpInfo := pool [(1, u "java/lang/Cloneable"), (0, .class_ 1), (0, u "java/lang/Object"), (0, .class_ 3)] 3

/-- java/lang/Cloneable -/
def k9 : Class := { plain "java/lang/Cloneable" (some 0) with
  accessFlags := 1537
  interfaces := #[]
  cf := some (fileOf pool9 2 #[] #[] 1537 4 #[] #[])
  fields := #[]
  methods := #[]
  instanceTypes := #[]
  staticTypes := #[]
  resolved := Array.replicate 8 none
  statics := none }

/-- the primitive byte -/
def k10 : Class := { plain "byte" none with kind := .primitive 'B', accessFlags := 0x411 }
/-- [B -/
def k11 : Class := { plain "[B" (some 0) with kind := .array 10 .byte, interfaces := #[9, 4], accessFlags := 1041 }

def heap : Heap := #[{ cls := 7, slots := #[.ref 2, .ref 3, .ref 4, .ref 5, .ref 6, .null], vm := .statics 7 },
  { cls := 8, slots := #[.ref 7, .ref 8, .ref 9, .null], vm := .statics 8 },
  { cls := 7, slots := #[.null, .int 0, .int 0, .null, .null], vm := .none },
  { cls := 7, slots := #[.null, .int 1, .int 0, .null, .null], vm := .none },
  { cls := 7, slots := #[.null, .int 2, .int 0, .null, .ref 7], vm := .none },
  { cls := 7, slots := #[.null, .int 3, .int 0, .null, .ref 8], vm := .none },
  { cls := 7, slots := #[.null, .int 4, .int 0, .null, .ref 9], vm := .none },
  { cls := 8, slots := #[.null, .int 0, .int 0, .null, .int 0], vm := .none },
  { cls := 8, slots := #[.null, .int 1, .int 0, .null, .int 0], vm := .none },
  { cls := 8, slots := #[.null, .int 2, .int 0, .null, .int 0], vm := .none }]
def classes : Array Class := #[k0, k1, k2, k3, k4, k5, k6, k7, k8, k9, k10, k11]
def interned : List (Array UInt16 × Addr) := []
def slotsUsed : Nat := 50
def theMethod : MethodId := ⟨1, 1⟩
def args0 : Array Value := #[.int 5]
def aboutOver (below : List Frame) : State where
  vm := { classes := classes, interned := interned.toArray }
  heap := heap
  slotsUsed := slotsUsed
  threads := #[{ frames := .invoking theMethod args0 :: below }]
def below0 : List Frame := [.native { method := ⟨0, 0⟩, args := #[] }]
def about1 : State := aboutOver below0
def p0 : Program := .bare "" "" ""
def e0 : Env := launch0.env 0 0 0
theorem w_frames : about1.frames = Frame.invoking theMethod args0 :: below0 := rfl
set_option maxRecDepth 65536 in
theorem w_args : argsFit about1.vm theMethod args0 = true := by decide +kernel
set_option maxRecDepth 65536 in
theorem w_heap : heapFits about1 = true := by decide +kernel
set_option maxRecDepth 65536 in
theorem w_runnable : about1.curStatus? = some .runnable := by decide +kernel
set_option maxRecDepth 65536 in
theorem w_alone : about1.alone = true := by decide +kernel
set_option maxRecDepth 65536 in
theorem w_named : about1.methodNamed? x = some theMethod := by decide +kernel
set_option maxRecDepth 65536 in
theorem w_hears : about1.hears theMethod below0 = true := by decide +kernel
set_option maxRecDepth 65536 in
theorem w_ripe : about1.ripe theMethod args0 below0 = true := by decide +kernel
theorem w_running : about1.status = .running := rfl
set_option maxRecDepth 65536 in
theorem w_room : about1.hasRoom e0.platform room_1 = true :=
  launch0.hasRoom_least _ room_1 (by decide +kernel) (by decide +kernel) (by decide +kernel) (by decide +kernel) (by decide +kernel) (by decide +kernel)
theorem allAtoms_all (ts : List Jvm.Cond) (a : Array Jvm.Value) (st : Jvm.State) : (allAtoms ts).before a st = ts.all (fun c => c.before a st) := by
  induction ts with
  | nil => rfl
  | cons c t ih =>
    show (Jvm.Cond.and c (allAtoms t)).before a st = _
    rw [Jvm.Cond.before_and, ih, List.all_cons]
def words1 : List Jvm.Cond := Jvm.Cond.code x code maxLocals ret :: tables_1
/-- a 'code' word, met by the world's own term for the bytes: nothing is compared byte by byte -/
theorem code_word {y : MethodName} {bytes : ByteArray} {mx : Nat} {rt : Option FieldType} {a : Array Value} {s : State} {m : MethodId} {meth : Method} {c : Code} (h1 : s.methodNamed? y = some m) (h2 : s.vm.method? m = some meth) (h3 : meth.code = some c) (h4 : c.code = bytes)
    (h5 : (c.maxLocals == mx && c.exceptionTable.isEmpty && decide (c.maxStack ≤ mostOperands) && decide (meth.sig.returnType = rt) && !meth.locks && decide (parseMethodDescriptor y.desc = some meth.sig)) = true) : (Jvm.Cond.code y bytes mx rt).before a s = true := by
  simp only [Bool.and_eq_true, beq_iff_eq, Bool.not_eq_true', decide_eq_true_eq] at h5
  obtain ⟨⟨⟨⟨⟨g1, g2⟩, g3⟩, g4⟩, g5⟩, g6⟩ := h5
  simp [Cond.before, Cond.holds, Cond.value, h1, h2, h3, h4, g1, g2, g3, g4, g5, g6]
def isCode : Jvm.Cond → Bool
  | .code _ _ _ _ => true
  | _ => false
theorem all_split {L : List Jvm.Cond} {P : Jvm.Cond → Bool} (h1 : L.all (fun c => isCode c || P c) = true) (h2 : ∀ c ∈ L.filter isCode, P c = true) : L.all P = true := by
  refine List.all_eq_true.mpr fun c hc => ?_
  have h := List.all_eq_true.mp h1 c hc
  rcases Bool.eq_false_or_eq_true (isCode c) with hi | hi
  · exact h2 c (List.mem_filter.mpr ⟨hc, hi⟩)
  · simpa [hi] using h
set_option maxRecDepth 65536 in
theorem w_c0 : (Jvm.Cond.code x code maxLocals ret).before args0 about1 = true := code_word (m := ⟨1, 1⟩) (meth := k1m1) (c := k1c1) (by decide +kernel) rfl rfl rfl (by decide +kernel)
set_option maxRecDepth 65536 in
theorem w_c1 : (Jvm.Cond.code ({ cls := "com/example/deferra/deferra/book/Posting$Kind", name := "carriesAmount", desc := "()Z" } : Jvm.MethodName) prog_10_method_6_code (1 : Nat) (Option.some Jvm.ClassFile.FieldType.boolean)).before args0 about1 = true := code_word (m := ⟨7, 0⟩) (meth := k7m0) (c := k7c0) (by decide +kernel) rfl rfl rfl (by decide +kernel)
def codes1 : List Jvm.Cond := [Jvm.Cond.code x code maxLocals ret, Jvm.Cond.code ({ cls := "com/example/deferra/deferra/book/Posting$Kind", name := "carriesAmount", desc := "()Z" } : Jvm.MethodName) prog_10_method_6_code (1 : Nat) (Option.some Jvm.ClassFile.FieldType.boolean)]
set_option maxRecDepth 65536 in
theorem codes_eq : words1.filter isCode = codes1 := rfl
theorem w_codes : ∀ c ∈ words1.filter isCode, c.before args0 about1 = true := by
  rw [codes_eq]
  intro c hc
  simp only [codes1, List.mem_cons, List.not_mem_nil, or_false] at hc
  rcases hc with rfl | rfl
  · exact w_c0
  · exact w_c1
set_option maxRecDepth 65536 in
theorem w_t1 : words1.all (fun c => isCode c || c.before args0 about1) = true := by decide +kernel
theorem w_tables : (allAtoms (Jvm.Cond.code x code maxLocals ret :: tables_1)).before args0 about1 = true := by
  rw [allAtoms_all]
  show words1.all (fun c => c.before args0 about1) = true
  refine all_split ?_ w_codes
  rw [w_t1]
set_option maxRecDepth 65536 in
theorem w_case : (Jvm.Cond.and given_1 narrow_1).before args0 about1 = true := by decide +kernel
theorem w_applies : (headSpec (Jvm.Cond.code x code maxLocals ret :: tables_1) room_1).applies x e0.platform about1 = true :=
  (Spec.applies_iff w_frames).mpr ⟨w_running, w_runnable, w_alone, w_named, w_hears, w_ripe, w_room, w_tables⟩
theorem atStart : AtStart classFile x code maxLocals ret World_1 tables_1 room_1 Calls_1 rest_1 Pre_1 launch0 p0 e0 about1 theMethod args0 below0 :=
  ⟨lists_1, trivial, launch0.admits_env _ _ _, launch0.least_env, fairChoices_fair.cas, fairChoices_fair.clock, w_frames, w_args, w_heap, w_applies, trivial, trivial, w_case⟩
end start1
theorem witness_1 : WitnessClaimed_1 := ⟨start1.p0, start1.e0, start1.about1, start1.theMethod, start1.args0, start1.below0, start1.atStart⟩
end Jvm.Pilot.@@N@@
