import JvmDerived
import JvmDerived.Pilot.@@N@@Statement
import JvmDerived.Pilot.@@N@@Code
set_option linter.unusedVariables false
set_option linter.unusedSimpArgs false
namespace Jvm.RoadKit
open Sem ClassFile Op Lib Jvm.Stand Jvm.Free Jvm.LawKit
section New
variable {p : Program} {l : Launch} {e : Env} {R : Room} {s : State} {m : MethodId} {args : Array Value} {below : List Frame} {meth : Method} {c : Code} {T : State} {locs : List Loc} {cells slots : Nat}
theorem retI (X : Stand p l e R s m args below meth c T locs cells slots) (hx : p.tables.exec = Jvm.exec) {pc : Nat} {Ls : Array Slot} {z : Int32} {rest : List Value} (hret : meth.sig.returnType = some .int) (hd : decode c.code pc = .ok (.ireturn, 1)) {fs : List Frame}
    (hl : ∀ (f : JFrame) (acts : List Action), f.method = m → f.locked = none → f.entered = [] → (doReturn e (T.setTop f) acts (some (.int z))).1 = T.setFrames fs) : Steps p.tables e below (T.setTop (mkF m pc Ls (.int z :: rest))) (T.setFrames fs) := by
  have hm' : T.vm.method? m = some meth := X.method'
  have hn : narrow .int (.int z) = .int z := rfl
  show Steps p.tables e below (T.setTop { method := m, pc := pc, locals := Ls, stack := _ :: rest, locked := none }) _
  jvm_step X.here [X.here.top, hx, hd, hm', hret, hn]
  first | (intro acts; rw [hl _ acts rfl rfl rfl]) | rw [hl _ _ rfl rfl rfl]
  exact Steps.refl _
end New
end Jvm.RoadKit
namespace Jvm.Pilot.@@N@@
open Jvm Jvm.ClassFile Sem Op Lib Jvm.Free Jvm.Stand Jvm.LawKit Jvm.RoadKit Bundle Jvm.Pilot.@@N@@.Jvm.D
theorem d1_0 : decode prog_98_method_4_code 0 = .ok (.aload_n 0, 1) := by decide +kernel
theorem d1_1 : decode prog_98_method_4_code 1 = .ok (.getstatic 3, 3) := by decide +kernel
theorem wd_8 {Z : State} {a0 : Array Value} (hw : ∀ d ∈ tables_1, d.before a0 Z = true) : ((Jvm.Cond.fieldLink "com/example/vernacular/vernacular/Table$Kind" (3 : Nat) "com/example/vernacular/vernacular/Table$Kind" "TABLE" "Lcom/example/vernacular/vernacular/Table$Kind;")).before a0 Z = true := hw _ (List.mem_of_getElem? (i := 8) rfl)
theorem d1_4 : decode prog_98_method_4_code 4 = .ok (.if_acmp .eq 10, 3) := by decide +kernel
theorem d1_14 : decode prog_98_method_4_code 14 = .ok (.iconst 1, 1) := by decide +kernel
theorem d1_15 : decode prog_98_method_4_code 15 = .ok (.goto 4, 3) := by decide +kernel
theorem d1_19 : decode prog_98_method_4_code 19 = .ok (.ireturn, 1) := by decide +kernel
theorem pn_com_example_vernacular_vernacular_Table_Kind : plainName "com/example/vernacular/vernacular/Table$Kind" = true := by first | (simp [plainName, overriddenIn]; done) | decide +kernel
theorem ef_1_t (m : MethodId) (x0 : Addr) : entryFrame m #[(.ref x0)] 1 = mkF m 0 #[.val (.ref x0)] [] := by first | (simp [entryFrame, mkF, argsToLocals, Value.category]; done) | rfl
def Q1_t (Z : State) (vr0 : Addr) (w_TABLE : Addr) (h0 : Heap) (n0 : Nat) (v : Option Value) (h : Heap) (L : List Loc) : Prop := v = some (.int (1 : Int32)) ∧ Fr n0 L ∧ h = h0
set_option maxRecDepth 65536 in
set_option maxHeartbeats 40000000 in
theorem rm1_t (l : Launch) (Z : State) (a0 : Array Value) (hw : ∀ d ∈ tables_1, d.before a0 Z = true) (ws : List Jvm.Cond) (vr0 : Addr) (w_TABLE : Addr) (h0 : Heap) (n0 : Nat) (Z0 : n0 ≤ h0.size) (S_TABLE : Sta Z Z.heap "com/example/vernacular/vernacular/Table$Kind" "TABLE" "Lcom/example/vernacular/vernacular/Table$Kind;" (.ref w_TABLE)) (O0 : Old Z n0 h0) (ha4 : vr0 = w_TABLE) :
    MetFree l (⟨"com/example/vernacular/vernacular/Table$Kind", "isTable", "()Z"⟩ : MethodName) (head1 (Jvm.Cond.code (⟨"com/example/vernacular/vernacular/Table$Kind", "isTable", "()Z"⟩ : MethodName) prog_98_method_4_code 1 (some .boolean) :: ws) ({ frames := 0, cells := 0, slots := 0, locals := 0 } : Room)) (fun a U => a = #[(.ref vr0)] ∧ Z.Warmed39 U.vm ∧ U.heap = h0) (fun _ _ _ _ _ => True) (fun _ U o U' => ∃ v L, o = .returned v ∧ Q1_t Z vr0 w_TABLE h0 n0 v U'.heap L ∧ FrameEnd U o U' L ({ frames := 0, cells := 0, slots := 0, locals := 0 } : Room).cells ({ frames := 0, cells := 0, slots := 0, locals := 0 } : Room).slots) := by
  refine MetFree.of_bodySF (plainFor_of_name pn_com_example_vernacular_vernacular_Table_Kind) hisR ?_
  intro p e s m args below meth c s₁ Bd hml0 hP hK
  obtain ⟨rfl, hZ, hh⟩ := hP
  have hx := Bd.exec
  have hby := Bd.bytes
  have hml : c.maxLocals = 1 := hml0
  have hown : s.vm.findClass "com/example/vernacular/vernacular/Table$Kind" = some m.cls := findClass_of_methodNamed Bd.named
  have hnm := (name_of_methodNamed Bd.named Bd.method).1
  have X0 : Stand p l e ({ frames := 0, cells := 0, slots := 0, locals := 0 } : Room) s m #[(.ref vr0)] below meth c s₁ [] 0 0 := Stand.of_body Bd
  have e0 : s₁.heap = h0 := by rw [← hh, Bd.state]; rfl
  have N0 := Fr.nil n0
  have pre0 : ∀ t, Steps p.tables e below (s₁.setTop (mkF m 0 #[.val (.ref vr0)] [])) t → Steps p.tables e below (s₁.setTop (entryFrame m #[(.ref vr0)] 1)) t := fun t k => castTop (ef_1_t m vr0) k
  obtain ⟨T1, X1, e1, st1⟩ := getS2 X0 hx hZ hown (host := "") (Or.inl (wd_8 hw)) Via.refl e0 (S_TABLE.ext O0.2) (g := (mkF m 1 #[.val (.ref vr0)] [(.ref vr0)])) rfl (hb hby d1_1)
  obtain ⟨fs, hr, hrun, hended, hW, hsame⟩ := X1.leave (v := some (.int (1 : Int32))) (fun h => by rw [Bd.returns] at h; cases h)
  refine ⟨_, _, pre0 _ ?_, hrun, hended, _, _, rfl, ?_, ⟨_, rfl⟩, hW, hsame.mono (by decide) (by decide)⟩
  · show Steps p.tables e below (s₁.setTop (mkF m 0 #[.val (.ref vr0)] [])) _
    refine XS.aloadN X0.here hx rfl (hb hby d1_0) rfl rfl ?_
    show Steps p.tables e below (s₁.setTop (mkF m 1 #[.val (.ref vr0)] [(.ref vr0)])) _
    refine st1 _ ?_
    show Steps p.tables e below (T1.setTop (mkF m 4 #[.val (.ref vr0)] [(.ref w_TABLE), (.ref vr0)])) _
    refine Jvm.RoadKit.acmp (g := (mkF m 4 #[.val (.ref vr0)] [(.ref w_TABLE), (.ref vr0)])) X1 hx rfl rfl rfl (pc0 := 4) (pc' := 14) (same := true) rfl (hb hby d1_4) rfl (decide_eq_true (congrArg Value.ref ha4)) (by decide) (by decide) ?_
    show Steps p.tables e below (T1.setTop (mkF m 14 #[.val (.ref vr0)] [])) _
    refine XS.iconst X1.here hx rfl (hb hby d1_14) ?_
    show Steps p.tables e below (T1.setTop (mkF m 15 #[.val (.ref vr0)] [(.int (1 : Int32))])) _
    refine XS.goto X1.here hx rfl (pc0 := 15) (pc' := 19) rfl (hb hby d1_15) (by decide) (by decide) ?_
    show Steps p.tables e below (T1.setTop (mkF m 19 #[.val (.ref vr0)] [(.int (1 : Int32))])) _
    exact retN X1 hx (t := .boolean) Bd.returns (by simp) (hb hby d1_19) hr
  · show Q1_t Z vr0 w_TABLE h0 n0 _ T1.heap _
    rw [e1]
    exact ⟨rfl, N0, rfl⟩
theorem d1_7 : decode prog_98_method_4_code 7 = .ok (.aload_n 0, 1) := by decide +kernel
theorem d1_8 : decode prog_98_method_4_code 8 = .ok (.getstatic 7, 3) := by decide +kernel
theorem wd_11 {Z : State} {a0 : Array Value} (hw : ∀ d ∈ tables_1, d.before a0 Z = true) : ((Jvm.Cond.fieldLink "com/example/vernacular/vernacular/Table$Kind" (7 : Nat) "com/example/vernacular/vernacular/Table$Kind" "FOREIGN_TABLE" "Lcom/example/vernacular/vernacular/Table$Kind;")).before a0 Z = true := hw _ (List.mem_of_getElem? (i := 11) rfl)
theorem d1_11 : decode prog_98_method_4_code 11 = .ok (.if_acmp .ne 7, 3) := by decide +kernel
theorem ef_1_ff (m : MethodId) (x0 : Addr) : entryFrame m #[(.ref x0)] 1 = mkF m 0 #[.val (.ref x0)] [] := by first | (simp [entryFrame, mkF, argsToLocals, Value.category]; done) | rfl
def Q1_ff (Z : State) (vr0 : Addr) (w_TABLE : Addr) (w_FOREIGN_TABLE : Addr) (h0 : Heap) (n0 : Nat) (v : Option Value) (h : Heap) (L : List Loc) : Prop := v = some (.int (1 : Int32)) ∧ Fr n0 L ∧ h = h0
set_option maxRecDepth 65536 in
set_option maxHeartbeats 40000000 in
theorem rm1_ff (l : Launch) (Z : State) (a0 : Array Value) (hw : ∀ d ∈ tables_1, d.before a0 Z = true) (ws : List Jvm.Cond) (vr0 : Addr) (w_TABLE : Addr) (w_FOREIGN_TABLE : Addr) (h0 : Heap) (n0 : Nat) (Z0 : n0 ≤ h0.size) (S_TABLE : Sta Z Z.heap "com/example/vernacular/vernacular/Table$Kind" "TABLE" "Lcom/example/vernacular/vernacular/Table$Kind;" (.ref w_TABLE)) (O0 : Old Z n0 h0) (ha4 : ¬ (vr0 = w_TABLE)) (S_FOREIGN_TABLE : Sta Z Z.heap "com/example/vernacular/vernacular/Table$Kind" "FOREIGN_TABLE" "Lcom/example/vernacular/vernacular/Table$Kind;" (.ref w_FOREIGN_TABLE)) (ha11 : vr0 = w_FOREIGN_TABLE) :
    MetFree l (⟨"com/example/vernacular/vernacular/Table$Kind", "isTable", "()Z"⟩ : MethodName) (head1 (Jvm.Cond.code (⟨"com/example/vernacular/vernacular/Table$Kind", "isTable", "()Z"⟩ : MethodName) prog_98_method_4_code 1 (some .boolean) :: ws) ({ frames := 0, cells := 0, slots := 0, locals := 0 } : Room)) (fun a U => a = #[(.ref vr0)] ∧ Z.Warmed39 U.vm ∧ U.heap = h0) (fun _ _ _ _ _ => True) (fun _ U o U' => ∃ v L, o = .returned v ∧ Q1_ff Z vr0 w_TABLE w_FOREIGN_TABLE h0 n0 v U'.heap L ∧ FrameEnd U o U' L ({ frames := 0, cells := 0, slots := 0, locals := 0 } : Room).cells ({ frames := 0, cells := 0, slots := 0, locals := 0 } : Room).slots) := by
  refine MetFree.of_bodySF (plainFor_of_name pn_com_example_vernacular_vernacular_Table_Kind) hisR ?_
  intro p e s m args below meth c s₁ Bd hml0 hP hK
  obtain ⟨rfl, hZ, hh⟩ := hP
  have hx := Bd.exec
  have hby := Bd.bytes
  have hml : c.maxLocals = 1 := hml0
  have hown : s.vm.findClass "com/example/vernacular/vernacular/Table$Kind" = some m.cls := findClass_of_methodNamed Bd.named
  have hnm := (name_of_methodNamed Bd.named Bd.method).1
  have X0 : Stand p l e ({ frames := 0, cells := 0, slots := 0, locals := 0 } : Room) s m #[(.ref vr0)] below meth c s₁ [] 0 0 := Stand.of_body Bd
  have e0 : s₁.heap = h0 := by rw [← hh, Bd.state]; rfl
  have N0 := Fr.nil n0
  have pre0 : ∀ t, Steps p.tables e below (s₁.setTop (mkF m 0 #[.val (.ref vr0)] [])) t → Steps p.tables e below (s₁.setTop (entryFrame m #[(.ref vr0)] 1)) t := fun t k => castTop (ef_1_ff m vr0) k
  obtain ⟨T1, X1, e1, st1⟩ := getS2 X0 hx hZ hown (host := "") (Or.inl (wd_8 hw)) Via.refl e0 (S_TABLE.ext O0.2) (g := (mkF m 1 #[.val (.ref vr0)] [(.ref vr0)])) rfl (hb hby d1_1)
  obtain ⟨T2, X2, e2, st2⟩ := getS2 X1 hx hZ hown (host := "") (Or.inl (wd_11 hw)) Via.refl e1 (S_FOREIGN_TABLE.ext O0.2) (g := (mkF m 8 #[.val (.ref vr0)] [(.ref vr0)])) rfl (hb hby d1_8)
  obtain ⟨fs, hr, hrun, hended, hW, hsame⟩ := X2.leave (v := some (.int (1 : Int32))) (fun h => by rw [Bd.returns] at h; cases h)
  refine ⟨_, _, pre0 _ ?_, hrun, hended, _, _, rfl, ?_, ⟨_, rfl⟩, hW, hsame.mono (by decide) (by decide)⟩
  · show Steps p.tables e below (s₁.setTop (mkF m 0 #[.val (.ref vr0)] [])) _
    refine XS.aloadN X0.here hx rfl (hb hby d1_0) rfl rfl ?_
    show Steps p.tables e below (s₁.setTop (mkF m 1 #[.val (.ref vr0)] [(.ref vr0)])) _
    refine st1 _ ?_
    show Steps p.tables e below (T1.setTop (mkF m 4 #[.val (.ref vr0)] [(.ref w_TABLE), (.ref vr0)])) _
    refine Jvm.RoadKit.acmp (g := (mkF m 4 #[.val (.ref vr0)] [(.ref w_TABLE), (.ref vr0)])) X1 hx rfl rfl rfl (pc0 := 4) (pc' := 7) (same := false) rfl (hb hby d1_4) rfl (decide_eq_false fun q => ha4 (Value.ref.inj q)) (by decide) (by decide) ?_
    show Steps p.tables e below (T1.setTop (mkF m 7 #[.val (.ref vr0)] [])) _
    refine XS.aloadN X1.here hx rfl (hb hby d1_7) rfl rfl ?_
    show Steps p.tables e below (T1.setTop (mkF m 8 #[.val (.ref vr0)] [(.ref vr0)])) _
    refine st2 _ ?_
    show Steps p.tables e below (T2.setTop (mkF m 11 #[.val (.ref vr0)] [(.ref w_FOREIGN_TABLE), (.ref vr0)])) _
    refine Jvm.RoadKit.acmp (g := (mkF m 11 #[.val (.ref vr0)] [(.ref w_FOREIGN_TABLE), (.ref vr0)])) X2 hx rfl rfl rfl (pc0 := 11) (pc' := 14) (same := true) rfl (hb hby d1_11) rfl (decide_eq_true (congrArg Value.ref ha11)) (by decide) (by decide) ?_
    show Steps p.tables e below (T2.setTop (mkF m 14 #[.val (.ref vr0)] [])) _
    refine XS.iconst X2.here hx rfl (hb hby d1_14) ?_
    show Steps p.tables e below (T2.setTop (mkF m 15 #[.val (.ref vr0)] [(.int (1 : Int32))])) _
    refine XS.goto X2.here hx rfl (pc0 := 15) (pc' := 19) rfl (hb hby d1_15) (by decide) (by decide) ?_
    show Steps p.tables e below (T2.setTop (mkF m 19 #[.val (.ref vr0)] [(.int (1 : Int32))])) _
    exact retN X2 hx (t := .boolean) Bd.returns (by simp) (hb hby d1_19) hr
  · show Q1_ff Z vr0 w_TABLE w_FOREIGN_TABLE h0 n0 _ T2.heap _
    rw [e2]
    exact ⟨rfl, N0, rfl⟩
theorem d1_18 : decode prog_98_method_4_code 18 = .ok (.iconst 0, 1) := by decide +kernel
theorem ef_1_ft (m : MethodId) (x0 : Addr) : entryFrame m #[(.ref x0)] 1 = mkF m 0 #[.val (.ref x0)] [] := by first | (simp [entryFrame, mkF, argsToLocals, Value.category]; done) | rfl
def Q1_ft (Z : State) (vr0 : Addr) (w_TABLE : Addr) (w_FOREIGN_TABLE : Addr) (h0 : Heap) (n0 : Nat) (v : Option Value) (h : Heap) (L : List Loc) : Prop := v = some (.int (0 : Int32)) ∧ Fr n0 L ∧ h = h0
set_option maxRecDepth 65536 in
set_option maxHeartbeats 40000000 in
theorem rm1_ft (l : Launch) (Z : State) (a0 : Array Value) (hw : ∀ d ∈ tables_1, d.before a0 Z = true) (ws : List Jvm.Cond) (vr0 : Addr) (w_TABLE : Addr) (w_FOREIGN_TABLE : Addr) (h0 : Heap) (n0 : Nat) (Z0 : n0 ≤ h0.size) (S_TABLE : Sta Z Z.heap "com/example/vernacular/vernacular/Table$Kind" "TABLE" "Lcom/example/vernacular/vernacular/Table$Kind;" (.ref w_TABLE)) (O0 : Old Z n0 h0) (ha4 : ¬ (vr0 = w_TABLE)) (S_FOREIGN_TABLE : Sta Z Z.heap "com/example/vernacular/vernacular/Table$Kind" "FOREIGN_TABLE" "Lcom/example/vernacular/vernacular/Table$Kind;" (.ref w_FOREIGN_TABLE)) (ha11 : ¬ (vr0 = w_FOREIGN_TABLE)) :
    MetFree l (⟨"com/example/vernacular/vernacular/Table$Kind", "isTable", "()Z"⟩ : MethodName) (head1 (Jvm.Cond.code (⟨"com/example/vernacular/vernacular/Table$Kind", "isTable", "()Z"⟩ : MethodName) prog_98_method_4_code 1 (some .boolean) :: ws) ({ frames := 0, cells := 0, slots := 0, locals := 0 } : Room)) (fun a U => a = #[(.ref vr0)] ∧ Z.Warmed39 U.vm ∧ U.heap = h0) (fun _ _ _ _ _ => True) (fun _ U o U' => ∃ v L, o = .returned v ∧ Q1_ft Z vr0 w_TABLE w_FOREIGN_TABLE h0 n0 v U'.heap L ∧ FrameEnd U o U' L ({ frames := 0, cells := 0, slots := 0, locals := 0 } : Room).cells ({ frames := 0, cells := 0, slots := 0, locals := 0 } : Room).slots) := by
  refine MetFree.of_bodySF (plainFor_of_name pn_com_example_vernacular_vernacular_Table_Kind) hisR ?_
  intro p e s m args below meth c s₁ Bd hml0 hP hK
  obtain ⟨rfl, hZ, hh⟩ := hP
  have hx := Bd.exec
  have hby := Bd.bytes
  have hml : c.maxLocals = 1 := hml0
  have hown : s.vm.findClass "com/example/vernacular/vernacular/Table$Kind" = some m.cls := findClass_of_methodNamed Bd.named
  have hnm := (name_of_methodNamed Bd.named Bd.method).1
  have X0 : Stand p l e ({ frames := 0, cells := 0, slots := 0, locals := 0 } : Room) s m #[(.ref vr0)] below meth c s₁ [] 0 0 := Stand.of_body Bd
  have e0 : s₁.heap = h0 := by rw [← hh, Bd.state]; rfl
  have N0 := Fr.nil n0
  have pre0 : ∀ t, Steps p.tables e below (s₁.setTop (mkF m 0 #[.val (.ref vr0)] [])) t → Steps p.tables e below (s₁.setTop (entryFrame m #[(.ref vr0)] 1)) t := fun t k => castTop (ef_1_ft m vr0) k
  obtain ⟨T1, X1, e1, st1⟩ := getS2 X0 hx hZ hown (host := "") (Or.inl (wd_8 hw)) Via.refl e0 (S_TABLE.ext O0.2) (g := (mkF m 1 #[.val (.ref vr0)] [(.ref vr0)])) rfl (hb hby d1_1)
  obtain ⟨T2, X2, e2, st2⟩ := getS2 X1 hx hZ hown (host := "") (Or.inl (wd_11 hw)) Via.refl e1 (S_FOREIGN_TABLE.ext O0.2) (g := (mkF m 8 #[.val (.ref vr0)] [(.ref vr0)])) rfl (hb hby d1_8)
  obtain ⟨fs, hr, hrun, hended, hW, hsame⟩ := X2.leave (v := some (.int (0 : Int32))) (fun h => by rw [Bd.returns] at h; cases h)
  refine ⟨_, _, pre0 _ ?_, hrun, hended, _, _, rfl, ?_, ⟨_, rfl⟩, hW, hsame.mono (by decide) (by decide)⟩
  · show Steps p.tables e below (s₁.setTop (mkF m 0 #[.val (.ref vr0)] [])) _
    refine XS.aloadN X0.here hx rfl (hb hby d1_0) rfl rfl ?_
    show Steps p.tables e below (s₁.setTop (mkF m 1 #[.val (.ref vr0)] [(.ref vr0)])) _
    refine st1 _ ?_
    show Steps p.tables e below (T1.setTop (mkF m 4 #[.val (.ref vr0)] [(.ref w_TABLE), (.ref vr0)])) _
    refine Jvm.RoadKit.acmp (g := (mkF m 4 #[.val (.ref vr0)] [(.ref w_TABLE), (.ref vr0)])) X1 hx rfl rfl rfl (pc0 := 4) (pc' := 7) (same := false) rfl (hb hby d1_4) rfl (decide_eq_false fun q => ha4 (Value.ref.inj q)) (by decide) (by decide) ?_
    show Steps p.tables e below (T1.setTop (mkF m 7 #[.val (.ref vr0)] [])) _
    refine XS.aloadN X1.here hx rfl (hb hby d1_7) rfl rfl ?_
    show Steps p.tables e below (T1.setTop (mkF m 8 #[.val (.ref vr0)] [(.ref vr0)])) _
    refine st2 _ ?_
    show Steps p.tables e below (T2.setTop (mkF m 11 #[.val (.ref vr0)] [(.ref w_FOREIGN_TABLE), (.ref vr0)])) _
    refine Jvm.RoadKit.acmp (g := (mkF m 11 #[.val (.ref vr0)] [(.ref w_FOREIGN_TABLE), (.ref vr0)])) X2 hx rfl rfl rfl (pc0 := 11) (pc' := 18) (same := false) rfl (hb hby d1_11) rfl (decide_eq_false fun q => ha11 (Value.ref.inj q)) (by decide) (by decide) ?_
    show Steps p.tables e below (T2.setTop (mkF m 18 #[.val (.ref vr0)] [])) _
    refine XS.iconst X2.here hx rfl (hb hby d1_18) ?_
    show Steps p.tables e below (T2.setTop (mkF m 19 #[.val (.ref vr0)] [(.int (0 : Int32))])) _
    exact retN X2 hx (t := .boolean) Bd.returns (by simp) (hb hby d1_19) hr
  · show Q1_ft Z vr0 w_TABLE w_FOREIGN_TABLE h0 n0 _ T2.heap _
    rw [e2]
    exact ⟨rfl, N0, rfl⟩
theorem wd_0 {Z : State} {a0 : Array Value} (hw : ∀ d ∈ tables_1, d.before a0 Z = true) : ((Jvm.Cond.fieldLink "com/example/vernacular/vernacular/KindIsTablePinLaw" (7 : Nat) "com/example/vernacular/vernacular/Table$Kind" "TABLE" "Lcom/example/vernacular/vernacular/Table$Kind;")).before a0 Z = true := hw _ (List.mem_of_getElem? (i := 0) rfl)
theorem wd_3 {Z : State} {a0 : Array Value} (hw : ∀ d ∈ tables_1, d.before a0 Z = true) : ((Jvm.Cond.methodLink "com/example/vernacular/vernacular/KindIsTablePinLaw" (22 : Nat) ({ cls := "com/example/vernacular/vernacular/Table$Kind", name := "isTable", desc := "()Z" } : Jvm.MethodName))).before a0 Z = true := hw _ (List.mem_of_getElem? (i := 3) rfl)
theorem wd_7 {Z : State} {a0 : Array Value} (hw : ∀ d ∈ tables_1, d.before a0 Z = true) : ((Jvm.Cond.code ({ cls := "com/example/vernacular/vernacular/Table$Kind", name := "isTable", desc := "()Z" } : Jvm.MethodName) prog_98_method_4_code (1 : Nat) (Option.some Jvm.ClassFile.FieldType.boolean))).before a0 Z = true := hw _ (List.mem_of_getElem? (i := 7) rfl)
theorem wd_1 {Z : State} {a0 : Array Value} (hw : ∀ d ∈ tables_1, d.before a0 Z = true) : ((Jvm.Cond.initialized "com/example/vernacular/vernacular/Table$Kind")).before a0 Z = true := hw _ (List.mem_of_getElem? (i := 1) rfl)
theorem pd_0 : parseMethodDescriptor "()Z" = some ⟨[], some .boolean⟩ := by decide +kernel
theorem wd_6 {Z : State} {a0 : Array Value} (hw : ∀ d ∈ tables_1, d.before a0 Z = true) : ((Jvm.Cond.selects "com/example/vernacular/vernacular/Table$Kind" ({ cls := "com/example/vernacular/vernacular/Table$Kind", name := "isTable", desc := "()Z" } : Jvm.MethodName) ({ cls := "com/example/vernacular/vernacular/Table$Kind", name := "isTable", desc := "()Z" } : Jvm.MethodName))).before a0 Z = true := hw _ (List.mem_of_getElem? (i := 6) rfl)
theorem wd_4 {Z : State} {a0 : Array Value} (hw : ∀ d ∈ tables_1, d.before a0 Z = true) : ((Jvm.Cond.declares ({ cls := "com/example/vernacular/vernacular/Table$Kind", name := "isTable", desc := "()Z" } : Jvm.MethodName))).before a0 Z = true := hw _ (List.mem_of_getElem? (i := 4) rfl)
theorem wd_5 {Z : State} {a0 : Array Value} (hw : ∀ d ∈ tables_1, d.before a0 Z = true) : ((Jvm.Cond.instanceMethod ({ cls := "com/example/vernacular/vernacular/Table$Kind", name := "isTable", desc := "()Z" } : Jvm.MethodName))).before a0 Z = true := hw _ (List.mem_of_getElem? (i := 5) rfl)
theorem pn_com_example_vernacular_vernacular_KindIsTablePinLaw : plainName "com/example/vernacular/vernacular/KindIsTablePinLaw" = true := by first | (simp [plainName, overriddenIn]; done) | decide +kernel
theorem ef_0_ff (m : MethodId) (x0 : Int32) : entryFrame m #[(.int x0)] maxLocals = mkF m 0 #[.val (.int x0), .unset, .unset, .unset] [] := by first | (simp [entryFrame, mkF, argsToLocals, Value.category, maxLocals]; done) | rfl
def Q0_ff (Z : State) (vi0 : Int32) (w_TABLE : Addr) (h0 : Heap) (n0 : Nat) (v : Option Value) (h : Heap) (L : List Loc) : Prop := v = some (.int (1 : Int32)) ∧ Fr n0 L
set_option maxRecDepth 65536 in
set_option maxHeartbeats 40000000 in
theorem rm0_ff (l : Launch) (Z : State) (a0 : Array Value) (hw : ∀ d ∈ tables_1, d.before a0 Z = true) (ws : List Jvm.Cond) (vi0 : Int32) (w_TABLE : Addr) (h0 : Heap) (n0 : Nat) (Z0 : n0 ≤ h0.size) (hc5 : (vi0 &&& (3 : Int32)) = (0 : Int32)) (S_TABLE : Sta Z Z.heap "com/example/vernacular/vernacular/Table$Kind" "TABLE" "Lcom/example/vernacular/vernacular/Table$Kind;" (.ref w_TABLE)) (O0 : Old Z n0 h0) (E_w_TABLE : Exa Z Z.heap w_TABLE "com/example/vernacular/vernacular/Table$Kind") :
    MetFree l x (head1 (Jvm.Cond.code x code maxLocals ret :: ws) room_1) (fun a U => a = #[(.int vi0)] ∧ Z.Warmed39 U.vm ∧ U.heap = h0) (fun _ _ _ _ _ => True) (fun _ U o U' => ∃ v L, o = .returned v ∧ Q0_ff Z vi0 w_TABLE h0 n0 v U'.heap L ∧ FrameEnd U o U' L room_1.cells room_1.slots) := by
  refine MetFree.of_bodySF (plainFor_of_name pn_com_example_vernacular_vernacular_KindIsTablePinLaw) hisR ?_
  intro p e s m args below meth c s₁ Bd hml0 hP hK
  obtain ⟨rfl, hZ, hh⟩ := hP
  have hx := Bd.exec
  have hby := Bd.bytes
  have hml : c.maxLocals = 4 := hml0
  have hown : s.vm.findClass "com/example/vernacular/vernacular/KindIsTablePinLaw" = some m.cls := findClass_of_methodNamed Bd.named
  have hnm := (name_of_methodNamed Bd.named Bd.method).1
  have X0 : Stand p l e room_1 s m #[(.int vi0)] below meth c s₁ [] 0 0 := Stand.of_body Bd
  have e0 : s₁.heap = h0 := by rw [← hh, Bd.state]; rfl
  have N0 := Fr.nil n0
  have pre0 : ∀ t, Steps p.tables e below (s₁.setTop (mkF m 0 #[.val (.int vi0), .unset, .unset, .unset] [])) t → Steps p.tables e below (s₁.setTop (entryFrame m #[(.int vi0)] maxLocals)) t := fun t k => castTop (ef_0_ff m vi0) k
  obtain ⟨T1, X1, e1, st1⟩ := getS2 X0 hx hZ hown (host := "") (Or.inl (wd_0 hw)) Via.refl e0 (S_TABLE.ext O0.2) (g := (mkF m 8 #[.val (.int vi0), .val (.int (vi0 &&& (3 : Int32))), .unset, .unset] [])) rfl (hb hby at_8)
  obtain ⟨cq2, kq2, q2a, q2b, q2c⟩ := isOf hZ e1 (E_w_TABLE.ext O0.2)
  obtain ⟨_, _, ⟨T2, L2, k2, n2⟩, -, X2, ⟨Lc2, hQ2, l2, y2, z2⟩, st2⟩ := X1.virtualBack hx (y := (⟨"com/example/vernacular/vernacular/Table$Kind", "isTable", "()Z"⟩ : MethodName)) (z := (⟨"com/example/vernacular/vernacular/Table$Kind", "isTable", "()Z"⟩ : MethodName)) hown (mvT hZ (wd_3 hw)) (mvT hZ (wd_4 hw)) (notFace_of_selects (args := #[]) (mvT hZ (wd_6 hw))) (mvT hZ (wd_6 hw)) (mvT hZ (wd_5 hw)) (by decide) (backOf (W := 0) (rm1_t l Z a0 hw [] w_TABLE w_TABLE h0 n0 Z0 S_TABLE O0 rfl) hZ (wd_7 hw) (wd_1 hw) (by decide) (by decide)) q2a q2c (g := (mkF m 52 #[.val (.int vi0), .val (.int (vi0 &&& (3 : Int32))), .val (.ref w_TABLE), .val (.int (1 : Int32))] [(.ref w_TABLE)])) rfl (by rw [hml]; rfl) (Steps.refl _) (argsL := []) (rest := []) (lenOf pd_0 rfl) rfl (by show 2 * 0 + _ ≤ _; exact Nat.le_of_eq rfl) (hb hby at_52) (fun _ _ => ⟨rfl, e1, (by decide : 0 + 0 ≤ _), (by decide : 0 + 0 ≤ _)⟩)
  dsimp only [Pt.U, Pt.locs, Pt.cells, Pt.slots] at X2 l2 y2 z2 st2 hQ2
  subst l2 y2 z2
  obtain ⟨rfl, N2q, p2_0⟩ := hQ2
  have N2 := Fr.app N0 N2q
  have e2 : T2.heap = h0 := p2_0
  obtain ⟨fs, hr, hrun, hended, hW, hsame⟩ := X2.leave (v := some (.int (1 : Int32))) (fun h => by rw [Bd.returns] at h; cases h)
  refine ⟨_, _, pre0 _ ?_, hrun, hended, _, _, rfl, ?_, ⟨_, rfl⟩, hW, hsame.mono (by decide) (by decide)⟩
  · show Steps p.tables e below (s₁.setTop (mkF m 0 #[.val (.int vi0), .unset, .unset, .unset] [])) _
    refine XS.iloadN X0.here hx rfl (hb hby at_0) rfl ?_
    show Steps p.tables e below (s₁.setTop (mkF m 1 #[.val (.int vi0), .unset, .unset, .unset] [(.int vi0)])) _
    refine XS.iconst X0.here hx rfl (hb hby at_1) ?_
    show Steps p.tables e below (s₁.setTop (mkF m 2 #[.val (.int vi0), .unset, .unset, .unset] [(.int (3 : Int32)), (.int vi0)])) _
    refine XS.iand X0.here hx rfl (hb hby at_2) rfl ?_
    show Steps p.tables e below (s₁.setTop (mkF m 3 #[.val (.int vi0), .unset, .unset, .unset] [(.int (vi0 &&& (3 : Int32)))])) _
    refine XS.istoreN X0.here hx rfl (hb hby at_3) rfl (l' := #[.val (.int vi0), .val (.int (vi0 &&& (3 : Int32))), .unset, .unset]) rfl ?_
    show Steps p.tables e below (s₁.setTop (mkF m 4 #[.val (.int vi0), .val (.int (vi0 &&& (3 : Int32))), .unset, .unset] [])) _
    refine XS.iloadN X0.here hx rfl (hb hby at_4) rfl ?_
    show Steps p.tables e below (s₁.setTop (mkF m 5 #[.val (.int vi0), .val (.int (vi0 &&& (3 : Int32))), .unset, .unset] [(.int (vi0 &&& (3 : Int32)))])) _
    refine XS.ifNo X0.here hx rfl (hb hby at_5) rfl ((if0 _ _).trans (teq hc5).2) ?_
    show Steps p.tables e below (s₁.setTop (mkF m 8 #[.val (.int vi0), .val (.int (vi0 &&& (3 : Int32))), .unset, .unset] [])) _
    refine st1 _ ?_
    show Steps p.tables e below (T1.setTop (mkF m 11 #[.val (.int vi0), .val (.int (vi0 &&& (3 : Int32))), .unset, .unset] [(.ref w_TABLE)])) _
    refine XS.astoreN X1.here hx rfl (hb hby at_11) rfl rfl (l' := #[.val (.int vi0), .val (.int (vi0 &&& (3 : Int32))), .val (.ref w_TABLE), .unset]) rfl ?_
    show Steps p.tables e below (T1.setTop (mkF m 12 #[.val (.int vi0), .val (.int (vi0 &&& (3 : Int32))), .val (.ref w_TABLE), .unset] [])) _
    refine XS.iconst X1.here hx rfl (hb hby at_12) ?_
    show Steps p.tables e below (T1.setTop (mkF m 13 #[.val (.int vi0), .val (.int (vi0 &&& (3 : Int32))), .val (.ref w_TABLE), .unset] [(.int (1 : Int32))])) _
    refine XS.istoreN X1.here hx rfl (hb hby at_13) rfl (l' := #[.val (.int vi0), .val (.int (vi0 &&& (3 : Int32))), .val (.ref w_TABLE), .val (.int (1 : Int32))]) rfl ?_
    show Steps p.tables e below (T1.setTop (mkF m 14 #[.val (.int vi0), .val (.int (vi0 &&& (3 : Int32))), .val (.ref w_TABLE), .val (.int (1 : Int32))] [])) _
    refine XS.goto X1.here hx rfl (pc0 := 14) (pc' := 51) rfl (hb hby at_14) (by decide) (by decide) ?_
    show Steps p.tables e below (T1.setTop (mkF m 51 #[.val (.int vi0), .val (.int (vi0 &&& (3 : Int32))), .val (.ref w_TABLE), .val (.int (1 : Int32))] [])) _
    refine XS.aloadN X1.here hx rfl (hb hby at_51) rfl rfl ?_
    show Steps p.tables e below (T1.setTop (mkF m 52 #[.val (.int vi0), .val (.int (vi0 &&& (3 : Int32))), .val (.ref w_TABLE), .val (.int (1 : Int32))] [(.ref w_TABLE)])) _
    refine st2.trans ?_
    show Steps p.tables e below (T2.setTop (mkF m 55 #[.val (.int vi0), .val (.int (vi0 &&& (3 : Int32))), .val (.ref w_TABLE), .val (.int (1 : Int32))] [(.int (1 : Int32))])) _
    refine XS.iloadN X2.here hx rfl (hb hby at_55) rfl ?_
    show Steps p.tables e below (T2.setTop (mkF m 56 #[.val (.int vi0), .val (.int (vi0 &&& (3 : Int32))), .val (.ref w_TABLE), .val (.int (1 : Int32))] [(.int (1 : Int32)), (.int (1 : Int32))])) _
    refine XS.icmpNo X2.here hx rfl (hb hby at_56) rfl (teq (rfl : (1 : Int32) = (1 : Int32))).2 ?_
    show Steps p.tables e below (T2.setTop (mkF m 59 #[.val (.int vi0), .val (.int (vi0 &&& (3 : Int32))), .val (.ref w_TABLE), .val (.int (1 : Int32))] [])) _
    refine XS.iconst X2.here hx rfl (hb hby at_59) ?_
    show Steps p.tables e below (T2.setTop (mkF m 60 #[.val (.int vi0), .val (.int (vi0 &&& (3 : Int32))), .val (.ref w_TABLE), .val (.int (1 : Int32))] [(.int (1 : Int32))])) _
    refine XS.goto X2.here hx rfl (pc0 := 60) (pc' := 64) rfl (hb hby at_60) (by decide) (by decide) ?_
    show Steps p.tables e below (T2.setTop (mkF m 64 #[.val (.int vi0), .val (.int (vi0 &&& (3 : Int32))), .val (.ref w_TABLE), .val (.int (1 : Int32))] [(.int (1 : Int32))])) _
    exact retN X2 hx (t := .boolean) Bd.returns (by simp) (hb hby at_64) hr
  · show Q0_ff Z vi0 w_TABLE h0 n0 _ T2.heap _
    rw [e2]
    exact ⟨rfl, N2⟩
theorem wd_15 {Z : State} {a0 : Array Value} (hw : ∀ d ∈ tables_1, d.before a0 Z = true) : ((Jvm.Cond.fieldLink "com/example/vernacular/vernacular/KindIsTablePinLaw" (13 : Nat) "com/example/vernacular/vernacular/Table$Kind" "FOREIGN_TABLE" "Lcom/example/vernacular/vernacular/Table$Kind;")).before a0 Z = true := hw _ (List.mem_of_getElem? (i := 15) rfl)
theorem ef_0_tff (m : MethodId) (x0 : Int32) : entryFrame m #[(.int x0)] maxLocals = mkF m 0 #[.val (.int x0), .unset, .unset, .unset] [] := by first | (simp [entryFrame, mkF, argsToLocals, Value.category, maxLocals]; done) | rfl
def Q0_tff (Z : State) (vi0 : Int32) (w_FOREIGN_TABLE : Addr) (w_TABLE : Addr) (h0 : Heap) (n0 : Nat) (v : Option Value) (h : Heap) (L : List Loc) : Prop := v = some (.int (1 : Int32)) ∧ Fr n0 L
set_option maxRecDepth 65536 in
set_option maxHeartbeats 40000000 in
theorem rm0_tff (l : Launch) (Z : State) (a0 : Array Value) (hw : ∀ d ∈ tables_1, d.before a0 Z = true) (ws : List Jvm.Cond) (vi0 : Int32) (w_FOREIGN_TABLE : Addr) (w_TABLE : Addr) (h0 : Heap) (n0 : Nat) (Z0 : n0 ≤ h0.size) (hc5 : ¬ ((vi0 &&& (3 : Int32)) = (0 : Int32))) (hc19 : (vi0 &&& (3 : Int32)) = (1 : Int32)) (S_FOREIGN_TABLE : Sta Z Z.heap "com/example/vernacular/vernacular/Table$Kind" "FOREIGN_TABLE" "Lcom/example/vernacular/vernacular/Table$Kind;" (.ref w_FOREIGN_TABLE)) (O0 : Old Z n0 h0) (E_w_FOREIGN_TABLE : Exa Z Z.heap w_FOREIGN_TABLE "com/example/vernacular/vernacular/Table$Kind") (S_TABLE : Sta Z Z.heap "com/example/vernacular/vernacular/Table$Kind" "TABLE" "Lcom/example/vernacular/vernacular/Table$Kind;" (.ref w_TABLE)) (c52_ha4 : ¬ (w_FOREIGN_TABLE = w_TABLE)) :
    MetFree l x (head1 (Jvm.Cond.code x code maxLocals ret :: ws) room_1) (fun a U => a = #[(.int vi0)] ∧ Z.Warmed39 U.vm ∧ U.heap = h0) (fun _ _ _ _ _ => True) (fun _ U o U' => ∃ v L, o = .returned v ∧ Q0_tff Z vi0 w_FOREIGN_TABLE w_TABLE h0 n0 v U'.heap L ∧ FrameEnd U o U' L room_1.cells room_1.slots) := by
  refine MetFree.of_bodySF (plainFor_of_name pn_com_example_vernacular_vernacular_KindIsTablePinLaw) hisR ?_
  intro p e s m args below meth c s₁ Bd hml0 hP hK
  obtain ⟨rfl, hZ, hh⟩ := hP
  have hx := Bd.exec
  have hby := Bd.bytes
  have hml : c.maxLocals = 4 := hml0
  have hown : s.vm.findClass "com/example/vernacular/vernacular/KindIsTablePinLaw" = some m.cls := findClass_of_methodNamed Bd.named
  have hnm := (name_of_methodNamed Bd.named Bd.method).1
  have X0 : Stand p l e room_1 s m #[(.int vi0)] below meth c s₁ [] 0 0 := Stand.of_body Bd
  have e0 : s₁.heap = h0 := by rw [← hh, Bd.state]; rfl
  have N0 := Fr.nil n0
  have pre0 : ∀ t, Steps p.tables e below (s₁.setTop (mkF m 0 #[.val (.int vi0), .unset, .unset, .unset] [])) t → Steps p.tables e below (s₁.setTop (entryFrame m #[(.int vi0)] maxLocals)) t := fun t k => castTop (ef_0_tff m vi0) k
  obtain ⟨T1, X1, e1, st1⟩ := getS2 X0 hx hZ hown (host := "") (Or.inl (wd_15 hw)) Via.refl e0 (S_FOREIGN_TABLE.ext O0.2) (g := (mkF m 22 #[.val (.int vi0), .val (.int (vi0 &&& (3 : Int32))), .unset, .unset] [])) rfl (hb hby at_22)
  obtain ⟨cq2, kq2, q2a, q2b, q2c⟩ := isOf hZ e1 (E_w_FOREIGN_TABLE.ext O0.2)
  obtain ⟨_, _, ⟨T2, L2, k2, n2⟩, -, X2, ⟨Lc2, hQ2, l2, y2, z2⟩, st2⟩ := X1.virtualBack hx (y := (⟨"com/example/vernacular/vernacular/Table$Kind", "isTable", "()Z"⟩ : MethodName)) (z := (⟨"com/example/vernacular/vernacular/Table$Kind", "isTable", "()Z"⟩ : MethodName)) hown (mvT hZ (wd_3 hw)) (mvT hZ (wd_4 hw)) (notFace_of_selects (args := #[]) (mvT hZ (wd_6 hw))) (mvT hZ (wd_6 hw)) (mvT hZ (wd_5 hw)) (by decide) (backOf (W := 0) (rm1_ff l Z a0 hw [] w_FOREIGN_TABLE w_TABLE w_FOREIGN_TABLE h0 n0 Z0 S_TABLE O0 c52_ha4 S_FOREIGN_TABLE rfl) hZ (wd_7 hw) (wd_1 hw) (by decide) (by decide)) q2a q2c (g := (mkF m 52 #[.val (.int vi0), .val (.int (vi0 &&& (3 : Int32))), .val (.ref w_FOREIGN_TABLE), .val (.int (1 : Int32))] [(.ref w_FOREIGN_TABLE)])) rfl (by rw [hml]; rfl) (Steps.refl _) (argsL := []) (rest := []) (lenOf pd_0 rfl) rfl (by show 2 * 0 + _ ≤ _; exact Nat.le_of_eq rfl) (hb hby at_52) (fun _ _ => ⟨rfl, e1, (by decide : 0 + 0 ≤ _), (by decide : 0 + 0 ≤ _)⟩)
  dsimp only [Pt.U, Pt.locs, Pt.cells, Pt.slots] at X2 l2 y2 z2 st2 hQ2
  subst l2 y2 z2
  obtain ⟨rfl, N2q, p2_0⟩ := hQ2
  have N2 := Fr.app N0 N2q
  have e2 : T2.heap = h0 := p2_0
  obtain ⟨fs, hr, hrun, hended, hW, hsame⟩ := X2.leave (v := some (.int (1 : Int32))) (fun h => by rw [Bd.returns] at h; cases h)
  refine ⟨_, _, pre0 _ ?_, hrun, hended, _, _, rfl, ?_, ⟨_, rfl⟩, hW, hsame.mono (by decide) (by decide)⟩
  · show Steps p.tables e below (s₁.setTop (mkF m 0 #[.val (.int vi0), .unset, .unset, .unset] [])) _
    refine XS.iloadN X0.here hx rfl (hb hby at_0) rfl ?_
    show Steps p.tables e below (s₁.setTop (mkF m 1 #[.val (.int vi0), .unset, .unset, .unset] [(.int vi0)])) _
    refine XS.iconst X0.here hx rfl (hb hby at_1) ?_
    show Steps p.tables e below (s₁.setTop (mkF m 2 #[.val (.int vi0), .unset, .unset, .unset] [(.int (3 : Int32)), (.int vi0)])) _
    refine XS.iand X0.here hx rfl (hb hby at_2) rfl ?_
    show Steps p.tables e below (s₁.setTop (mkF m 3 #[.val (.int vi0), .unset, .unset, .unset] [(.int (vi0 &&& (3 : Int32)))])) _
    refine XS.istoreN X0.here hx rfl (hb hby at_3) rfl (l' := #[.val (.int vi0), .val (.int (vi0 &&& (3 : Int32))), .unset, .unset]) rfl ?_
    show Steps p.tables e below (s₁.setTop (mkF m 4 #[.val (.int vi0), .val (.int (vi0 &&& (3 : Int32))), .unset, .unset] [])) _
    refine XS.iloadN X0.here hx rfl (hb hby at_4) rfl ?_
    show Steps p.tables e below (s₁.setTop (mkF m 5 #[.val (.int vi0), .val (.int (vi0 &&& (3 : Int32))), .unset, .unset] [(.int (vi0 &&& (3 : Int32)))])) _
    refine XS.ifYes X0.here hx rfl (pc0 := 5) (pc' := 17) rfl (hb hby at_5) rfl ((if0 _ _).trans (feq hc5).2) (by decide) (by decide) ?_
    show Steps p.tables e below (s₁.setTop (mkF m 17 #[.val (.int vi0), .val (.int (vi0 &&& (3 : Int32))), .unset, .unset] [])) _
    refine XS.iloadN X0.here hx rfl (hb hby at_17) rfl ?_
    show Steps p.tables e below (s₁.setTop (mkF m 18 #[.val (.int vi0), .val (.int (vi0 &&& (3 : Int32))), .unset, .unset] [(.int (vi0 &&& (3 : Int32)))])) _
    refine XS.iconst X0.here hx rfl (hb hby at_18) ?_
    show Steps p.tables e below (s₁.setTop (mkF m 19 #[.val (.int vi0), .val (.int (vi0 &&& (3 : Int32))), .unset, .unset] [(.int (1 : Int32)), (.int (vi0 &&& (3 : Int32)))])) _
    refine XS.icmpNo X0.here hx rfl (hb hby at_19) rfl (teq hc19).2 ?_
    show Steps p.tables e below (s₁.setTop (mkF m 22 #[.val (.int vi0), .val (.int (vi0 &&& (3 : Int32))), .unset, .unset] [])) _
    refine st1 _ ?_
    show Steps p.tables e below (T1.setTop (mkF m 25 #[.val (.int vi0), .val (.int (vi0 &&& (3 : Int32))), .unset, .unset] [(.ref w_FOREIGN_TABLE)])) _
    refine XS.astoreN X1.here hx rfl (hb hby at_25) rfl rfl (l' := #[.val (.int vi0), .val (.int (vi0 &&& (3 : Int32))), .val (.ref w_FOREIGN_TABLE), .unset]) rfl ?_
    show Steps p.tables e below (T1.setTop (mkF m 26 #[.val (.int vi0), .val (.int (vi0 &&& (3 : Int32))), .val (.ref w_FOREIGN_TABLE), .unset] [])) _
    refine XS.iconst X1.here hx rfl (hb hby at_26) ?_
    show Steps p.tables e below (T1.setTop (mkF m 27 #[.val (.int vi0), .val (.int (vi0 &&& (3 : Int32))), .val (.ref w_FOREIGN_TABLE), .unset] [(.int (1 : Int32))])) _
    refine XS.istoreN X1.here hx rfl (hb hby at_27) rfl (l' := #[.val (.int vi0), .val (.int (vi0 &&& (3 : Int32))), .val (.ref w_FOREIGN_TABLE), .val (.int (1 : Int32))]) rfl ?_
    show Steps p.tables e below (T1.setTop (mkF m 28 #[.val (.int vi0), .val (.int (vi0 &&& (3 : Int32))), .val (.ref w_FOREIGN_TABLE), .val (.int (1 : Int32))] [])) _
    refine XS.goto X1.here hx rfl (pc0 := 28) (pc' := 51) rfl (hb hby at_28) (by decide) (by decide) ?_
    show Steps p.tables e below (T1.setTop (mkF m 51 #[.val (.int vi0), .val (.int (vi0 &&& (3 : Int32))), .val (.ref w_FOREIGN_TABLE), .val (.int (1 : Int32))] [])) _
    refine XS.aloadN X1.here hx rfl (hb hby at_51) rfl rfl ?_
    show Steps p.tables e below (T1.setTop (mkF m 52 #[.val (.int vi0), .val (.int (vi0 &&& (3 : Int32))), .val (.ref w_FOREIGN_TABLE), .val (.int (1 : Int32))] [(.ref w_FOREIGN_TABLE)])) _
    refine st2.trans ?_
    show Steps p.tables e below (T2.setTop (mkF m 55 #[.val (.int vi0), .val (.int (vi0 &&& (3 : Int32))), .val (.ref w_FOREIGN_TABLE), .val (.int (1 : Int32))] [(.int (1 : Int32))])) _
    refine XS.iloadN X2.here hx rfl (hb hby at_55) rfl ?_
    show Steps p.tables e below (T2.setTop (mkF m 56 #[.val (.int vi0), .val (.int (vi0 &&& (3 : Int32))), .val (.ref w_FOREIGN_TABLE), .val (.int (1 : Int32))] [(.int (1 : Int32)), (.int (1 : Int32))])) _
    refine XS.icmpNo X2.here hx rfl (hb hby at_56) rfl (teq (rfl : (1 : Int32) = (1 : Int32))).2 ?_
    show Steps p.tables e below (T2.setTop (mkF m 59 #[.val (.int vi0), .val (.int (vi0 &&& (3 : Int32))), .val (.ref w_FOREIGN_TABLE), .val (.int (1 : Int32))] [])) _
    refine XS.iconst X2.here hx rfl (hb hby at_59) ?_
    show Steps p.tables e below (T2.setTop (mkF m 60 #[.val (.int vi0), .val (.int (vi0 &&& (3 : Int32))), .val (.ref w_FOREIGN_TABLE), .val (.int (1 : Int32))] [(.int (1 : Int32))])) _
    refine XS.goto X2.here hx rfl (pc0 := 60) (pc' := 64) rfl (hb hby at_60) (by decide) (by decide) ?_
    show Steps p.tables e below (T2.setTop (mkF m 64 #[.val (.int vi0), .val (.int (vi0 &&& (3 : Int32))), .val (.ref w_FOREIGN_TABLE), .val (.int (1 : Int32))] [(.int (1 : Int32))])) _
    exact retN X2 hx (t := .boolean) Bd.returns (by simp) (hb hby at_64) hr
  · show Q0_tff Z vi0 w_FOREIGN_TABLE w_TABLE h0 n0 _ T2.heap _
    rw [e2]
    exact ⟨rfl, N2⟩
theorem wd_13 {Z : State} {a0 : Array Value} (hw : ∀ d ∈ tables_1, d.before a0 Z = true) : ((Jvm.Cond.fieldLink "com/example/vernacular/vernacular/KindIsTablePinLaw" (16 : Nat) "com/example/vernacular/vernacular/Table$Kind" "VIEW" "Lcom/example/vernacular/vernacular/Table$Kind;")).before a0 Z = true := hw _ (List.mem_of_getElem? (i := 13) rfl)
theorem ef_0_ttff (m : MethodId) (x0 : Int32) : entryFrame m #[(.int x0)] maxLocals = mkF m 0 #[.val (.int x0), .unset, .unset, .unset] [] := by first | (simp [entryFrame, mkF, argsToLocals, Value.category, maxLocals]; done) | rfl
def Q0_ttff (Z : State) (vi0 : Int32) (w_VIEW : Addr) (w_TABLE : Addr) (w_FOREIGN_TABLE : Addr) (h0 : Heap) (n0 : Nat) (v : Option Value) (h : Heap) (L : List Loc) : Prop := v = some (.int (1 : Int32)) ∧ Fr n0 L
set_option maxRecDepth 65536 in
set_option maxHeartbeats 40000000 in
theorem rm0_ttff (l : Launch) (Z : State) (a0 : Array Value) (hw : ∀ d ∈ tables_1, d.before a0 Z = true) (ws : List Jvm.Cond) (vi0 : Int32) (w_VIEW : Addr) (w_TABLE : Addr) (w_FOREIGN_TABLE : Addr) (h0 : Heap) (n0 : Nat) (Z0 : n0 ≤ h0.size) (hc5 : ¬ ((vi0 &&& (3 : Int32)) = (0 : Int32))) (hc19 : ¬ ((vi0 &&& (3 : Int32)) = (1 : Int32))) (hc33 : (vi0 &&& (3 : Int32)) = (2 : Int32)) (S_VIEW : Sta Z Z.heap "com/example/vernacular/vernacular/Table$Kind" "VIEW" "Lcom/example/vernacular/vernacular/Table$Kind;" (.ref w_VIEW)) (O0 : Old Z n0 h0) (E_w_VIEW : Exa Z Z.heap w_VIEW "com/example/vernacular/vernacular/Table$Kind") (S_TABLE : Sta Z Z.heap "com/example/vernacular/vernacular/Table$Kind" "TABLE" "Lcom/example/vernacular/vernacular/Table$Kind;" (.ref w_TABLE)) (c52_ha4 : ¬ (w_VIEW = w_TABLE)) (S_FOREIGN_TABLE : Sta Z Z.heap "com/example/vernacular/vernacular/Table$Kind" "FOREIGN_TABLE" "Lcom/example/vernacular/vernacular/Table$Kind;" (.ref w_FOREIGN_TABLE)) (c52_ha11 : ¬ (w_VIEW = w_FOREIGN_TABLE)) :
    MetFree l x (head1 (Jvm.Cond.code x code maxLocals ret :: ws) room_1) (fun a U => a = #[(.int vi0)] ∧ Z.Warmed39 U.vm ∧ U.heap = h0) (fun _ _ _ _ _ => True) (fun _ U o U' => ∃ v L, o = .returned v ∧ Q0_ttff Z vi0 w_VIEW w_TABLE w_FOREIGN_TABLE h0 n0 v U'.heap L ∧ FrameEnd U o U' L room_1.cells room_1.slots) := by
  refine MetFree.of_bodySF (plainFor_of_name pn_com_example_vernacular_vernacular_KindIsTablePinLaw) hisR ?_
  intro p e s m args below meth c s₁ Bd hml0 hP hK
  obtain ⟨rfl, hZ, hh⟩ := hP
  have hx := Bd.exec
  have hby := Bd.bytes
  have hml : c.maxLocals = 4 := hml0
  have hown : s.vm.findClass "com/example/vernacular/vernacular/KindIsTablePinLaw" = some m.cls := findClass_of_methodNamed Bd.named
  have hnm := (name_of_methodNamed Bd.named Bd.method).1
  have X0 : Stand p l e room_1 s m #[(.int vi0)] below meth c s₁ [] 0 0 := Stand.of_body Bd
  have e0 : s₁.heap = h0 := by rw [← hh, Bd.state]; rfl
  have N0 := Fr.nil n0
  have pre0 : ∀ t, Steps p.tables e below (s₁.setTop (mkF m 0 #[.val (.int vi0), .unset, .unset, .unset] [])) t → Steps p.tables e below (s₁.setTop (entryFrame m #[(.int vi0)] maxLocals)) t := fun t k => castTop (ef_0_ttff m vi0) k
  obtain ⟨T1, X1, e1, st1⟩ := getS2 X0 hx hZ hown (host := "") (Or.inl (wd_13 hw)) Via.refl e0 (S_VIEW.ext O0.2) (g := (mkF m 36 #[.val (.int vi0), .val (.int (vi0 &&& (3 : Int32))), .unset, .unset] [])) rfl (hb hby at_36)
  obtain ⟨cq2, kq2, q2a, q2b, q2c⟩ := isOf hZ e1 (E_w_VIEW.ext O0.2)
  obtain ⟨_, _, ⟨T2, L2, k2, n2⟩, -, X2, ⟨Lc2, hQ2, l2, y2, z2⟩, st2⟩ := X1.virtualBack hx (y := (⟨"com/example/vernacular/vernacular/Table$Kind", "isTable", "()Z"⟩ : MethodName)) (z := (⟨"com/example/vernacular/vernacular/Table$Kind", "isTable", "()Z"⟩ : MethodName)) hown (mvT hZ (wd_3 hw)) (mvT hZ (wd_4 hw)) (notFace_of_selects (args := #[]) (mvT hZ (wd_6 hw))) (mvT hZ (wd_6 hw)) (mvT hZ (wd_5 hw)) (by decide) (backOf (W := 0) (rm1_ft l Z a0 hw [] w_VIEW w_TABLE w_FOREIGN_TABLE h0 n0 Z0 S_TABLE O0 c52_ha4 S_FOREIGN_TABLE c52_ha11) hZ (wd_7 hw) (wd_1 hw) (by decide) (by decide)) q2a q2c (g := (mkF m 52 #[.val (.int vi0), .val (.int (vi0 &&& (3 : Int32))), .val (.ref w_VIEW), .val (.int (0 : Int32))] [(.ref w_VIEW)])) rfl (by rw [hml]; rfl) (Steps.refl _) (argsL := []) (rest := []) (lenOf pd_0 rfl) rfl (by show 2 * 0 + _ ≤ _; exact Nat.le_of_eq rfl) (hb hby at_52) (fun _ _ => ⟨rfl, e1, (by decide : 0 + 0 ≤ _), (by decide : 0 + 0 ≤ _)⟩)
  dsimp only [Pt.U, Pt.locs, Pt.cells, Pt.slots] at X2 l2 y2 z2 st2 hQ2
  subst l2 y2 z2
  obtain ⟨rfl, N2q, p2_0⟩ := hQ2
  have N2 := Fr.app N0 N2q
  have e2 : T2.heap = h0 := p2_0
  obtain ⟨fs, hr, hrun, hended, hW, hsame⟩ := X2.leave (v := some (.int (1 : Int32))) (fun h => by rw [Bd.returns] at h; cases h)
  refine ⟨_, _, pre0 _ ?_, hrun, hended, _, _, rfl, ?_, ⟨_, rfl⟩, hW, hsame.mono (by decide) (by decide)⟩
  · show Steps p.tables e below (s₁.setTop (mkF m 0 #[.val (.int vi0), .unset, .unset, .unset] [])) _
    refine XS.iloadN X0.here hx rfl (hb hby at_0) rfl ?_
    show Steps p.tables e below (s₁.setTop (mkF m 1 #[.val (.int vi0), .unset, .unset, .unset] [(.int vi0)])) _
    refine XS.iconst X0.here hx rfl (hb hby at_1) ?_
    show Steps p.tables e below (s₁.setTop (mkF m 2 #[.val (.int vi0), .unset, .unset, .unset] [(.int (3 : Int32)), (.int vi0)])) _
    refine XS.iand X0.here hx rfl (hb hby at_2) rfl ?_
    show Steps p.tables e below (s₁.setTop (mkF m 3 #[.val (.int vi0), .unset, .unset, .unset] [(.int (vi0 &&& (3 : Int32)))])) _
    refine XS.istoreN X0.here hx rfl (hb hby at_3) rfl (l' := #[.val (.int vi0), .val (.int (vi0 &&& (3 : Int32))), .unset, .unset]) rfl ?_
    show Steps p.tables e below (s₁.setTop (mkF m 4 #[.val (.int vi0), .val (.int (vi0 &&& (3 : Int32))), .unset, .unset] [])) _
    refine XS.iloadN X0.here hx rfl (hb hby at_4) rfl ?_
    show Steps p.tables e below (s₁.setTop (mkF m 5 #[.val (.int vi0), .val (.int (vi0 &&& (3 : Int32))), .unset, .unset] [(.int (vi0 &&& (3 : Int32)))])) _
    refine XS.ifYes X0.here hx rfl (pc0 := 5) (pc' := 17) rfl (hb hby at_5) rfl ((if0 _ _).trans (feq hc5).2) (by decide) (by decide) ?_
    show Steps p.tables e below (s₁.setTop (mkF m 17 #[.val (.int vi0), .val (.int (vi0 &&& (3 : Int32))), .unset, .unset] [])) _
    refine XS.iloadN X0.here hx rfl (hb hby at_17) rfl ?_
    show Steps p.tables e below (s₁.setTop (mkF m 18 #[.val (.int vi0), .val (.int (vi0 &&& (3 : Int32))), .unset, .unset] [(.int (vi0 &&& (3 : Int32)))])) _
    refine XS.iconst X0.here hx rfl (hb hby at_18) ?_
    show Steps p.tables e below (s₁.setTop (mkF m 19 #[.val (.int vi0), .val (.int (vi0 &&& (3 : Int32))), .unset, .unset] [(.int (1 : Int32)), (.int (vi0 &&& (3 : Int32)))])) _
    refine XS.icmpYes X0.here hx rfl (pc0 := 19) (pc' := 31) rfl (hb hby at_19) rfl (feq hc19).2 (by decide) (by decide) ?_
    show Steps p.tables e below (s₁.setTop (mkF m 31 #[.val (.int vi0), .val (.int (vi0 &&& (3 : Int32))), .unset, .unset] [])) _
    refine XS.iloadN X0.here hx rfl (hb hby at_31) rfl ?_
    show Steps p.tables e below (s₁.setTop (mkF m 32 #[.val (.int vi0), .val (.int (vi0 &&& (3 : Int32))), .unset, .unset] [(.int (vi0 &&& (3 : Int32)))])) _
    refine XS.iconst X0.here hx rfl (hb hby at_32) ?_
    show Steps p.tables e below (s₁.setTop (mkF m 33 #[.val (.int vi0), .val (.int (vi0 &&& (3 : Int32))), .unset, .unset] [(.int (2 : Int32)), (.int (vi0 &&& (3 : Int32)))])) _
    refine XS.icmpNo X0.here hx rfl (hb hby at_33) rfl (teq hc33).2 ?_
    show Steps p.tables e below (s₁.setTop (mkF m 36 #[.val (.int vi0), .val (.int (vi0 &&& (3 : Int32))), .unset, .unset] [])) _
    refine st1 _ ?_
    show Steps p.tables e below (T1.setTop (mkF m 39 #[.val (.int vi0), .val (.int (vi0 &&& (3 : Int32))), .unset, .unset] [(.ref w_VIEW)])) _
    refine XS.astoreN X1.here hx rfl (hb hby at_39) rfl rfl (l' := #[.val (.int vi0), .val (.int (vi0 &&& (3 : Int32))), .val (.ref w_VIEW), .unset]) rfl ?_
    show Steps p.tables e below (T1.setTop (mkF m 40 #[.val (.int vi0), .val (.int (vi0 &&& (3 : Int32))), .val (.ref w_VIEW), .unset] [])) _
    refine XS.iconst X1.here hx rfl (hb hby at_40) ?_
    show Steps p.tables e below (T1.setTop (mkF m 41 #[.val (.int vi0), .val (.int (vi0 &&& (3 : Int32))), .val (.ref w_VIEW), .unset] [(.int (0 : Int32))])) _
    refine XS.istoreN X1.here hx rfl (hb hby at_41) rfl (l' := #[.val (.int vi0), .val (.int (vi0 &&& (3 : Int32))), .val (.ref w_VIEW), .val (.int (0 : Int32))]) rfl ?_
    show Steps p.tables e below (T1.setTop (mkF m 42 #[.val (.int vi0), .val (.int (vi0 &&& (3 : Int32))), .val (.ref w_VIEW), .val (.int (0 : Int32))] [])) _
    refine XS.goto X1.here hx rfl (pc0 := 42) (pc' := 51) rfl (hb hby at_42) (by decide) (by decide) ?_
    show Steps p.tables e below (T1.setTop (mkF m 51 #[.val (.int vi0), .val (.int (vi0 &&& (3 : Int32))), .val (.ref w_VIEW), .val (.int (0 : Int32))] [])) _
    refine XS.aloadN X1.here hx rfl (hb hby at_51) rfl rfl ?_
    show Steps p.tables e below (T1.setTop (mkF m 52 #[.val (.int vi0), .val (.int (vi0 &&& (3 : Int32))), .val (.ref w_VIEW), .val (.int (0 : Int32))] [(.ref w_VIEW)])) _
    refine st2.trans ?_
    show Steps p.tables e below (T2.setTop (mkF m 55 #[.val (.int vi0), .val (.int (vi0 &&& (3 : Int32))), .val (.ref w_VIEW), .val (.int (0 : Int32))] [(.int (0 : Int32))])) _
    refine XS.iloadN X2.here hx rfl (hb hby at_55) rfl ?_
    show Steps p.tables e below (T2.setTop (mkF m 56 #[.val (.int vi0), .val (.int (vi0 &&& (3 : Int32))), .val (.ref w_VIEW), .val (.int (0 : Int32))] [(.int (0 : Int32)), (.int (0 : Int32))])) _
    refine XS.icmpNo X2.here hx rfl (hb hby at_56) rfl (teq (rfl : (0 : Int32) = (0 : Int32))).2 ?_
    show Steps p.tables e below (T2.setTop (mkF m 59 #[.val (.int vi0), .val (.int (vi0 &&& (3 : Int32))), .val (.ref w_VIEW), .val (.int (0 : Int32))] [])) _
    refine XS.iconst X2.here hx rfl (hb hby at_59) ?_
    show Steps p.tables e below (T2.setTop (mkF m 60 #[.val (.int vi0), .val (.int (vi0 &&& (3 : Int32))), .val (.ref w_VIEW), .val (.int (0 : Int32))] [(.int (1 : Int32))])) _
    refine XS.goto X2.here hx rfl (pc0 := 60) (pc' := 64) rfl (hb hby at_60) (by decide) (by decide) ?_
    show Steps p.tables e below (T2.setTop (mkF m 64 #[.val (.int vi0), .val (.int (vi0 &&& (3 : Int32))), .val (.ref w_VIEW), .val (.int (0 : Int32))] [(.int (1 : Int32))])) _
    exact retN X2 hx (t := .boolean) Bd.returns (by simp) (hb hby at_64) hr
  · show Q0_ttff Z vi0 w_VIEW w_TABLE w_FOREIGN_TABLE h0 n0 _ T2.heap _
    rw [e2]
    exact ⟨rfl, N2⟩
theorem wd_9 {Z : State} {a0 : Array Value} (hw : ∀ d ∈ tables_1, d.before a0 Z = true) : ((Jvm.Cond.fieldLink "com/example/vernacular/vernacular/KindIsTablePinLaw" (19 : Nat) "com/example/vernacular/vernacular/Table$Kind" "MATERIALIZED_VIEW" "Lcom/example/vernacular/vernacular/Table$Kind;")).before a0 Z = true := hw _ (List.mem_of_getElem? (i := 9) rfl)
theorem ef_0_tttf (m : MethodId) (x0 : Int32) : entryFrame m #[(.int x0)] maxLocals = mkF m 0 #[.val (.int x0), .unset, .unset, .unset] [] := by first | (simp [entryFrame, mkF, argsToLocals, Value.category, maxLocals]; done) | rfl
def Q0_tttf (Z : State) (vi0 : Int32) (w_MATERIALIZED_VIEW : Addr) (w_TABLE : Addr) (w_FOREIGN_TABLE : Addr) (h0 : Heap) (n0 : Nat) (v : Option Value) (h : Heap) (L : List Loc) : Prop := v = some (.int (1 : Int32)) ∧ Fr n0 L
set_option maxRecDepth 65536 in
set_option maxHeartbeats 40000000 in
theorem rm0_tttf (l : Launch) (Z : State) (a0 : Array Value) (hw : ∀ d ∈ tables_1, d.before a0 Z = true) (ws : List Jvm.Cond) (vi0 : Int32) (w_MATERIALIZED_VIEW : Addr) (w_TABLE : Addr) (w_FOREIGN_TABLE : Addr) (h0 : Heap) (n0 : Nat) (Z0 : n0 ≤ h0.size) (hc5 : ¬ ((vi0 &&& (3 : Int32)) = (0 : Int32))) (hc19 : ¬ ((vi0 &&& (3 : Int32)) = (1 : Int32))) (hc33 : ¬ ((vi0 &&& (3 : Int32)) = (2 : Int32))) (S_MATERIALIZED_VIEW : Sta Z Z.heap "com/example/vernacular/vernacular/Table$Kind" "MATERIALIZED_VIEW" "Lcom/example/vernacular/vernacular/Table$Kind;" (.ref w_MATERIALIZED_VIEW)) (O0 : Old Z n0 h0) (E_w_MATERIALIZED_VIEW : Exa Z Z.heap w_MATERIALIZED_VIEW "com/example/vernacular/vernacular/Table$Kind") (S_TABLE : Sta Z Z.heap "com/example/vernacular/vernacular/Table$Kind" "TABLE" "Lcom/example/vernacular/vernacular/Table$Kind;" (.ref w_TABLE)) (c52_ha4 : ¬ (w_MATERIALIZED_VIEW = w_TABLE)) (S_FOREIGN_TABLE : Sta Z Z.heap "com/example/vernacular/vernacular/Table$Kind" "FOREIGN_TABLE" "Lcom/example/vernacular/vernacular/Table$Kind;" (.ref w_FOREIGN_TABLE)) (c52_ha11 : ¬ (w_MATERIALIZED_VIEW = w_FOREIGN_TABLE)) :
    MetFree l x (head1 (Jvm.Cond.code x code maxLocals ret :: ws) room_1) (fun a U => a = #[(.int vi0)] ∧ Z.Warmed39 U.vm ∧ U.heap = h0) (fun _ _ _ _ _ => True) (fun _ U o U' => ∃ v L, o = .returned v ∧ Q0_tttf Z vi0 w_MATERIALIZED_VIEW w_TABLE w_FOREIGN_TABLE h0 n0 v U'.heap L ∧ FrameEnd U o U' L room_1.cells room_1.slots) := by
  refine MetFree.of_bodySF (plainFor_of_name pn_com_example_vernacular_vernacular_KindIsTablePinLaw) hisR ?_
  intro p e s m args below meth c s₁ Bd hml0 hP hK
  obtain ⟨rfl, hZ, hh⟩ := hP
  have hx := Bd.exec
  have hby := Bd.bytes
  have hml : c.maxLocals = 4 := hml0
  have hown : s.vm.findClass "com/example/vernacular/vernacular/KindIsTablePinLaw" = some m.cls := findClass_of_methodNamed Bd.named
  have hnm := (name_of_methodNamed Bd.named Bd.method).1
  have X0 : Stand p l e room_1 s m #[(.int vi0)] below meth c s₁ [] 0 0 := Stand.of_body Bd
  have e0 : s₁.heap = h0 := by rw [← hh, Bd.state]; rfl
  have N0 := Fr.nil n0
  have pre0 : ∀ t, Steps p.tables e below (s₁.setTop (mkF m 0 #[.val (.int vi0), .unset, .unset, .unset] [])) t → Steps p.tables e below (s₁.setTop (entryFrame m #[(.int vi0)] maxLocals)) t := fun t k => castTop (ef_0_tttf m vi0) k
  obtain ⟨T1, X1, e1, st1⟩ := getS2 X0 hx hZ hown (host := "") (Or.inl (wd_9 hw)) Via.refl e0 (S_MATERIALIZED_VIEW.ext O0.2) (g := (mkF m 45 #[.val (.int vi0), .val (.int (vi0 &&& (3 : Int32))), .unset, .unset] [])) rfl (hb hby at_45)
  obtain ⟨cq2, kq2, q2a, q2b, q2c⟩ := isOf hZ e1 (E_w_MATERIALIZED_VIEW.ext O0.2)
  obtain ⟨_, _, ⟨T2, L2, k2, n2⟩, -, X2, ⟨Lc2, hQ2, l2, y2, z2⟩, st2⟩ := X1.virtualBack hx (y := (⟨"com/example/vernacular/vernacular/Table$Kind", "isTable", "()Z"⟩ : MethodName)) (z := (⟨"com/example/vernacular/vernacular/Table$Kind", "isTable", "()Z"⟩ : MethodName)) hown (mvT hZ (wd_3 hw)) (mvT hZ (wd_4 hw)) (notFace_of_selects (args := #[]) (mvT hZ (wd_6 hw))) (mvT hZ (wd_6 hw)) (mvT hZ (wd_5 hw)) (by decide) (backOf (W := 0) (rm1_ft l Z a0 hw [] w_MATERIALIZED_VIEW w_TABLE w_FOREIGN_TABLE h0 n0 Z0 S_TABLE O0 c52_ha4 S_FOREIGN_TABLE c52_ha11) hZ (wd_7 hw) (wd_1 hw) (by decide) (by decide)) q2a q2c (g := (mkF m 52 #[.val (.int vi0), .val (.int (vi0 &&& (3 : Int32))), .val (.ref w_MATERIALIZED_VIEW), .val (.int (0 : Int32))] [(.ref w_MATERIALIZED_VIEW)])) rfl (by rw [hml]; rfl) (Steps.refl _) (argsL := []) (rest := []) (lenOf pd_0 rfl) rfl (by show 2 * 0 + _ ≤ _; exact Nat.le_of_eq rfl) (hb hby at_52) (fun _ _ => ⟨rfl, e1, (by decide : 0 + 0 ≤ _), (by decide : 0 + 0 ≤ _)⟩)
  dsimp only [Pt.U, Pt.locs, Pt.cells, Pt.slots] at X2 l2 y2 z2 st2 hQ2
  subst l2 y2 z2
  obtain ⟨rfl, N2q, p2_0⟩ := hQ2
  have N2 := Fr.app N0 N2q
  have e2 : T2.heap = h0 := p2_0
  obtain ⟨fs, hr, hrun, hended, hW, hsame⟩ := X2.leave (v := some (.int (1 : Int32))) (fun h => by rw [Bd.returns] at h; cases h)
  refine ⟨_, _, pre0 _ ?_, hrun, hended, _, _, rfl, ?_, ⟨_, rfl⟩, hW, hsame.mono (by decide) (by decide)⟩
  · show Steps p.tables e below (s₁.setTop (mkF m 0 #[.val (.int vi0), .unset, .unset, .unset] [])) _
    refine XS.iloadN X0.here hx rfl (hb hby at_0) rfl ?_
    show Steps p.tables e below (s₁.setTop (mkF m 1 #[.val (.int vi0), .unset, .unset, .unset] [(.int vi0)])) _
    refine XS.iconst X0.here hx rfl (hb hby at_1) ?_
    show Steps p.tables e below (s₁.setTop (mkF m 2 #[.val (.int vi0), .unset, .unset, .unset] [(.int (3 : Int32)), (.int vi0)])) _
    refine XS.iand X0.here hx rfl (hb hby at_2) rfl ?_
    show Steps p.tables e below (s₁.setTop (mkF m 3 #[.val (.int vi0), .unset, .unset, .unset] [(.int (vi0 &&& (3 : Int32)))])) _
    refine XS.istoreN X0.here hx rfl (hb hby at_3) rfl (l' := #[.val (.int vi0), .val (.int (vi0 &&& (3 : Int32))), .unset, .unset]) rfl ?_
    show Steps p.tables e below (s₁.setTop (mkF m 4 #[.val (.int vi0), .val (.int (vi0 &&& (3 : Int32))), .unset, .unset] [])) _
    refine XS.iloadN X0.here hx rfl (hb hby at_4) rfl ?_
    show Steps p.tables e below (s₁.setTop (mkF m 5 #[.val (.int vi0), .val (.int (vi0 &&& (3 : Int32))), .unset, .unset] [(.int (vi0 &&& (3 : Int32)))])) _
    refine XS.ifYes X0.here hx rfl (pc0 := 5) (pc' := 17) rfl (hb hby at_5) rfl ((if0 _ _).trans (feq hc5).2) (by decide) (by decide) ?_
    show Steps p.tables e below (s₁.setTop (mkF m 17 #[.val (.int vi0), .val (.int (vi0 &&& (3 : Int32))), .unset, .unset] [])) _
    refine XS.iloadN X0.here hx rfl (hb hby at_17) rfl ?_
    show Steps p.tables e below (s₁.setTop (mkF m 18 #[.val (.int vi0), .val (.int (vi0 &&& (3 : Int32))), .unset, .unset] [(.int (vi0 &&& (3 : Int32)))])) _
    refine XS.iconst X0.here hx rfl (hb hby at_18) ?_
    show Steps p.tables e below (s₁.setTop (mkF m 19 #[.val (.int vi0), .val (.int (vi0 &&& (3 : Int32))), .unset, .unset] [(.int (1 : Int32)), (.int (vi0 &&& (3 : Int32)))])) _
    refine XS.icmpYes X0.here hx rfl (pc0 := 19) (pc' := 31) rfl (hb hby at_19) rfl (feq hc19).2 (by decide) (by decide) ?_
    show Steps p.tables e below (s₁.setTop (mkF m 31 #[.val (.int vi0), .val (.int (vi0 &&& (3 : Int32))), .unset, .unset] [])) _
    refine XS.iloadN X0.here hx rfl (hb hby at_31) rfl ?_
    show Steps p.tables e below (s₁.setTop (mkF m 32 #[.val (.int vi0), .val (.int (vi0 &&& (3 : Int32))), .unset, .unset] [(.int (vi0 &&& (3 : Int32)))])) _
    refine XS.iconst X0.here hx rfl (hb hby at_32) ?_
    show Steps p.tables e below (s₁.setTop (mkF m 33 #[.val (.int vi0), .val (.int (vi0 &&& (3 : Int32))), .unset, .unset] [(.int (2 : Int32)), (.int (vi0 &&& (3 : Int32)))])) _
    refine XS.icmpYes X0.here hx rfl (pc0 := 33) (pc' := 45) rfl (hb hby at_33) rfl (feq hc33).2 (by decide) (by decide) ?_
    show Steps p.tables e below (s₁.setTop (mkF m 45 #[.val (.int vi0), .val (.int (vi0 &&& (3 : Int32))), .unset, .unset] [])) _
    refine st1 _ ?_
    show Steps p.tables e below (T1.setTop (mkF m 48 #[.val (.int vi0), .val (.int (vi0 &&& (3 : Int32))), .unset, .unset] [(.ref w_MATERIALIZED_VIEW)])) _
    refine XS.astoreN X1.here hx rfl (hb hby at_48) rfl rfl (l' := #[.val (.int vi0), .val (.int (vi0 &&& (3 : Int32))), .val (.ref w_MATERIALIZED_VIEW), .unset]) rfl ?_
    show Steps p.tables e below (T1.setTop (mkF m 49 #[.val (.int vi0), .val (.int (vi0 &&& (3 : Int32))), .val (.ref w_MATERIALIZED_VIEW), .unset] [])) _
    refine XS.iconst X1.here hx rfl (hb hby at_49) ?_
    show Steps p.tables e below (T1.setTop (mkF m 50 #[.val (.int vi0), .val (.int (vi0 &&& (3 : Int32))), .val (.ref w_MATERIALIZED_VIEW), .unset] [(.int (0 : Int32))])) _
    refine XS.istoreN X1.here hx rfl (hb hby at_50) rfl (l' := #[.val (.int vi0), .val (.int (vi0 &&& (3 : Int32))), .val (.ref w_MATERIALIZED_VIEW), .val (.int (0 : Int32))]) rfl ?_
    show Steps p.tables e below (T1.setTop (mkF m 51 #[.val (.int vi0), .val (.int (vi0 &&& (3 : Int32))), .val (.ref w_MATERIALIZED_VIEW), .val (.int (0 : Int32))] [])) _
    refine XS.aloadN X1.here hx rfl (hb hby at_51) rfl rfl ?_
    show Steps p.tables e below (T1.setTop (mkF m 52 #[.val (.int vi0), .val (.int (vi0 &&& (3 : Int32))), .val (.ref w_MATERIALIZED_VIEW), .val (.int (0 : Int32))] [(.ref w_MATERIALIZED_VIEW)])) _
    refine st2.trans ?_
    show Steps p.tables e below (T2.setTop (mkF m 55 #[.val (.int vi0), .val (.int (vi0 &&& (3 : Int32))), .val (.ref w_MATERIALIZED_VIEW), .val (.int (0 : Int32))] [(.int (0 : Int32))])) _
    refine XS.iloadN X2.here hx rfl (hb hby at_55) rfl ?_
    show Steps p.tables e below (T2.setTop (mkF m 56 #[.val (.int vi0), .val (.int (vi0 &&& (3 : Int32))), .val (.ref w_MATERIALIZED_VIEW), .val (.int (0 : Int32))] [(.int (0 : Int32)), (.int (0 : Int32))])) _
    refine XS.icmpNo X2.here hx rfl (hb hby at_56) rfl (teq (rfl : (0 : Int32) = (0 : Int32))).2 ?_
    show Steps p.tables e below (T2.setTop (mkF m 59 #[.val (.int vi0), .val (.int (vi0 &&& (3 : Int32))), .val (.ref w_MATERIALIZED_VIEW), .val (.int (0 : Int32))] [])) _
    refine XS.iconst X2.here hx rfl (hb hby at_59) ?_
    show Steps p.tables e below (T2.setTop (mkF m 60 #[.val (.int vi0), .val (.int (vi0 &&& (3 : Int32))), .val (.ref w_MATERIALIZED_VIEW), .val (.int (0 : Int32))] [(.int (1 : Int32))])) _
    refine XS.goto X2.here hx rfl (pc0 := 60) (pc' := 64) rfl (hb hby at_60) (by decide) (by decide) ?_
    show Steps p.tables e below (T2.setTop (mkF m 64 #[.val (.int vi0), .val (.int (vi0 &&& (3 : Int32))), .val (.ref w_MATERIALIZED_VIEW), .val (.int (0 : Int32))] [(.int (1 : Int32))])) _
    exact retN X2 hx (t := .boolean) Bd.returns (by simp) (hb hby at_64) hr
  · show Q0_tttf Z vi0 w_MATERIALIZED_VIEW w_TABLE w_FOREIGN_TABLE h0 n0 _ T2.heap _
    rw [e2]
    exact ⟨rfl, N2⟩
theorem own_ne {args : Array Value} {s : State} {t1 t2 : Term} {C n d : String} {x1 x2 : Addr} {i j : Int32} (e1 : t1.eval args s none [] s = some (.ref x1)) (e2 : t2.eval args s none [] s = some (.ref x2))
    (h1 : (Cond.eq (Term.field t1 C n d) (Term.int i)).value args s none s [] = some true) (h2 : (Cond.eq (Term.field t2 C n d) (Term.int j)).value args s none s [] = some true) (hij : i ≠ j) : ¬ (x1 = x2) := by
  intro q
  subst q
  have a := eqv_i (Term.int_eval i) h1
  have b := eqv_i (Term.int_eval j) h2
  rw [fld_at e1] at a
  rw [fld_at e2] at b
  exact hij (Value.int.inj (Option.some.inj (a.symm.trans b)))
theorem wd_2 {Z : State} {a0 : Array Value} (hw : ∀ d ∈ tables_1, d.before a0 Z = true) : ((Jvm.Cond.laysStatic "com/example/vernacular/vernacular/Table$Kind" "TABLE" "Lcom/example/vernacular/vernacular/Table$Kind;")).before a0 Z = true := hw _ (List.mem_of_getElem? (i := 2) rfl)
theorem wd_12 {Z : State} {a0 : Array Value} (hw : ∀ d ∈ tables_1, d.before a0 Z = true) : ((Jvm.Cond.laysStatic "com/example/vernacular/vernacular/Table$Kind" "FOREIGN_TABLE" "Lcom/example/vernacular/vernacular/Table$Kind;")).before a0 Z = true := hw _ (List.mem_of_getElem? (i := 12) rfl)
theorem wd_14 {Z : State} {a0 : Array Value} (hw : ∀ d ∈ tables_1, d.before a0 Z = true) : ((Jvm.Cond.laysStatic "com/example/vernacular/vernacular/Table$Kind" "VIEW" "Lcom/example/vernacular/vernacular/Table$Kind;")).before a0 Z = true := hw _ (List.mem_of_getElem? (i := 14) rfl)
theorem wd_10 {Z : State} {a0 : Array Value} (hw : ∀ d ∈ tables_1, d.before a0 Z = true) : ((Jvm.Cond.laysStatic "com/example/vernacular/vernacular/Table$Kind" "MATERIALIZED_VIEW" "Lcom/example/vernacular/vernacular/Table$Kind;")).before a0 Z = true := hw _ (List.mem_of_getElem? (i := 10) rfl)
set_option maxRecDepth 65536 in
theorem rmL (l : Launch) (Z : State) (a0 : Array Value) (hw : ∀ d ∈ tables_1, d.before a0 Z = true) (ws : List Jvm.Cond) (v : Int32) (aT aF aV aM : Addr) (h0 : Heap) (n0 : Nat) (Z0 : n0 ≤ h0.size) (O0 : Old Z n0 h0) (ST : Sta Z Z.heap "com/example/vernacular/vernacular/Table$Kind" "TABLE" "Lcom/example/vernacular/vernacular/Table$Kind;" (.ref aT)) (ET : Exa Z Z.heap aT "com/example/vernacular/vernacular/Table$Kind") (SF : Sta Z Z.heap "com/example/vernacular/vernacular/Table$Kind" "FOREIGN_TABLE" "Lcom/example/vernacular/vernacular/Table$Kind;" (.ref aF)) (EF : Exa Z Z.heap aF "com/example/vernacular/vernacular/Table$Kind") (SV : Sta Z Z.heap "com/example/vernacular/vernacular/Table$Kind" "VIEW" "Lcom/example/vernacular/vernacular/Table$Kind;" (.ref aV)) (EV : Exa Z Z.heap aV "com/example/vernacular/vernacular/Table$Kind") (SM : Sta Z Z.heap "com/example/vernacular/vernacular/Table$Kind" "MATERIALIZED_VIEW" "Lcom/example/vernacular/vernacular/Table$Kind;" (.ref aM)) (EM : Exa Z Z.heap aM "com/example/vernacular/vernacular/Table$Kind") (hFT : ¬ (aF = aT)) (hVT : ¬ (aV = aT)) (hVF : ¬ (aV = aF)) (hMT : ¬ (aM = aT)) (hMF : ¬ (aM = aF)) :
    MetFree l x (head1 (Jvm.Cond.code x code maxLocals ret :: ws) room_1) (fun a U => a = #[(.int v)] ∧ Z.Warmed39 U.vm ∧ U.heap = h0) (fun _ _ _ _ _ => True) (fun _ U o U' => ∃ v L, o = .returned v ∧ (v = some (.int (1 : Int32)) ∧ Fr n0 L) ∧ FrameEnd U o U' L room_1.cells room_1.slots) := by
  by_cases c0 : (v &&& (3 : Int32)) = (0 : Int32)
  · exact rm0_ff l Z a0 hw ws v aT h0 n0 Z0 c0 ST O0 ET
  · by_cases c1 : (v &&& (3 : Int32)) = (1 : Int32)
    · exact rm0_tff l Z a0 hw ws v aF aT h0 n0 Z0 c0 c1 SF O0 EF ST hFT
    · by_cases c2 : (v &&& (3 : Int32)) = (2 : Int32)
      · exact rm0_ttff l Z a0 hw ws v aV aT aF h0 n0 Z0 c0 c1 c2 SV O0 EV ST hVT SF hVF
      · exact rm0_tttf l Z a0 hw ws v aM aT aF h0 n0 Z0 c0 c1 c2 SM O0 EM ST hMT SF hMF
set_option maxRecDepth 65536 in
set_option maxHeartbeats 40000000 in
theorem comes_1 {Post : Tables → Env → Array Value → State → Outcome → State → Prop} (hpost : ∀ tb e args s v u, (limb_1_1.after args s (.returned v) u = true ∧ limb_1_2.after args s (.returned v) u = true ∧ True) → FrameEnd s (.returned v) u (Jvm.fieldLocs frame_1_writes args s ++ Jvm.arrayLocs frame_1_arrays args s ++ Jvm.staticLocs frame_1_statics s) 0 0 → Post tb e args s (.returned v) u) :
    ArmFor flags0 classFile x code maxLocals ret World_1 tables_1 room_1 Calls_1 rest_1 Pre_1 Post := by
  intro l hfl _ _ p e ha hc hk s m args below hf hA hF happ hP
  obtain ⟨hcalls, hrest, hpre⟩ := hP
  obtain ⟨-, -, -, hnamed, -, -, -, hat⟩ := (Spec.applies_iff hf).mp happ
  obtain ⟨hg, hn⟩ := and_e (Cond.before_iff.mp (show (Jvm.Cond.and given_1 narrow_1).before args s = true from hpre))
  obtain ⟨gc, hg⟩ := and_e hg
  have ga0 := hg
  obtain ⟨w0, rfl⟩ : ∃ w0 : Value, args = #[w0] := by
    have hs : args.size = 1 := by simpa [Cond.value, given_1] using gc
    obtain ⟨L⟩ := args
    match L, hs with
    | [w0], _ => exact ⟨w0, rfl⟩
  have hw := fun d (hd : d ∈ tables_1) => atoms_spec (ws := Jvm.Cond.code x code maxLocals ret :: tables_1) hat d (List.mem_cons_of_mem _ hd)
  obtain ⟨i0, ei0⟩ := is_v ga0
  obtain rfl : w0 = (.int i0) := Option.some.inj ei0
  obtain ⟨hxT, hn⟩ := and_e hn
  obtain ⟨hxM, hn⟩ := and_e hn
  obtain ⟨hoM, hn⟩ := and_e hn
  obtain ⟨hoT, hn⟩ := and_e hn
  obtain ⟨hxF, hn⟩ := and_e hn
  obtain ⟨hoF, hn⟩ := and_e hn
  obtain ⟨hxV, hn⟩ := and_e hn
  have hoV := hn
  obtain ⟨aT, eT⟩ := exa_v hxT
  have ST : Sta s s.heap "com/example/vernacular/vernacular/Table$Kind" "TABLE" "Lcom/example/vernacular/vernacular/Table$Kind;" (.ref aT) := Sta.start eT (Or.inr ⟨(wd_1 hw), (wd_2 hw)⟩)
  have ET : Exa s s.heap aT "com/example/vernacular/vernacular/Table$Kind" := Exa.start eT hxT
  obtain ⟨aF, eF⟩ := exa_v hxF
  have SF : Sta s s.heap "com/example/vernacular/vernacular/Table$Kind" "FOREIGN_TABLE" "Lcom/example/vernacular/vernacular/Table$Kind;" (.ref aF) := Sta.start eF (Or.inr ⟨(wd_1 hw), (wd_12 hw)⟩)
  have EF : Exa s s.heap aF "com/example/vernacular/vernacular/Table$Kind" := Exa.start eF hxF
  obtain ⟨aV, eV⟩ := exa_v hxV
  have SV : Sta s s.heap "com/example/vernacular/vernacular/Table$Kind" "VIEW" "Lcom/example/vernacular/vernacular/Table$Kind;" (.ref aV) := Sta.start eV (Or.inr ⟨(wd_1 hw), (wd_14 hw)⟩)
  have EV : Exa s s.heap aV "com/example/vernacular/vernacular/Table$Kind" := Exa.start eV hxV
  obtain ⟨aM, eM⟩ := exa_v hxM
  have SM : Sta s s.heap "com/example/vernacular/vernacular/Table$Kind" "MATERIALIZED_VIEW" "Lcom/example/vernacular/vernacular/Table$Kind;" (.ref aM) := Sta.start eM (Or.inr ⟨(wd_1 hw), (wd_10 hw)⟩)
  have EM : Exa s s.heap aM "com/example/vernacular/vernacular/Table$Kind" := Exa.start eM hxM
  obtain ⟨n, o, h1, h2, h3, _, L, rfl, ⟨rfl, N⟩, hq⟩ := rmL l s _ hw tables_1 i0 aT aF aV aM s.heap s.heap.size (Nat.le_refl _) (Old.start s) ST ET SF EF SV EV SM EM (own_ne eF eT hoF hoT (by decide)) (own_ne eV eT hoV hoT (by decide)) (own_ne eV eF hoV hoF (by decide)) (own_ne eM eT hoM hoT (by decide)) (own_ne eM eF hoM hoF (by decide)) p e ha hc hk s m _ below hf ((Spec.applies_iff_loose hf).mp happ).1 ⟨rfl, State.Warmed39.refl s, rfl⟩ trivial
  refine ⟨n, _, h1, h2, h3, hpost _ _ _ _ _ _ ⟨Cond.after_iff.mpr rfl, Cond.after_iff.mpr (eq_i res_at (Term.int_eval (1)) rfl), trivial⟩ ⟨hq.1, hq.2.1, (hq.2.2.sift fun y hy => Or.inr (N y hy)).mono (by decide) (by decide)⟩⟩
theorem main_1_1 : Claimed_1_1 := comes_1 fun _ _ _ _ _ _ h hF => ⟨h.1, hF⟩
theorem main_1_2 : Claimed_1_2 := comes_1 fun _ _ _ _ _ _ h hF => ⟨h.2.1, hF⟩
end Jvm.Pilot.@@N@@
namespace Jvm.Pilot.@@N@@
open Jvm Jvm.ClassFile Sem Op Lib Jvm.Free Jvm.Stand Jvm.Pilot.@@N@@.Jvm.D
/-! MADE BY PROGRAM (witnessworld.py) out of the Statement's table words and the real class files: 10 classes; the members and pool entries that the words name. The judged class is class 1, her method 1. -/
namespace start1
open Jvm.ClassFile
def u (s : String) : CpInfo := .utf8 (stringToUtf16 s)
/-- a pool by its gaps: so many unusable entries, then the entry; so many at the end -/
def gap : Nat → List CpInfo → List CpInfo
  | 0, r => r
  | n + 1, r => .unusable :: gap n r
def poolList (es : List (Nat × CpInfo)) (last : Nat) : List CpInfo := es.foldr (fun e r => gap e.1 (e.2 :: r)) (gap last [])
def pool (es : List (Nat × CpInfo)) (last : Nat) : Array CpInfo := ⟨poolList es last⟩
def fileOf (pool : Array CpInfo) (this : Nat) (attrs : Array Attribute := #[]) (ms : Array MethodInfo := #[]) (fl : Nat := 33) (sup : Nat := 0) (ifs : Array Nat := #[]) (fds : Array FieldInfo := #[]) : ClassFile where
  minorVersion := 0
  majorVersion := 65
  constantPool := pool
  accessFlags := fl
  thisClass := this
  superClass := sup
  interfaces := ifs
  fields := fds
  methods := ms
  attributes := attrs
def plain (name : String) (sup : Option ClassId) : Class where
  name := name
  kind := .ordinary
  loader := none
  accessFlags := 33
  super := sup
  interfaces := #[]
  cf := none
  fields := #[]
  methods := #[]
  instanceTypes := #[]
  staticTypes := #[]
  resolved := #[]
  callSites := []
  init := .initialized
  statics := none
  mirror := none

def pool0 : Array CpInfo := pool [(5, u "<init>"), (0, u "()V"), (1, .class_ 10), (1, u "java/lang/Object")] 113

def k0m0 : Method := { name := "<init>", desc := "()V", sig := { parameters := [], returnType := none }, accessFlags := 1, code := none }
/-- java/lang/Object -/
def k0 : Class := { plain "java/lang/Object" none with
  accessFlags := 33
  interfaces := #[]
  cf := some (fileOf pool0 8 #[] #[{ accessFlags := 1, nameIndex := 5, descriptorIndex := 6, attributes := #[] }] 33 0 #[] #[])
  fields := #[]
  methods := #[k0m0]
  instanceTypes := #[]
  staticTypes := #[]
  resolved := Array.replicate 124 none
  statics := none }

def pool1 : Array CpInfo := pool [(2, .class_ 4), (1, u "java/lang/Object"), (0, u "<init>"), (0, u "()V"), (0, .fieldref 8 9), (0, .class_ 10), (0, .nameAndType 11 12), (0, u "com/example/vernacular/vernacular/Table$Kind"), (0, u "TABLE"), (0, u "Lcom/example/vernacular/vernacular/Table$Kind;"), (0, .fieldref 8 14), (0, .nameAndType 15 12), (0, u "FOREIGN_TABLE"), (0, .fieldref 8 17), (0, .nameAndType 18 12), (0, u "VIEW"), (0, .fieldref 8 20), (0, .nameAndType 21 12), (0, u "MATERIALIZED_VIEW"), (0, .methodref 8 23), (0, .nameAndType 24 25), (0, u "isTable"), (0, u "()Z"), (0, .class_ 27), (0, u "com/example/vernacular/vernacular/KindIsTablePinLaw"), (2, u "law"), (0, u "(I)Z")] 7

def k1m0 : Method := { name := "<init>", desc := "()V", sig := { parameters := [], returnType := none }, accessFlags := 1, code := none }
def k1c1 : Code := { maxStack := 2, maxLocals := 4, code := code, exceptionTable := #[], attributes := #[] }
def k1m1 : Method := { name := "law", desc := "(I)Z", sig := { parameters := [.int], returnType := some .boolean }, accessFlags := 9, code := some k1c1 }
/-- com/example/vernacular/vernacular/KindIsTablePinLaw -/
def k1 : Class := { plain "com/example/vernacular/vernacular/KindIsTablePinLaw" (some 0) with
  accessFlags := 49
  interfaces := #[]
  cf := some (fileOf pool1 26 #[] #[{ accessFlags := 1, nameIndex := 5, descriptorIndex := 6, attributes := #[] }, { accessFlags := 9, nameIndex := 30, descriptorIndex := 31, attributes := #[] }] 49 2 #[] #[])
  fields := #[]
  methods := #[k1m0, k1m1]
  instanceTypes := #[]
  staticTypes := #[]
  resolved := Array.replicate 39 none
  statics := none }

def pool2 : Array CpInfo := pool [(1, .class_ 2), (0, u "java/lang/constant/Constable"), (0, .class_ 4), (0, u "java/lang/Object")] 6

/-- java/lang/constant/Constable -/
def k2 : Class := { plain "java/lang/constant/Constable" (some 0) with
  accessFlags := 1537
  interfaces := #[]
  cf := some (fileOf pool2 1 #[] #[] 1537 3 #[] #[])
  fields := #[]
  methods := #[]
  instanceTypes := #[]
  staticTypes := #[]
  resolved := Array.replicate 11 none
  statics := none }

def pool3 : Array CpInfo := pool [(1, .class_ 2), (0, u "java/lang/Comparable"), (0, .class_ 4), (0, u "java/lang/Object")] 7

/-- java/lang/Comparable -/
def k3 : Class := { plain "java/lang/Comparable" (some 0) with
  accessFlags := 1537
  interfaces := #[]
  cf := some (fileOf pool3 1 #[] #[] 1537 3 #[] #[])
  fields := #[]
  methods := #[]
  instanceTypes := #[]
  staticTypes := #[]
  resolved := Array.replicate 12 none
  statics := none }

def pool4 : Array CpInfo := pool [(1, .class_ 2), (0, u "java/io/Serializable"), (0, .class_ 4), (0, u "java/lang/Object")] 2

/-- java/io/Serializable -/
def k4 : Class := { plain "java/io/Serializable" (some 0) with
  accessFlags := 1537
  interfaces := #[]
  cf := some (fileOf pool4 1 #[] #[] 1537 3 #[] #[])
  fields := #[]
  methods := #[]
  instanceTypes := #[]
  staticTypes := #[]
  resolved := Array.replicate 7 none
  statics := none }

def pool5 : Array CpInfo := pool [(2, .class_ 4), (1, u "java/lang/Enum"), (0, u "name"), (0, u "Ljava/lang/String;"), (2, u "ordinal"), (0, u "I"), (1, .class_ 14), (1, u "java/lang/Object"), (4, u "hash"), (86, .class_ 108), (1, u "java/lang/Enum$EnumDesc"), (2, .class_ 112), (0, u "java/lang/constant/Constable"), (0, .class_ 114), (0, u "java/lang/Comparable"), (0, .class_ 116), (0, u "java/io/Serializable")] 87

/-- java/lang/Enum -/
def k5 : Class := { plain "java/lang/Enum" (some 0) with
  accessFlags := 1057
  interfaces := #[2, 3, 4]
  cf := some (fileOf pool5 2 #[.nestMembers #[106]] #[] 1057 12 #[111, 113, 115] #[{ accessFlags := 18, nameIndex := 5, descriptorIndex := 6, attributes := #[] }, { accessFlags := 18, nameIndex := 9, descriptorIndex := 10, attributes := #[] }, { accessFlags := 2, nameIndex := 19, descriptorIndex := 10, attributes := #[] }])
  fields := #[{ name := "name", type := (.object "java/lang/String"), accessFlags := 18, slot := 0, constantValue := 0 }, { name := "ordinal", type := .int, accessFlags := 18, slot := 1, constantValue := 0 }, { name := "hash", type := .int, accessFlags := 2, slot := 2, constantValue := 0 }]
  methods := #[]
  instanceTypes := #[(.object "java/lang/String"), .int, .int]
  staticTypes := #[]
  resolved := Array.replicate 204 none
  statics := none }

def pool6 : Array CpInfo := pool [(1, .class_ 2), (0, u "com/example/vernacular/vernacular/Table$Kind"), (0, .fieldref 1 4), (0, .nameAndType 5 6), (0, u "TABLE"), (0, u "Lcom/example/vernacular/vernacular/Table$Kind;"), (0, .fieldref 1 8), (0, .nameAndType 9 6), (0, u "FOREIGN_TABLE"), (2, u "VIEW"), (2, u "MATERIALIZED_VIEW"), (2, u "$VALUES"), (0, u "[Lcom/example/vernacular/vernacular/Table$Kind;"), (6, .class_ 28), (1, u "java/lang/Enum"), (22, u "isTable"), (0, u "()Z"), (6, .class_ 60), (0, u "com/example/vernacular/vernacular/Table")] 2

def k6c0 : Code := { maxStack := 2, maxLocals := 1, code := prog_98_method_4_code, exceptionTable := #[], attributes := #[] }
def k6m0 : Method := { name := "isTable", desc := "()Z", sig := { parameters := [], returnType := some .boolean }, accessFlags := 0, code := some k6c0 }
/-- com/example/vernacular/vernacular/Table$Kind -/
def k6 : Class := { plain "com/example/vernacular/vernacular/Table$Kind" (some 5) with
  accessFlags := 16432
  interfaces := #[]
  cf := some (fileOf pool6 1 #[.nestHost 59] #[{ accessFlags := 0, nameIndex := 51, descriptorIndex := 52, attributes := #[] }] 16432 26 #[] #[{ accessFlags := 16409, nameIndex := 5, descriptorIndex := 6, attributes := #[] }, { accessFlags := 16409, nameIndex := 9, descriptorIndex := 6, attributes := #[] }, { accessFlags := 16409, nameIndex := 12, descriptorIndex := 6, attributes := #[] }, { accessFlags := 16409, nameIndex := 15, descriptorIndex := 6, attributes := #[] }, { accessFlags := 4122, nameIndex := 18, descriptorIndex := 19, attributes := #[] }])
  fields := #[{ name := "TABLE", type := (.object "com/example/vernacular/vernacular/Table$Kind"), accessFlags := 16409, slot := 0, constantValue := 0 }, { name := "FOREIGN_TABLE", type := (.object "com/example/vernacular/vernacular/Table$Kind"), accessFlags := 16409, slot := 1, constantValue := 0 }, { name := "VIEW", type := (.object "com/example/vernacular/vernacular/Table$Kind"), accessFlags := 16409, slot := 2, constantValue := 0 }, { name := "MATERIALIZED_VIEW", type := (.object "com/example/vernacular/vernacular/Table$Kind"), accessFlags := 16409, slot := 3, constantValue := 0 }, { name := "$VALUES", type := (.array (.object "com/example/vernacular/vernacular/Table$Kind")), accessFlags := 4122, slot := 4, constantValue := 0 }]
  methods := #[k6m0]
  instanceTypes := #[(.object "java/lang/String"), .int, .int]
  staticTypes := #[(.object "com/example/vernacular/vernacular/Table$Kind"), (.object "com/example/vernacular/vernacular/Table$Kind"), (.object "com/example/vernacular/vernacular/Table$Kind"), (.object "com/example/vernacular/vernacular/Table$Kind"), (.array (.object "com/example/vernacular/vernacular/Table$Kind"))]
  resolved := Array.replicate 63 none
  statics := some 0 }

def pool7 : Array CpInfo := pool [(1, u "java/lang/Cloneable"), (0, .class_ 1), (0, u "java/lang/Object"), (0, .class_ 3)] 3

/-- java/lang/Cloneable -/
def k7 : Class := { plain "java/lang/Cloneable" (some 0) with
  accessFlags := 1537
  interfaces := #[]
  cf := some (fileOf pool7 2 #[] #[] 1537 4 #[] #[])
  fields := #[]
  methods := #[]
  instanceTypes := #[]
  staticTypes := #[]
  resolved := Array.replicate 8 none
  statics := none }

/-- the primitive byte -/
def k8 : Class := { plain "byte" none with kind := .primitive 'B', accessFlags := 0x411 }
/-- [B -/
def k9 : Class := { plain "[B" (some 0) with kind := .array 8 .byte, interfaces := #[7, 4], accessFlags := 1041 }

def heap : Heap := #[{ cls := 6, slots := #[.ref 1, .ref 2, .ref 3, .ref 4, .null], vm := .statics 6 },
  { cls := 6, slots := #[.null, .int 0, .int 0], vm := .none },
  { cls := 6, slots := #[.null, .int 1, .int 0], vm := .none },
  { cls := 6, slots := #[.null, .int 2, .int 0], vm := .none },
  { cls := 6, slots := #[.null, .int 3, .int 0], vm := .none }]
def classes : Array Class := #[k0, k1, k2, k3, k4, k5, k6, k7, k8, k9]
def interned : List (Array UInt16 × Addr) := []
def slotsUsed : Nat := 17
def theMethod : MethodId := ⟨1, 1⟩
def args0 : Array Value := #[.int 5]
def aboutOver (below : List Frame) : State where
  vm := { classes := classes, interned := interned.toArray }
  heap := heap
  slotsUsed := slotsUsed
  threads := #[{ frames := .invoking theMethod args0 :: below }]
def below0 : List Frame := [.native { method := ⟨0, 0⟩, args := #[] }]
def about1 : State := aboutOver below0
def p0 : Program := .bare "" "" ""
def e0 : Env := launch0.env 0 0 0
theorem w_frames : about1.frames = Frame.invoking theMethod args0 :: below0 := rfl
set_option maxRecDepth 65536 in
theorem w_args : argsFit about1.vm theMethod args0 = true := by decide +kernel
set_option maxRecDepth 65536 in
theorem w_heap : heapFits about1 = true := by decide +kernel
set_option maxRecDepth 65536 in
theorem w_runnable : about1.curStatus? = some .runnable := by decide +kernel
set_option maxRecDepth 65536 in
theorem w_alone : about1.alone = true := by decide +kernel
set_option maxRecDepth 65536 in
theorem w_named : about1.methodNamed? x = some theMethod := by decide +kernel
set_option maxRecDepth 65536 in
theorem w_hears : about1.hears theMethod below0 = true := by decide +kernel
set_option maxRecDepth 65536 in
theorem w_ripe : about1.ripe theMethod args0 below0 = true := by decide +kernel
theorem w_running : about1.status = .running := rfl
set_option maxRecDepth 65536 in
theorem w_room : about1.hasRoom e0.platform room_1 = true :=
  launch0.hasRoom_least _ room_1 (by decide +kernel) (by decide +kernel) (by decide +kernel) (by decide +kernel) (by decide +kernel) (by decide +kernel)
theorem allAtoms_all (ts : List Jvm.Cond) (a : Array Jvm.Value) (st : Jvm.State) : (allAtoms ts).before a st = ts.all (fun c => c.before a st) := by
  induction ts with
  | nil => rfl
  | cons c t ih =>
    show (Jvm.Cond.and c (allAtoms t)).before a st = _
    rw [Jvm.Cond.before_and, ih, List.all_cons]
def words1 : List Jvm.Cond := Jvm.Cond.code x code maxLocals ret :: tables_1
/-- a 'code' word, met by the world's own term for the bytes: nothing is compared byte by byte -/
theorem code_word {y : MethodName} {bytes : ByteArray} {mx : Nat} {rt : Option FieldType} {a : Array Value} {s : State} {m : MethodId} {meth : Method} {c : Code} (h1 : s.methodNamed? y = some m) (h2 : s.vm.method? m = some meth) (h3 : meth.code = some c) (h4 : c.code = bytes)
    (h5 : (c.maxLocals == mx && c.exceptionTable.isEmpty && decide (c.maxStack ≤ mostOperands) && decide (meth.sig.returnType = rt) && !meth.locks && decide (parseMethodDescriptor y.desc = some meth.sig)) = true) : (Jvm.Cond.code y bytes mx rt).before a s = true := by
  simp only [Bool.and_eq_true, beq_iff_eq, Bool.not_eq_true', decide_eq_true_eq] at h5
  obtain ⟨⟨⟨⟨⟨g1, g2⟩, g3⟩, g4⟩, g5⟩, g6⟩ := h5
  simp [Cond.before, Cond.holds, Cond.value, h1, h2, h3, h4, g1, g2, g3, g4, g5, g6]
def isCode : Jvm.Cond → Bool
  | .code _ _ _ _ => true
  | _ => false
theorem all_split {L : List Jvm.Cond} {P : Jvm.Cond → Bool} (h1 : L.all (fun c => isCode c || P c) = true) (h2 : ∀ c ∈ L.filter isCode, P c = true) : L.all P = true := by
  refine List.all_eq_true.mpr fun c hc => ?_
  have h := List.all_eq_true.mp h1 c hc
  rcases Bool.eq_false_or_eq_true (isCode c) with hi | hi
  · exact h2 c (List.mem_filter.mpr ⟨hc, hi⟩)
  · simpa [hi] using h
set_option maxRecDepth 65536 in
theorem w_c0 : (Jvm.Cond.code x code maxLocals ret).before args0 about1 = true := code_word (m := ⟨1, 1⟩) (meth := k1m1) (c := k1c1) (by decide +kernel) rfl rfl rfl (by decide +kernel)
set_option maxRecDepth 65536 in
theorem w_c1 : (Jvm.Cond.code ({ cls := "com/example/vernacular/vernacular/Table$Kind", name := "isTable", desc := "()Z" } : Jvm.MethodName) prog_98_method_4_code (1 : Nat) (Option.some Jvm.ClassFile.FieldType.boolean)).before args0 about1 = true := code_word (m := ⟨6, 0⟩) (meth := k6m0) (c := k6c0) (by decide +kernel) rfl rfl rfl (by decide +kernel)
def codes1 : List Jvm.Cond := [Jvm.Cond.code x code maxLocals ret, Jvm.Cond.code ({ cls := "com/example/vernacular/vernacular/Table$Kind", name := "isTable", desc := "()Z" } : Jvm.MethodName) prog_98_method_4_code (1 : Nat) (Option.some Jvm.ClassFile.FieldType.boolean)]
set_option maxRecDepth 65536 in
theorem codes_eq : words1.filter isCode = codes1 := rfl
theorem w_codes : ∀ c ∈ words1.filter isCode, c.before args0 about1 = true := by
  rw [codes_eq]
  intro c hc
  simp only [codes1, List.mem_cons, List.not_mem_nil, or_false] at hc
  rcases hc with rfl | rfl
  · exact w_c0
  · exact w_c1
set_option maxRecDepth 65536 in
theorem w_t1 : words1.all (fun c => isCode c || c.before args0 about1) = true := by decide +kernel
theorem w_tables : (allAtoms (Jvm.Cond.code x code maxLocals ret :: tables_1)).before args0 about1 = true := by
  rw [allAtoms_all]
  show words1.all (fun c => c.before args0 about1) = true
  refine all_split ?_ w_codes
  rw [w_t1]
set_option maxRecDepth 65536 in
theorem w_case : (Jvm.Cond.and given_1 narrow_1).before args0 about1 = true := by decide +kernel
theorem w_applies : (headSpec (Jvm.Cond.code x code maxLocals ret :: tables_1) room_1).applies x e0.platform about1 = true :=
  (Spec.applies_iff w_frames).mpr ⟨w_running, w_runnable, w_alone, w_named, w_hears, w_ripe, w_room, w_tables⟩
theorem atStart : AtStart classFile x code maxLocals ret World_1 tables_1 room_1 Calls_1 rest_1 Pre_1 launch0 p0 e0 about1 theMethod args0 below0 :=
  ⟨lists_1, trivial, launch0.admits_env _ _ _, launch0.least_env, fairChoices_fair.cas, fairChoices_fair.clock, w_frames, w_args, w_heap, w_applies, trivial, trivial, w_case⟩
end start1
theorem witness_1 : WitnessClaimed_1 := ⟨start1.p0, start1.e0, start1.about1, start1.theMethod, start1.args0, start1.below0, start1.atStart⟩
end Jvm.Pilot.@@N@@
