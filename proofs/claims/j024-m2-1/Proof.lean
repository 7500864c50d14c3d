import JvmDerived
import JvmDerived.Pilot.@@N@@Statement
import JvmDerived.Pilot.@@N@@Code
set_option linter.unusedVariables false
set_option linter.unusedSimpArgs false
namespace Jvm.RoadKit
open Sem ClassFile Op Lib Jvm.Stand Jvm.Free Jvm.LawKit
section New
variable {p : Program} {l : Launch} {e : Env} {R : Room} {s : State} {m : MethodId} {args : Array Value} {below : List Frame} {meth : Method} {c : Code} {T : State} {locs : List Loc} {cells slots : Nat}
theorem retI (X : Stand p l e R s m args below meth c T locs cells slots) (hx : p.tables.exec = Jvm.exec) {pc : Nat} {Ls : Array Slot} {z : Int32} {rest : List Value} (hret : meth.sig.returnType = some .int) (hd : decode c.code pc = .ok (.ireturn, 1)) {fs : List Frame}
    (hl : ∀ (f : JFrame) (acts : List Action), f.method = m → f.locked = none → f.entered = [] → (doReturn e (T.setTop f) acts (some (.int z))).1 = T.setFrames fs) : Steps p.tables e below (T.setTop (mkF m pc Ls (.int z :: rest))) (T.setFrames fs) := by
  have hm' : T.vm.method? m = some meth := X.method'
  have hn : narrow .int (.int z) = .int z := rfl
  show Steps p.tables e below (T.setTop { method := m, pc := pc, locals := Ls, stack := _ :: rest, locked := none }) _
  jvm_step X.here [X.here.top, hx, hd, hm', hret, hn]
  first | (intro acts; rw [hl _ acts rfl rfl rfl]) | rw [hl _ _ rfl rfl rfl]
  exact Steps.refl _
end New
end Jvm.RoadKit
namespace Jvm.Pilot.@@N@@
open Jvm Jvm.ClassFile Sem Op Lib Jvm.Free Jvm.Stand Jvm.LawKit Jvm.RoadKit Bundle Jvm.Pilot.@@N@@.Jvm.D
def own_min (a b : Int64) : Int64 := if (0 : Int32) < lcmpW a b then b else a
def own_mt (h : Int64) : Int32 := (own_min ((4096 : Int32).toInt64) (h / (65536 : Int64))).toInt32
def own_exp (cap : Int32) (h : Int64) : Int32 := if (lcmpW ((h.toUInt64 >>> ((16 : Int32) &&& 0x3f).toInt64.toUInt64).toInt64) (cap.toInt64)) < (0 : Int32) then ((h.toUInt64 >>> ((16 : Int32) &&& 0x3f).toInt64.toUInt64).toInt64).toInt32 else cap
theorem d2_0 : decode jdk_29_method_70_code 0 = .ok (.lload_n 0, 1) := by decide +kernel
theorem d2_1 : decode jdk_29_method_70_code 1 = .ok (.lload_n 2, 1) := by decide +kernel
theorem d2_2 : decode jdk_29_method_70_code 2 = .ok (.lcmp, 1) := by decide +kernel
theorem d2_3 : decode jdk_29_method_70_code 3 = .ok (.ifCond .gt 7, 3) := by decide +kernel
theorem d2_10 : decode jdk_29_method_70_code 10 = .ok (.lload_n 2, 1) := by decide +kernel
theorem d2_11 : decode jdk_29_method_70_code 11 = .ok (.lreturn, 1) := by decide +kernel
theorem ef_2_t (m : MethodId) (x0 : Int64) (x1 : Int64) : entryFrame m #[(.long x0), (.long x1)] 4 = mkF m 0 #[.val (.long x0), .second, .val (.long x1), .second] [] := by first | (simp [entryFrame, mkF, argsToLocals, Value.category]; done) | rfl
def Q2_t (Z : State) (vj0 : Int64) (vj1 : Int64) (h0 : Heap) (n0 : Nat) (v : Option Value) (h : Heap) (L : List Loc) : Prop := v = some (.long (own_min vj0 vj1)) ∧ Fr n0 L ∧ h = h0
set_option maxRecDepth 65536 in
set_option maxHeartbeats 40000000 in
theorem rm2_t (l : Launch) (Z : State) (a0 : Array Value) (hw : ∀ d ∈ tables_1, d.before a0 Z = true) (ws : List Jvm.Cond) (vj0 : Int64) (vj1 : Int64) (h0 : Heap) (n0 : Nat) (Z0 : n0 ≤ h0.size) (hc3 : (0 : Int32) < (lcmpW vj0 vj1)) :
    MetFree l (⟨"java/lang/Math", "min", "(JJ)J"⟩ : MethodName) (head1 (Jvm.Cond.code (⟨"java/lang/Math", "min", "(JJ)J"⟩ : MethodName) jdk_29_method_70_code 4 (some .long) :: ws) ({ frames := 0, cells := 0, slots := 0, locals := 0 } : Room)) (fun a U => a = #[(.long vj0), (.long vj1)] ∧ Z.Warmed39 U.vm ∧ U.heap = h0) (fun _ _ _ _ _ => True) (fun _ U o U' => ∃ v L, o = .returned v ∧ Q2_t Z vj0 vj1 h0 n0 v U'.heap L ∧ FrameEnd U o U' L ({ frames := 0, cells := 0, slots := 0, locals := 0 } : Room).cells ({ frames := 0, cells := 0, slots := 0, locals := 0 } : Room).slots) := by
  refine MetFree.of_bodySF (Jvm.Free.JP.mathPlain rfl (by decide +kernel)) hisR ?_
  intro p e s m args below meth c s₁ Bd hml0 hP hK
  obtain ⟨rfl, hZ, hh⟩ := hP
  have hx := Bd.exec
  have hby := Bd.bytes
  have hml : c.maxLocals = 4 := hml0
  have hown : s.vm.findClass "java/lang/Math" = some m.cls := findClass_of_methodNamed Bd.named
  have hnm := (name_of_methodNamed Bd.named Bd.method).1
  have X0 : Stand p l e ({ frames := 0, cells := 0, slots := 0, locals := 0 } : Room) s m #[(.long vj0), (.long vj1)] below meth c s₁ [] 0 0 := Stand.of_body Bd
  have e0 : s₁.heap = h0 := by rw [← hh, Bd.state]; rfl
  have N0 := Fr.nil n0
  have pre0 : ∀ t, Steps p.tables e below (s₁.setTop (mkF m 0 #[.val (.long vj0), .second, .val (.long vj1), .second] [])) t → Steps p.tables e below (s₁.setTop (entryFrame m #[(.long vj0), (.long vj1)] 4)) t := fun t k => castTop (ef_2_t m vj0 vj1) k
  obtain ⟨fs, hr, hrun, hended, hW, hsame⟩ := X0.leave (v := some (.long vj1)) (fun h => by rw [Bd.returns] at h; cases h)
  refine ⟨_, _, pre0 _ ?_, hrun, hended, _, _, rfl, ?_, ⟨_, rfl⟩, hW, hsame.mono (by decide) (by decide)⟩
  · show Steps p.tables e below (s₁.setTop (mkF m 0 #[.val (.long vj0), .second, .val (.long vj1), .second] [])) _
    refine XS.lloadN X0.here hx rfl (hb hby d2_0) rfl ?_
    show Steps p.tables e below (s₁.setTop (mkF m 1 #[.val (.long vj0), .second, .val (.long vj1), .second] [(.long vj0)])) _
    refine XS.lloadN X0.here hx rfl (hb hby d2_1) rfl ?_
    show Steps p.tables e below (s₁.setTop (mkF m 2 #[.val (.long vj0), .second, .val (.long vj1), .second] [(.long vj1), (.long vj0)])) _
    refine XS.lcmp X0.here hx rfl (hb hby d2_2) rfl ?_
    show Steps p.tables e below (s₁.setTop (mkF m 3 #[.val (.long vj0), .second, .val (.long vj1), .second] [(.int (lcmpW vj0 vj1))])) _
    refine XS.ifYes X0.here hx rfl (pc0 := 3) (pc' := 10) rfl (hb hby d2_3) rfl ((if0 _ _).trans (tlt hc3).2.2.1) (by decide) (by decide) ?_
    show Steps p.tables e below (s₁.setTop (mkF m 10 #[.val (.long vj0), .second, .val (.long vj1), .second] [])) _
    refine XS.lloadN X0.here hx rfl (hb hby d2_10) rfl ?_
    show Steps p.tables e below (s₁.setTop (mkF m 11 #[.val (.long vj0), .second, .val (.long vj1), .second] [(.long vj1)])) _
    jvm_step X0.here [X0.here.top, hx, (hb hby d2_11), X0.method', Bd.returns, narrow]
    first | (intro acts; rw [hr _ acts rfl rfl rfl]) | rw [hr _ _ rfl rfl rfl]
    exact Steps.refl _
  · show Q2_t Z vj0 vj1 h0 n0 _ s₁.heap _
    rw [e0]
    exact ⟨(congrArg (fun z => some (Value.long z)) (if_pos hc3).symm), N0, rfl⟩
theorem d2_6 : decode jdk_29_method_70_code 6 = .ok (.lload_n 0, 1) := by decide +kernel
theorem d2_7 : decode jdk_29_method_70_code 7 = .ok (.goto 4, 3) := by decide +kernel
theorem ef_2_f (m : MethodId) (x0 : Int64) (x1 : Int64) : entryFrame m #[(.long x0), (.long x1)] 4 = mkF m 0 #[.val (.long x0), .second, .val (.long x1), .second] [] := by first | (simp [entryFrame, mkF, argsToLocals, Value.category]; done) | rfl
def Q2_f (Z : State) (vj0 : Int64) (vj1 : Int64) (h0 : Heap) (n0 : Nat) (v : Option Value) (h : Heap) (L : List Loc) : Prop := v = some (.long (own_min vj0 vj1)) ∧ Fr n0 L ∧ h = h0
set_option maxRecDepth 65536 in
set_option maxHeartbeats 40000000 in
theorem rm2_f (l : Launch) (Z : State) (a0 : Array Value) (hw : ∀ d ∈ tables_1, d.before a0 Z = true) (ws : List Jvm.Cond) (vj0 : Int64) (vj1 : Int64) (h0 : Heap) (n0 : Nat) (Z0 : n0 ≤ h0.size) (hc3 : ¬ ((0 : Int32) < (lcmpW vj0 vj1))) :
    MetFree l (⟨"java/lang/Math", "min", "(JJ)J"⟩ : MethodName) (head1 (Jvm.Cond.code (⟨"java/lang/Math", "min", "(JJ)J"⟩ : MethodName) jdk_29_method_70_code 4 (some .long) :: ws) ({ frames := 0, cells := 0, slots := 0, locals := 0 } : Room)) (fun a U => a = #[(.long vj0), (.long vj1)] ∧ Z.Warmed39 U.vm ∧ U.heap = h0) (fun _ _ _ _ _ => True) (fun _ U o U' => ∃ v L, o = .returned v ∧ Q2_f Z vj0 vj1 h0 n0 v U'.heap L ∧ FrameEnd U o U' L ({ frames := 0, cells := 0, slots := 0, locals := 0 } : Room).cells ({ frames := 0, cells := 0, slots := 0, locals := 0 } : Room).slots) := by
  refine MetFree.of_bodySF (Jvm.Free.JP.mathPlain rfl (by decide +kernel)) hisR ?_
  intro p e s m args below meth c s₁ Bd hml0 hP hK
  obtain ⟨rfl, hZ, hh⟩ := hP
  have hx := Bd.exec
  have hby := Bd.bytes
  have hml : c.maxLocals = 4 := hml0
  have hown : s.vm.findClass "java/lang/Math" = some m.cls := findClass_of_methodNamed Bd.named
  have hnm := (name_of_methodNamed Bd.named Bd.method).1
  have X0 : Stand p l e ({ frames := 0, cells := 0, slots := 0, locals := 0 } : Room) s m #[(.long vj0), (.long vj1)] below meth c s₁ [] 0 0 := Stand.of_body Bd
  have e0 : s₁.heap = h0 := by rw [← hh, Bd.state]; rfl
  have N0 := Fr.nil n0
  have pre0 : ∀ t, Steps p.tables e below (s₁.setTop (mkF m 0 #[.val (.long vj0), .second, .val (.long vj1), .second] [])) t → Steps p.tables e below (s₁.setTop (entryFrame m #[(.long vj0), (.long vj1)] 4)) t := fun t k => castTop (ef_2_f m vj0 vj1) k
  obtain ⟨fs, hr, hrun, hended, hW, hsame⟩ := X0.leave (v := some (.long vj0)) (fun h => by rw [Bd.returns] at h; cases h)
  refine ⟨_, _, pre0 _ ?_, hrun, hended, _, _, rfl, ?_, ⟨_, rfl⟩, hW, hsame.mono (by decide) (by decide)⟩
  · show Steps p.tables e below (s₁.setTop (mkF m 0 #[.val (.long vj0), .second, .val (.long vj1), .second] [])) _
    refine XS.lloadN X0.here hx rfl (hb hby d2_0) rfl ?_
    show Steps p.tables e below (s₁.setTop (mkF m 1 #[.val (.long vj0), .second, .val (.long vj1), .second] [(.long vj0)])) _
    refine XS.lloadN X0.here hx rfl (hb hby d2_1) rfl ?_
    show Steps p.tables e below (s₁.setTop (mkF m 2 #[.val (.long vj0), .second, .val (.long vj1), .second] [(.long vj1), (.long vj0)])) _
    refine XS.lcmp X0.here hx rfl (hb hby d2_2) rfl ?_
    show Steps p.tables e below (s₁.setTop (mkF m 3 #[.val (.long vj0), .second, .val (.long vj1), .second] [(.int (lcmpW vj0 vj1))])) _
    refine XS.ifNo X0.here hx rfl (hb hby d2_3) rfl ((if0 _ _).trans (flt hc3).2.2.1) ?_
    show Steps p.tables e below (s₁.setTop (mkF m 6 #[.val (.long vj0), .second, .val (.long vj1), .second] [])) _
    refine XS.lloadN X0.here hx rfl (hb hby d2_6) rfl ?_
    show Steps p.tables e below (s₁.setTop (mkF m 7 #[.val (.long vj0), .second, .val (.long vj1), .second] [(.long vj0)])) _
    refine XS.goto X0.here hx rfl (pc0 := 7) (pc' := 11) rfl (hb hby d2_7) (by decide) (by decide) ?_
    show Steps p.tables e below (s₁.setTop (mkF m 11 #[.val (.long vj0), .second, .val (.long vj1), .second] [(.long vj0)])) _
    jvm_step X0.here [X0.here.top, hx, (hb hby d2_11), X0.method', Bd.returns, narrow]
    first | (intro acts; rw [hr _ acts rfl rfl rfl]) | rw [hr _ _ rfl rfl rfl]
    exact Steps.refl _
  · show Q2_f Z vj0 vj1 h0 n0 _ s₁.heap _
    rw [e0]
    exact ⟨(congrArg (fun z => some (Value.long z)) (if_neg hc3).symm), N0, rfl⟩
def QMin (Z : State) (vj0 : Int64) (vj1 : Int64) (h0 : Heap) (n0 : Nat) (v : Option Value) (h : Heap) (L : List Loc) : Prop := v = some (.long (own_min vj0 vj1)) ∧ Fr n0 L ∧ h = h0
set_option maxRecDepth 65536 in
set_option maxHeartbeats 4000000 in
theorem rmMin (l : Launch) (Z : State) (a0 : Array Value) (hw : ∀ d ∈ tables_1, d.before a0 Z = true) (ws : List Jvm.Cond) (vj0 : Int64) (vj1 : Int64) (h0 : Heap) (n0 : Nat) (Z0 : n0 ≤ h0.size)  :
    MetFree l (⟨"java/lang/Math", "min", "(JJ)J"⟩ : MethodName) (head1 (Jvm.Cond.code (⟨"java/lang/Math", "min", "(JJ)J"⟩ : MethodName) jdk_29_method_70_code 4 (some .long) :: ws) ({ frames := 0, cells := 0, slots := 0, locals := 0 } : Room)) (fun a U => a = #[(.long vj0), (.long vj1)] ∧ Z.Warmed39 U.vm ∧ U.heap = h0) (fun _ _ _ _ _ => True) (fun _ U o U' => ∃ v L, o = .returned v ∧ QMin Z vj0 vj1 h0 n0 v U'.heap L ∧ FrameEnd U o U' L ({ frames := 0, cells := 0, slots := 0, locals := 0 } : Room).cells ({ frames := 0, cells := 0, slots := 0, locals := 0 } : Room).slots) := by
  by_cases hc3 : (0 : Int32) < (lcmpW vj0 vj1)
  · exact rm2_t l Z a0 hw ws vj0 vj1 h0 n0 Z0 hc3
  · exact rm2_f l Z a0 hw ws vj0 vj1 h0 n0 Z0 hc3
theorem d1_0 : decode prog_27_method_3_code 0 = .ok (.getstatic 79, 3) := by decide +kernel
theorem wd_5 {Z : State} {a0 : Array Value} (hw : ∀ d ∈ tables_1, d.before a0 Z = true) : ((Jvm.Cond.fieldLink "com/example/earnkey/earnkey/http/Workers" (79 : Nat) "com/example/earnkey/earnkey/http/Workers" "VIRTUAL" "Z")).before a0 Z = true := hw _ (List.mem_of_getElem? (i := 5) rfl)
theorem d1_3 : decode prog_27_method_3_code 3 = .ok (.ifCond .eq 9, 3) := by decide +kernel
theorem d1_12 : decode prog_27_method_3_code 12 = .ok (.sipush 4096, 3) := by decide +kernel
theorem d1_15 : decode prog_27_method_3_code 15 = .ok (.istore_n 2, 1) := by decide +kernel
theorem d1_16 : decode prog_27_method_3_code 16 = .ok (.iload_n 2, 1) := by decide +kernel
theorem d1_17 : decode prog_27_method_3_code 17 = .ok (.i2l, 1) := by decide +kernel
theorem d1_18 : decode prog_27_method_3_code 18 = .ok (.lload_n 0, 1) := by decide +kernel
theorem d1_19 : decode prog_27_method_3_code 19 = .ok (.ldc2_w 124, 3) := by decide +kernel
theorem wd_7 {Z : State} {a0 : Array Value} (hw : ∀ d ∈ tables_1, d.before a0 Z = true) : ((Jvm.Cond.constantLong "com/example/earnkey/earnkey/http/Workers" (124 : Nat) (65536 : Int64))).before a0 Z = true := hw _ (List.mem_of_getElem? (i := 7) rfl)
theorem d1_22 : decode prog_27_method_3_code 22 = .ok (.ldiv, 1) := by decide +kernel
theorem d1_23 : decode prog_27_method_3_code 23 = .ok (.invokestatic 126, 3) := by decide +kernel
theorem wd_8 {Z : State} {a0 : Array Value} (hw : ∀ d ∈ tables_1, d.before a0 Z = true) : ((Jvm.Cond.methodLink "com/example/earnkey/earnkey/http/Workers" (126 : Nat) ({ cls := "java/lang/Math", name := "min", desc := "(JJ)J" } : Jvm.MethodName))).before a0 Z = true := hw _ (List.mem_of_getElem? (i := 8) rfl)
theorem wd_11 {Z : State} {a0 : Array Value} (hw : ∀ d ∈ tables_1, d.before a0 Z = true) : ((Jvm.Cond.code ({ cls := "java/lang/Math", name := "min", desc := "(JJ)J" } : Jvm.MethodName) jdk_29_method_70_code (4 : Nat) (Option.some Jvm.ClassFile.FieldType.long))).before a0 Z = true := hw _ (List.mem_of_getElem? (i := 11) rfl)
theorem wd_10 {Z : State} {a0 : Array Value} (hw : ∀ d ∈ tables_1, d.before a0 Z = true) : ((Jvm.Cond.initialized "java/lang/Math")).before a0 Z = true := hw _ (List.mem_of_getElem? (i := 10) rfl)
theorem pd_1 : parseMethodDescriptor "(JJ)J" = some ⟨[.long, .long], some .long⟩ := by decide +kernel
theorem wd_9 {Z : State} {a0 : Array Value} (hw : ∀ d ∈ tables_1, d.before a0 Z = true) : ((Jvm.Cond.static ({ cls := "java/lang/Math", name := "min", desc := "(JJ)J" } : Jvm.MethodName))).before a0 Z = true := hw _ (List.mem_of_getElem? (i := 9) rfl)
theorem d1_26 : decode prog_27_method_3_code 26 = .ok (.l2i, 1) := by decide +kernel
theorem d1_27 : decode prog_27_method_3_code 27 = .ok (.ireturn, 1) := by decide +kernel
theorem pn_com_example_earnkey_earnkey_http_Workers : plainName "com/example/earnkey/earnkey/http/Workers" = true := by first | (simp [plainName, overriddenIn]; done) | decide +kernel
theorem ef_1 (m : MethodId) (x0 : Int64) : entryFrame m #[(.long x0)] 3 = mkF m 0 #[.val (.long x0), .second, .unset] [] := by first | (simp [entryFrame, mkF, argsToLocals, Value.category]; done) | rfl
def Q1 (Z : State) (vj0 : Int64) (h0 : Heap) (n0 : Nat) (v : Option Value) (h : Heap) (L : List Loc) : Prop := v = some (.int (own_mt vj0)) ∧ Fr n0 L ∧ h = h0
set_option maxRecDepth 65536 in
set_option maxHeartbeats 40000000 in
theorem rm1 (l : Launch) (Z : State) (a0 : Array Value) (hw : ∀ d ∈ tables_1, d.before a0 Z = true) (ws : List Jvm.Cond) (vj0 : Int64) (h0 : Heap) (n0 : Nat) (Z0 : n0 ≤ h0.size) (S_VIRTUAL : Sta Z Z.heap "com/example/earnkey/earnkey/http/Workers" "VIRTUAL" "Z" (.int (0 : Int32))) (O0 : Old Z n0 h0) :
    MetFree l (⟨"com/example/earnkey/earnkey/http/Workers", "mostThreads", "(J)I"⟩ : MethodName) (head1 (Jvm.Cond.code (⟨"com/example/earnkey/earnkey/http/Workers", "mostThreads", "(J)I"⟩ : MethodName) prog_27_method_3_code 3 (some .int) :: ws) ({ frames := 1, cells := 0, slots := 0, locals := 15 } : Room)) (fun a U => a = #[(.long vj0)] ∧ Z.Warmed39 U.vm ∧ U.heap = h0) (fun _ _ _ _ _ => True) (fun _ U o U' => ∃ v L, o = .returned v ∧ Q1 Z vj0 h0 n0 v U'.heap L ∧ FrameEnd U o U' L ({ frames := 1, cells := 0, slots := 0, locals := 15 } : Room).cells ({ frames := 1, cells := 0, slots := 0, locals := 15 } : Room).slots) := by
  refine MetFree.of_bodySF (plainFor_of_name pn_com_example_earnkey_earnkey_http_Workers) hisR ?_
  intro p e s m args below meth c s₁ Bd hml0 hP hK
  obtain ⟨rfl, hZ, hh⟩ := hP
  have hx := Bd.exec
  have hby := Bd.bytes
  have hml : c.maxLocals = 3 := hml0
  have hown : s.vm.findClass "com/example/earnkey/earnkey/http/Workers" = some m.cls := findClass_of_methodNamed Bd.named
  have hnm := (name_of_methodNamed Bd.named Bd.method).1
  have X0 : Stand p l e ({ frames := 1, cells := 0, slots := 0, locals := 15 } : Room) s m #[(.long vj0)] below meth c s₁ [] 0 0 := Stand.of_body Bd
  have e0 : s₁.heap = h0 := by rw [← hh, Bd.state]; rfl
  have N0 := Fr.nil n0
  have pre0 : ∀ t, Steps p.tables e below (s₁.setTop (mkF m 0 #[.val (.long vj0), .second, .unset] [])) t → Steps p.tables e below (s₁.setTop (entryFrame m #[(.long vj0)] 3)) t := fun t k => castTop (ef_1 m vj0) k
  obtain ⟨T1, X1, e1, st1⟩ := getS2 X0 hx hZ hown (host := "") (Or.inl (wd_5 hw)) Via.refl e0 (S_VIRTUAL.ext O0.2) (g := (mkF m 0 #[.val (.long vj0), .second, .unset] [])) rfl (hb hby d1_0)
  obtain ⟨_, _, ⟨T2, L2, k2, n2⟩, -, X2, ⟨Lc2, hQ2, l2, y2, z2⟩, st2⟩ := Jvm.LawKit.callS X1 hx (y := (⟨"java/lang/Math", "min", "(JJ)J"⟩ : MethodName)) hown (mvT hZ (wd_8 hw)) (mvT hZ (wd_9 hw)) (mvT hZ (wd_10 hw)) (mvT hZ (wd_11 hw)) (by decide) (backOf (W := 0) (rmMin l Z a0 hw [] ((4096 : Int32).toInt64) (vj0 / (65536 : Int64)) h0 n0 Z0 ) hZ (wd_11 hw) (wd_10 hw) (by decide) (by decide)) (g := (mkF m 23 #[.val (.long vj0), .second, .val (.int (4096 : Int32))] [(.long (vj0 / (65536 : Int64))), (.long ((4096 : Int32).toInt64))])) rfl (by rw [hml]; rfl) (argsL := [(.long ((4096 : Int32).toInt64)), (.long (vj0 / (65536 : Int64)))]) (rest := []) (lenOf pd_1 rfl) rfl (by show 2 * 0 + _ ≤ _; exact Nat.le_of_eq rfl) (hb hby d1_23) (fun _ _ => ⟨rfl, e1, (by decide : 0 + 0 ≤ _), (by decide : 0 + 0 ≤ _)⟩)
  dsimp only [Pt.U, Pt.locs, Pt.cells, Pt.slots] at X2 l2 y2 z2 st2 hQ2
  subst l2 y2 z2
  obtain ⟨rfl, N2q, p2_0⟩ := hQ2
  have N2 := Fr.app N0 N2q
  have e2 : T2.heap = h0 := p2_0
  obtain ⟨fs, hr, hrun, hended, hW, hsame⟩ := X2.leave (v := some (.int ((own_min ((4096 : Int32).toInt64) (vj0 / (65536 : Int64))).toInt32))) (fun h => by rw [Bd.returns] at h; cases h)
  refine ⟨_, _, pre0 _ ?_, hrun, hended, _, _, rfl, ?_, ⟨_, rfl⟩, hW, hsame.mono (by decide) (by decide)⟩
  · show Steps p.tables e below (s₁.setTop (mkF m 0 #[.val (.long vj0), .second, .unset] [])) _
    refine st1 _ ?_
    show Steps p.tables e below (T1.setTop (mkF m 3 #[.val (.long vj0), .second, .unset] [(.int (0 : Int32))])) _
    refine XS.ifYes X1.here hx rfl (pc0 := 3) (pc' := 12) rfl (hb hby d1_3) rfl ((if0 _ _).trans (teq (rfl : (0 : Int32) = (0 : Int32))).1) (by decide) (by decide) ?_
    show Steps p.tables e below (T1.setTop (mkF m 12 #[.val (.long vj0), .second, .unset] [])) _
    refine XS.sipush X1.here hx rfl (hb hby d1_12) ?_
    show Steps p.tables e below (T1.setTop (mkF m 15 #[.val (.long vj0), .second, .unset] [(.int (4096 : Int32))])) _
    refine XS.istoreN X1.here hx rfl (hb hby d1_15) rfl (l' := #[.val (.long vj0), .second, .val (.int (4096 : Int32))]) rfl ?_
    show Steps p.tables e below (T1.setTop (mkF m 16 #[.val (.long vj0), .second, .val (.int (4096 : Int32))] [])) _
    refine XS.iloadN X1.here hx rfl (hb hby d1_16) rfl ?_
    show Steps p.tables e below (T1.setTop (mkF m 17 #[.val (.long vj0), .second, .val (.int (4096 : Int32))] [(.int (4096 : Int32))])) _
    refine XS.i2l X1.here hx rfl (hb hby d1_17) rfl ?_
    show Steps p.tables e below (T1.setTop (mkF m 18 #[.val (.long vj0), .second, .val (.int (4096 : Int32))] [(.long ((4096 : Int32).toInt64))])) _
    refine XS.lloadN X1.here hx rfl (hb hby d1_18) rfl ?_
    show Steps p.tables e below (T1.setTop (mkF m 19 #[.val (.long vj0), .second, .val (.int (4096 : Int32))] [(.long vj0), (.long ((4096 : Int32).toInt64))])) _
    refine X1.ldc2Long hx hown (mvT hZ (wd_7 hw)) (g := (mkF m 19 #[.val (.long vj0), .second, .val (.int (4096 : Int32))] [(.long vj0), (.long ((4096 : Int32).toInt64))])) rfl (hb hby d1_19) _ ?_
    show Steps p.tables e below (T1.setTop (mkF m 22 #[.val (.long vj0), .second, .val (.int (4096 : Int32))] [(.long (65536 : Int64)), (.long vj0), (.long ((4096 : Int32).toInt64))])) _
    refine XS.ldiv X1.here hx rfl (hb hby d1_22) rfl (by decide) ?_
    show Steps p.tables e below (T1.setTop (mkF m 23 #[.val (.long vj0), .second, .val (.int (4096 : Int32))] [(.long (vj0 / (65536 : Int64))), (.long ((4096 : Int32).toInt64))])) _
    refine st2 _ ?_
    show Steps p.tables e below (T2.setTop (mkF m 26 #[.val (.long vj0), .second, .val (.int (4096 : Int32))] [(.long (own_min ((4096 : Int32).toInt64) (vj0 / (65536 : Int64))))])) _
    refine XS.l2i X2.here hx rfl (hb hby d1_26) rfl ?_
    show Steps p.tables e below (T2.setTop (mkF m 27 #[.val (.long vj0), .second, .val (.int (4096 : Int32))] [(.int ((own_min ((4096 : Int32).toInt64) (vj0 / (65536 : Int64))).toInt32))])) _
    exact retI X2 hx Bd.returns (hb hby d1_27) hr
  · show Q1 Z vj0 h0 n0 _ T2.heap _
    rw [e2]
    exact ⟨rfl, N2, rfl⟩
theorem d3_0 : decode method_3_code 0 = .ok (.lload_n 1, 1) := by decide +kernel
theorem d3_1 : decode method_3_code 1 = .ok (.bipush 16, 2) := by decide +kernel
theorem d3_3 : decode method_3_code 3 = .ok (.lushr, 1) := by decide +kernel
theorem d3_4 : decode method_3_code 4 = .ok (.lstore_n 3, 1) := by decide +kernel
theorem d3_5 : decode method_3_code 5 = .ok (.lload_n 3, 1) := by decide +kernel
theorem d3_6 : decode method_3_code 6 = .ok (.iload_n 0, 1) := by decide +kernel
theorem d3_7 : decode method_3_code 7 = .ok (.i2l, 1) := by decide +kernel
theorem d3_8 : decode method_3_code 8 = .ok (.lcmp, 1) := by decide +kernel
theorem d3_9 : decode method_3_code 9 = .ok (.ifCond .ge 8, 3) := by decide +kernel
theorem d3_12 : decode method_3_code 12 = .ok (.lload_n 3, 1) := by decide +kernel
theorem d3_13 : decode method_3_code 13 = .ok (.l2i, 1) := by decide +kernel
theorem d3_14 : decode method_3_code 14 = .ok (.goto 4, 3) := by decide +kernel
theorem d3_18 : decode method_3_code 18 = .ok (.ireturn, 1) := by decide +kernel
theorem pn_com_example_earnkey_earnkey_http_WorkersMostThreadsPinLaw : plainName "com/example/earnkey/earnkey/http/WorkersMostThreadsPinLaw" = true := by first | (simp [plainName, overriddenIn]; done) | decide +kernel
theorem ef_3_f (m : MethodId) (x0 : Int32) (x1 : Int64) : entryFrame m #[(.int x0), (.long x1)] 5 = mkF m 0 #[.val (.int x0), .val (.long x1), .second, .unset, .unset] [] := by first | (simp [entryFrame, mkF, argsToLocals, Value.category]; done) | rfl
def Q3_f (Z : State) (vi0 : Int32) (vj1 : Int64) (h0 : Heap) (n0 : Nat) (v : Option Value) (h : Heap) (L : List Loc) : Prop := v = some (.int (own_exp vi0 vj1)) ∧ Fr n0 L ∧ h = h0
set_option maxRecDepth 65536 in
set_option maxHeartbeats 40000000 in
theorem rm3_f (l : Launch) (Z : State) (a0 : Array Value) (hw : ∀ d ∈ tables_1, d.before a0 Z = true) (ws : List Jvm.Cond) (vi0 : Int32) (vj1 : Int64) (h0 : Heap) (n0 : Nat) (Z0 : n0 ≤ h0.size) (hc9 : (lcmpW ((vj1.toUInt64 >>> ((16 : Int32) &&& 0x3f).toInt64.toUInt64).toInt64) (vi0.toInt64)) < (0 : Int32)) :
    MetFree l (⟨"com/example/earnkey/earnkey/http/WorkersMostThreadsPinLaw", "expected", "(IJ)I"⟩ : MethodName) (head1 (Jvm.Cond.code (⟨"com/example/earnkey/earnkey/http/WorkersMostThreadsPinLaw", "expected", "(IJ)I"⟩ : MethodName) method_3_code 5 (some .int) :: ws) ({ frames := 0, cells := 0, slots := 0, locals := 0 } : Room)) (fun a U => a = #[(.int vi0), (.long vj1)] ∧ Z.Warmed39 U.vm ∧ U.heap = h0) (fun _ _ _ _ _ => True) (fun _ U o U' => ∃ v L, o = .returned v ∧ Q3_f Z vi0 vj1 h0 n0 v U'.heap L ∧ FrameEnd U o U' L ({ frames := 0, cells := 0, slots := 0, locals := 0 } : Room).cells ({ frames := 0, cells := 0, slots := 0, locals := 0 } : Room).slots) := by
  refine MetFree.of_bodySF (plainFor_of_name pn_com_example_earnkey_earnkey_http_WorkersMostThreadsPinLaw) hisR ?_
  intro p e s m args below meth c s₁ Bd hml0 hP hK
  obtain ⟨rfl, hZ, hh⟩ := hP
  have hx := Bd.exec
  have hby := Bd.bytes
  have hml : c.maxLocals = 5 := hml0
  have hown : s.vm.findClass "com/example/earnkey/earnkey/http/WorkersMostThreadsPinLaw" = some m.cls := findClass_of_methodNamed Bd.named
  have hnm := (name_of_methodNamed Bd.named Bd.method).1
  have X0 : Stand p l e ({ frames := 0, cells := 0, slots := 0, locals := 0 } : Room) s m #[(.int vi0), (.long vj1)] below meth c s₁ [] 0 0 := Stand.of_body Bd
  have e0 : s₁.heap = h0 := by rw [← hh, Bd.state]; rfl
  have N0 := Fr.nil n0
  have pre0 : ∀ t, Steps p.tables e below (s₁.setTop (mkF m 0 #[.val (.int vi0), .val (.long vj1), .second, .unset, .unset] [])) t → Steps p.tables e below (s₁.setTop (entryFrame m #[(.int vi0), (.long vj1)] 5)) t := fun t k => castTop (ef_3_f m vi0 vj1) k
  obtain ⟨fs, hr, hrun, hended, hW, hsame⟩ := X0.leave (v := some (.int (((vj1.toUInt64 >>> ((16 : Int32) &&& 0x3f).toInt64.toUInt64).toInt64).toInt32))) (fun h => by rw [Bd.returns] at h; cases h)
  refine ⟨_, _, pre0 _ ?_, hrun, hended, _, _, rfl, ?_, ⟨_, rfl⟩, hW, hsame.mono (by decide) (by decide)⟩
  · show Steps p.tables e below (s₁.setTop (mkF m 0 #[.val (.int vi0), .val (.long vj1), .second, .unset, .unset] [])) _
    refine XS.lloadN X0.here hx rfl (hb hby d3_0) rfl ?_
    show Steps p.tables e below (s₁.setTop (mkF m 1 #[.val (.int vi0), .val (.long vj1), .second, .unset, .unset] [(.long vj1)])) _
    refine XS.bipush X0.here hx rfl (hb hby d3_1) ?_
    show Steps p.tables e below (s₁.setTop (mkF m 3 #[.val (.int vi0), .val (.long vj1), .second, .unset, .unset] [(.int (16 : Int32)), (.long vj1)])) _
    refine XS.lushr X0.here hx rfl (hb hby d3_3) rfl ?_
    show Steps p.tables e below (s₁.setTop (mkF m 4 #[.val (.int vi0), .val (.long vj1), .second, .unset, .unset] [(.long ((vj1.toUInt64 >>> ((16 : Int32) &&& 0x3f).toInt64.toUInt64).toInt64))])) _
    refine XS.lstoreN X0.here hx rfl (hb hby d3_4) rfl (l' := #[.val (.int vi0), .val (.long vj1), .second, .val (.long ((vj1.toUInt64 >>> ((16 : Int32) &&& 0x3f).toInt64.toUInt64).toInt64)), .second]) rfl ?_
    show Steps p.tables e below (s₁.setTop (mkF m 5 #[.val (.int vi0), .val (.long vj1), .second, .val (.long ((vj1.toUInt64 >>> ((16 : Int32) &&& 0x3f).toInt64.toUInt64).toInt64)), .second] [])) _
    refine XS.lloadN X0.here hx rfl (hb hby d3_5) rfl ?_
    show Steps p.tables e below (s₁.setTop (mkF m 6 #[.val (.int vi0), .val (.long vj1), .second, .val (.long ((vj1.toUInt64 >>> ((16 : Int32) &&& 0x3f).toInt64.toUInt64).toInt64)), .second] [(.long ((vj1.toUInt64 >>> ((16 : Int32) &&& 0x3f).toInt64.toUInt64).toInt64))])) _
    refine XS.iloadN X0.here hx rfl (hb hby d3_6) rfl ?_
    show Steps p.tables e below (s₁.setTop (mkF m 7 #[.val (.int vi0), .val (.long vj1), .second, .val (.long ((vj1.toUInt64 >>> ((16 : Int32) &&& 0x3f).toInt64.toUInt64).toInt64)), .second] [(.int vi0), (.long ((vj1.toUInt64 >>> ((16 : Int32) &&& 0x3f).toInt64.toUInt64).toInt64))])) _
    refine XS.i2l X0.here hx rfl (hb hby d3_7) rfl ?_
    show Steps p.tables e below (s₁.setTop (mkF m 8 #[.val (.int vi0), .val (.long vj1), .second, .val (.long ((vj1.toUInt64 >>> ((16 : Int32) &&& 0x3f).toInt64.toUInt64).toInt64)), .second] [(.long (vi0.toInt64)), (.long ((vj1.toUInt64 >>> ((16 : Int32) &&& 0x3f).toInt64.toUInt64).toInt64))])) _
    refine XS.lcmp X0.here hx rfl (hb hby d3_8) rfl ?_
    show Steps p.tables e below (s₁.setTop (mkF m 9 #[.val (.int vi0), .val (.long vj1), .second, .val (.long ((vj1.toUInt64 >>> ((16 : Int32) &&& 0x3f).toInt64.toUInt64).toInt64)), .second] [(.int (lcmpW ((vj1.toUInt64 >>> ((16 : Int32) &&& 0x3f).toInt64.toUInt64).toInt64) (vi0.toInt64)))])) _
    refine XS.ifNo X0.here hx rfl (hb hby d3_9) rfl ((if0 _ _).trans (tlt hc9).2.1) ?_
    show Steps p.tables e below (s₁.setTop (mkF m 12 #[.val (.int vi0), .val (.long vj1), .second, .val (.long ((vj1.toUInt64 >>> ((16 : Int32) &&& 0x3f).toInt64.toUInt64).toInt64)), .second] [])) _
    refine XS.lloadN X0.here hx rfl (hb hby d3_12) rfl ?_
    show Steps p.tables e below (s₁.setTop (mkF m 13 #[.val (.int vi0), .val (.long vj1), .second, .val (.long ((vj1.toUInt64 >>> ((16 : Int32) &&& 0x3f).toInt64.toUInt64).toInt64)), .second] [(.long ((vj1.toUInt64 >>> ((16 : Int32) &&& 0x3f).toInt64.toUInt64).toInt64))])) _
    refine XS.l2i X0.here hx rfl (hb hby d3_13) rfl ?_
    show Steps p.tables e below (s₁.setTop (mkF m 14 #[.val (.int vi0), .val (.long vj1), .second, .val (.long ((vj1.toUInt64 >>> ((16 : Int32) &&& 0x3f).toInt64.toUInt64).toInt64)), .second] [(.int (((vj1.toUInt64 >>> ((16 : Int32) &&& 0x3f).toInt64.toUInt64).toInt64).toInt32))])) _
    refine XS.goto X0.here hx rfl (pc0 := 14) (pc' := 18) rfl (hb hby d3_14) (by decide) (by decide) ?_
    show Steps p.tables e below (s₁.setTop (mkF m 18 #[.val (.int vi0), .val (.long vj1), .second, .val (.long ((vj1.toUInt64 >>> ((16 : Int32) &&& 0x3f).toInt64.toUInt64).toInt64)), .second] [(.int (((vj1.toUInt64 >>> ((16 : Int32) &&& 0x3f).toInt64.toUInt64).toInt64).toInt32))])) _
    exact retI X0 hx Bd.returns (hb hby d3_18) hr
  · show Q3_f Z vi0 vj1 h0 n0 _ s₁.heap _
    rw [e0]
    exact ⟨(congrArg (fun z => some (Value.int z)) (if_pos hc9).symm), N0, rfl⟩
theorem d3_17 : decode method_3_code 17 = .ok (.iload_n 0, 1) := by decide +kernel
theorem ef_3_t (m : MethodId) (x0 : Int32) (x1 : Int64) : entryFrame m #[(.int x0), (.long x1)] 5 = mkF m 0 #[.val (.int x0), .val (.long x1), .second, .unset, .unset] [] := by first | (simp [entryFrame, mkF, argsToLocals, Value.category]; done) | rfl
def Q3_t (Z : State) (vi0 : Int32) (vj1 : Int64) (h0 : Heap) (n0 : Nat) (v : Option Value) (h : Heap) (L : List Loc) : Prop := v = some (.int (own_exp vi0 vj1)) ∧ Fr n0 L ∧ h = h0
set_option maxRecDepth 65536 in
set_option maxHeartbeats 40000000 in
theorem rm3_t (l : Launch) (Z : State) (a0 : Array Value) (hw : ∀ d ∈ tables_1, d.before a0 Z = true) (ws : List Jvm.Cond) (vi0 : Int32) (vj1 : Int64) (h0 : Heap) (n0 : Nat) (Z0 : n0 ≤ h0.size) (hc9 : ¬ ((lcmpW ((vj1.toUInt64 >>> ((16 : Int32) &&& 0x3f).toInt64.toUInt64).toInt64) (vi0.toInt64)) < (0 : Int32))) :
    MetFree l (⟨"com/example/earnkey/earnkey/http/WorkersMostThreadsPinLaw", "expected", "(IJ)I"⟩ : MethodName) (head1 (Jvm.Cond.code (⟨"com/example/earnkey/earnkey/http/WorkersMostThreadsPinLaw", "expected", "(IJ)I"⟩ : MethodName) method_3_code 5 (some .int) :: ws) ({ frames := 0, cells := 0, slots := 0, locals := 0 } : Room)) (fun a U => a = #[(.int vi0), (.long vj1)] ∧ Z.Warmed39 U.vm ∧ U.heap = h0) (fun _ _ _ _ _ => True) (fun _ U o U' => ∃ v L, o = .returned v ∧ Q3_t Z vi0 vj1 h0 n0 v U'.heap L ∧ FrameEnd U o U' L ({ frames := 0, cells := 0, slots := 0, locals := 0 } : Room).cells ({ frames := 0, cells := 0, slots := 0, locals := 0 } : Room).slots) := by
  refine MetFree.of_bodySF (plainFor_of_name pn_com_example_earnkey_earnkey_http_WorkersMostThreadsPinLaw) hisR ?_
  intro p e s m args below meth c s₁ Bd hml0 hP hK
  obtain ⟨rfl, hZ, hh⟩ := hP
  have hx := Bd.exec
  have hby := Bd.bytes
  have hml : c.maxLocals = 5 := hml0
  have hown : s.vm.findClass "com/example/earnkey/earnkey/http/WorkersMostThreadsPinLaw" = some m.cls := findClass_of_methodNamed Bd.named
  have hnm := (name_of_methodNamed Bd.named Bd.method).1
  have X0 : Stand p l e ({ frames := 0, cells := 0, slots := 0, locals := 0 } : Room) s m #[(.int vi0), (.long vj1)] below meth c s₁ [] 0 0 := Stand.of_body Bd
  have e0 : s₁.heap = h0 := by rw [← hh, Bd.state]; rfl
  have N0 := Fr.nil n0
  have pre0 : ∀ t, Steps p.tables e below (s₁.setTop (mkF m 0 #[.val (.int vi0), .val (.long vj1), .second, .unset, .unset] [])) t → Steps p.tables e below (s₁.setTop (entryFrame m #[(.int vi0), (.long vj1)] 5)) t := fun t k => castTop (ef_3_t m vi0 vj1) k
  obtain ⟨fs, hr, hrun, hended, hW, hsame⟩ := X0.leave (v := some (.int vi0)) (fun h => by rw [Bd.returns] at h; cases h)
  refine ⟨_, _, pre0 _ ?_, hrun, hended, _, _, rfl, ?_, ⟨_, rfl⟩, hW, hsame.mono (by decide) (by decide)⟩
  · show Steps p.tables e below (s₁.setTop (mkF m 0 #[.val (.int vi0), .val (.long vj1), .second, .unset, .unset] [])) _
    refine XS.lloadN X0.here hx rfl (hb hby d3_0) rfl ?_
    show Steps p.tables e below (s₁.setTop (mkF m 1 #[.val (.int vi0), .val (.long vj1), .second, .unset, .unset] [(.long vj1)])) _
    refine XS.bipush X0.here hx rfl (hb hby d3_1) ?_
    show Steps p.tables e below (s₁.setTop (mkF m 3 #[.val (.int vi0), .val (.long vj1), .second, .unset, .unset] [(.int (16 : Int32)), (.long vj1)])) _
    refine XS.lushr X0.here hx rfl (hb hby d3_3) rfl ?_
    show Steps p.tables e below (s₁.setTop (mkF m 4 #[.val (.int vi0), .val (.long vj1), .second, .unset, .unset] [(.long ((vj1.toUInt64 >>> ((16 : Int32) &&& 0x3f).toInt64.toUInt64).toInt64))])) _
    refine XS.lstoreN X0.here hx rfl (hb hby d3_4) rfl (l' := #[.val (.int vi0), .val (.long vj1), .second, .val (.long ((vj1.toUInt64 >>> ((16 : Int32) &&& 0x3f).toInt64.toUInt64).toInt64)), .second]) rfl ?_
    show Steps p.tables e below (s₁.setTop (mkF m 5 #[.val (.int vi0), .val (.long vj1), .second, .val (.long ((vj1.toUInt64 >>> ((16 : Int32) &&& 0x3f).toInt64.toUInt64).toInt64)), .second] [])) _
    refine XS.lloadN X0.here hx rfl (hb hby d3_5) rfl ?_
    show Steps p.tables e below (s₁.setTop (mkF m 6 #[.val (.int vi0), .val (.long vj1), .second, .val (.long ((vj1.toUInt64 >>> ((16 : Int32) &&& 0x3f).toInt64.toUInt64).toInt64)), .second] [(.long ((vj1.toUInt64 >>> ((16 : Int32) &&& 0x3f).toInt64.toUInt64).toInt64))])) _
    refine XS.iloadN X0.here hx rfl (hb hby d3_6) rfl ?_
    show Steps p.tables e below (s₁.setTop (mkF m 7 #[.val (.int vi0), .val (.long vj1), .second, .val (.long ((vj1.toUInt64 >>> ((16 : Int32) &&& 0x3f).toInt64.toUInt64).toInt64)), .second] [(.int vi0), (.long ((vj1.toUInt64 >>> ((16 : Int32) &&& 0x3f).toInt64.toUInt64).toInt64))])) _
    refine XS.i2l X0.here hx rfl (hb hby d3_7) rfl ?_
    show Steps p.tables e below (s₁.setTop (mkF m 8 #[.val (.int vi0), .val (.long vj1), .second, .val (.long ((vj1.toUInt64 >>> ((16 : Int32) &&& 0x3f).toInt64.toUInt64).toInt64)), .second] [(.long (vi0.toInt64)), (.long ((vj1.toUInt64 >>> ((16 : Int32) &&& 0x3f).toInt64.toUInt64).toInt64))])) _
    refine XS.lcmp X0.here hx rfl (hb hby d3_8) rfl ?_
    show Steps p.tables e below (s₁.setTop (mkF m 9 #[.val (.int vi0), .val (.long vj1), .second, .val (.long ((vj1.toUInt64 >>> ((16 : Int32) &&& 0x3f).toInt64.toUInt64).toInt64)), .second] [(.int (lcmpW ((vj1.toUInt64 >>> ((16 : Int32) &&& 0x3f).toInt64.toUInt64).toInt64) (vi0.toInt64)))])) _
    refine XS.ifYes X0.here hx rfl (pc0 := 9) (pc' := 17) rfl (hb hby d3_9) rfl ((if0 _ _).trans (flt hc9).2.1) (by decide) (by decide) ?_
    show Steps p.tables e below (s₁.setTop (mkF m 17 #[.val (.int vi0), .val (.long vj1), .second, .val (.long ((vj1.toUInt64 >>> ((16 : Int32) &&& 0x3f).toInt64.toUInt64).toInt64)), .second] [])) _
    refine XS.iloadN X0.here hx rfl (hb hby d3_17) rfl ?_
    show Steps p.tables e below (s₁.setTop (mkF m 18 #[.val (.int vi0), .val (.long vj1), .second, .val (.long ((vj1.toUInt64 >>> ((16 : Int32) &&& 0x3f).toInt64.toUInt64).toInt64)), .second] [(.int vi0)])) _
    exact retI X0 hx Bd.returns (hb hby d3_18) hr
  · show Q3_t Z vi0 vj1 h0 n0 _ s₁.heap _
    rw [e0]
    exact ⟨(congrArg (fun z => some (Value.int z)) (if_neg hc9).symm), N0, rfl⟩
def QExp (Z : State) (vi0 : Int32) (vj1 : Int64) (h0 : Heap) (n0 : Nat) (v : Option Value) (h : Heap) (L : List Loc) : Prop := v = some (.int (own_exp vi0 vj1)) ∧ Fr n0 L ∧ h = h0
set_option maxRecDepth 65536 in
set_option maxHeartbeats 4000000 in
theorem rmExp (l : Launch) (Z : State) (a0 : Array Value) (hw : ∀ d ∈ tables_1, d.before a0 Z = true) (ws : List Jvm.Cond) (vi0 : Int32) (vj1 : Int64) (h0 : Heap) (n0 : Nat) (Z0 : n0 ≤ h0.size)  :
    MetFree l (⟨"com/example/earnkey/earnkey/http/WorkersMostThreadsPinLaw", "expected", "(IJ)I"⟩ : MethodName) (head1 (Jvm.Cond.code (⟨"com/example/earnkey/earnkey/http/WorkersMostThreadsPinLaw", "expected", "(IJ)I"⟩ : MethodName) method_3_code 5 (some .int) :: ws) ({ frames := 0, cells := 0, slots := 0, locals := 0 } : Room)) (fun a U => a = #[(.int vi0), (.long vj1)] ∧ Z.Warmed39 U.vm ∧ U.heap = h0) (fun _ _ _ _ _ => True) (fun _ U o U' => ∃ v L, o = .returned v ∧ QExp Z vi0 vj1 h0 n0 v U'.heap L ∧ FrameEnd U o U' L ({ frames := 0, cells := 0, slots := 0, locals := 0 } : Room).cells ({ frames := 0, cells := 0, slots := 0, locals := 0 } : Room).slots) := by
  by_cases hc9 : (lcmpW ((vj1.toUInt64 >>> ((16 : Int32) &&& 0x3f).toInt64.toUInt64).toInt64) (vi0.toInt64)) < (0 : Int32)
  · exact rm3_f l Z a0 hw ws vi0 vj1 h0 n0 Z0 hc9
  · exact rm3_t l Z a0 hw ws vi0 vj1 h0 n0 Z0 hc9
theorem own_nn {h : Int64} (hh : (0 : Int64) ≤ h) : 0 ≤ h.toInt := by
  have q := Int64.le_iff_toInt_le.mp hh
  have z : (0 : Int64).toInt = 0 := by decide
  rw [z] at q
  exact q
theorem own_pos {h : Int64} (hh : 0 ≤ h.toInt) : (0 : Int64) ≤ h := by
  apply Int64.le_iff_toInt_le.mpr
  have z : (0 : Int64).toInt = 0 := by decide
  rw [z]
  exact hh
theorem own_shr (h : Int64) (hh : (0 : Int64) ≤ h) : (h.toUInt64 >>> ((16 : Int32) &&& 0x3f).toInt64.toUInt64).toInt64 = h / (65536 : Int64) := by
  have h0 := own_nn hh
  have r := rng64 h
  have a : ((h.toUInt64 >>> ((16 : Int32) &&& 0x3f).toInt64.toUInt64).toInt64).toInt = (h.toInt % 18446744073709551616) / 65536 := c_lushr h (16 : Int32) 16 (by decide) (by decide)
  have b := (c_ldiv h (65536 : Int64) 65536 (by decide) (by decide)).1 h0
  apply Int64.toInt_inj.mp
  rw [a, b]
  omega
theorem own_law (h : Int64) (hh : (0 : Int64) ≤ h) : own_mt h = own_exp (4096 : Int32) h := by
  unfold own_mt own_min own_exp
  rw [own_shr h hh]
  have e1 := lw_gt ((4096 : Int32).toInt64) (h / (65536 : Int64))
  have e2 := lw_lt (h / (65536 : Int64)) ((4096 : Int32).toInt64)
  by_cases c : h / (65536 : Int64) < (4096 : Int32).toInt64
  · rw [if_pos (e1.mpr c), if_pos (e2.mpr c)]
  · rw [if_neg (fun q => c (e1.mp q)), if_neg (fun q => c (e2.mp q))]
    decide
theorem own_h1 (x : Int64) : (0 : Int64) ≤ (x &&& (9223372036854775807 : Int64)) := own_pos ((c_andSL x (9223372036854775807 : Int64)).2.2 (by decide))
theorem own_h2 (k : Int32) : (0 : Int64) ≤ (((4096 : Int32).toInt64 * (65536 : Int64)) + ((k % (200000 : Int32)).toInt64)) := by
  apply own_pos
  have a := c_ladd ((4096 : Int32).toInt64 * (65536 : Int64)) ((k % (200000 : Int32)).toInt64)
  have b : ((4096 : Int32).toInt64 * (65536 : Int64)).toInt = 268435456 := by decide
  have d := c_i2l (k % (200000 : Int32))
  have q := c_irem k (200000 : Int32) 200000 (by decide)
  have r := rng64 (((4096 : Int32).toInt64 * (65536 : Int64)) + ((k % (200000 : Int32)).toInt64))
  have r2 := rng32 k
  rw [b, d] at a
  obtain ⟨q1, q2⟩ := q
  rcases Int.lt_or_le k.toInt 0 with c | c
  · have q3 := q2 c
    omega
  · have q3 := q1 c
    omega
theorem own_h3 (k : Int32) : (0 : Int64) ≤ (((k &&& (65535 : Int32)).toInt64 * (65536 : Int64)) + ((((k.toUInt32 >>> ((16 : Int32) &&& 31).toUInt32).toInt32) &&& (65535 : Int32)).toInt64)) := by
  apply own_pos
  generalize hy : (((k.toUInt32 >>> ((16 : Int32) &&& 31).toUInt32).toInt32) &&& (65535 : Int32)) = y
  have hy1 := c_and ((k.toUInt32 >>> ((16 : Int32) &&& 31).toUInt32).toInt32) (65535 : Int32) (by decide)
  rw [hy] at hy1
  have hx1 := c_and k (65535 : Int32) (by decide)
  generalize (k &&& (65535 : Int32)) = x at hx1 ⊢
  have m : (65535 : Int32).toInt = 65535 := by decide
  rw [m] at hy1 hx1
  have a := c_ladd (x.toInt64 * (65536 : Int64)) y.toInt64
  have b := c_lmul x.toInt64 (65536 : Int64)
  have m2 : (65536 : Int64).toInt = 65536 := by decide
  rw [m2, c_i2l] at b
  rw [c_i2l] at a
  have r := rng64 (x.toInt64 * (65536 : Int64) + y.toInt64)
  have r2 := rng64 (x.toInt64 * (65536 : Int64))
  omega
theorem wd_0 {Z : State} {a0 : Array Value} (hw : ∀ d ∈ tables_1, d.before a0 Z = true) : ((Jvm.Cond.constantLong "com/example/earnkey/earnkey/http/WorkersMostThreadsPinLaw" (9 : Nat) (9223372036854775807 : Int64))).before a0 Z = true := hw _ (List.mem_of_getElem? (i := 0) rfl)
theorem wd_1 {Z : State} {a0 : Array Value} (hw : ∀ d ∈ tables_1, d.before a0 Z = true) : ((Jvm.Cond.methodLink "com/example/earnkey/earnkey/http/WorkersMostThreadsPinLaw" (11 : Nat) ({ cls := "com/example/earnkey/earnkey/http/Workers", name := "mostThreads", desc := "(J)I" } : Jvm.MethodName))).before a0 Z = true := hw _ (List.mem_of_getElem? (i := 1) rfl)
theorem wd_4 {Z : State} {a0 : Array Value} (hw : ∀ d ∈ tables_1, d.before a0 Z = true) : ((Jvm.Cond.code ({ cls := "com/example/earnkey/earnkey/http/Workers", name := "mostThreads", desc := "(J)I" } : Jvm.MethodName) prog_27_method_3_code (3 : Nat) (Option.some Jvm.ClassFile.FieldType.int))).before a0 Z = true := hw _ (List.mem_of_getElem? (i := 4) rfl)
theorem wd_3 {Z : State} {a0 : Array Value} (hw : ∀ d ∈ tables_1, d.before a0 Z = true) : ((Jvm.Cond.initialized "com/example/earnkey/earnkey/http/Workers")).before a0 Z = true := hw _ (List.mem_of_getElem? (i := 3) rfl)
theorem pd_0 : parseMethodDescriptor "(J)I" = some ⟨[.long], some .int⟩ := by decide +kernel
theorem wd_2 {Z : State} {a0 : Array Value} (hw : ∀ d ∈ tables_1, d.before a0 Z = true) : ((Jvm.Cond.static ({ cls := "com/example/earnkey/earnkey/http/Workers", name := "mostThreads", desc := "(J)I" } : Jvm.MethodName))).before a0 Z = true := hw _ (List.mem_of_getElem? (i := 2) rfl)
theorem wd_12 {Z : State} {a0 : Array Value} (hw : ∀ d ∈ tables_1, d.before a0 Z = true) : ((Jvm.Cond.constantLong "com/example/earnkey/earnkey/http/WorkersMostThreadsPinLaw" (17 : Nat) (65536 : Int64))).before a0 Z = true := hw _ (List.mem_of_getElem? (i := 12) rfl)
theorem wd_13 {Z : State} {a0 : Array Value} (hw : ∀ d ∈ tables_1, d.before a0 Z = true) : ((Jvm.Cond.constant "com/example/earnkey/earnkey/http/WorkersMostThreadsPinLaw" (19 : Nat) (200000 : Int32))).before a0 Z = true := hw _ (List.mem_of_getElem? (i := 13) rfl)
theorem wd_14 {Z : State} {a0 : Array Value} (hw : ∀ d ∈ tables_1, d.before a0 Z = true) : ((Jvm.Cond.constant "com/example/earnkey/earnkey/http/WorkersMostThreadsPinLaw" (20 : Nat) (65535 : Int32))).before a0 Z = true := hw _ (List.mem_of_getElem? (i := 14) rfl)
theorem wd_15 {Z : State} {a0 : Array Value} (hw : ∀ d ∈ tables_1, d.before a0 Z = true) : ((Jvm.Cond.methodLink "com/example/earnkey/earnkey/http/WorkersMostThreadsPinLaw" (21 : Nat) ({ cls := "com/example/earnkey/earnkey/http/WorkersMostThreadsPinLaw", name := "expected", desc := "(IJ)I" } : Jvm.MethodName))).before a0 Z = true := hw _ (List.mem_of_getElem? (i := 15) rfl)
theorem wd_18 {Z : State} {a0 : Array Value} (hw : ∀ d ∈ tables_1, d.before a0 Z = true) : ((Jvm.Cond.code ({ cls := "com/example/earnkey/earnkey/http/WorkersMostThreadsPinLaw", name := "expected", desc := "(IJ)I" } : Jvm.MethodName) method_3_code (5 : Nat) (Option.some Jvm.ClassFile.FieldType.int))).before a0 Z = true := hw _ (List.mem_of_getElem? (i := 18) rfl)
theorem wd_17 {Z : State} {a0 : Array Value} (hw : ∀ d ∈ tables_1, d.before a0 Z = true) : ((Jvm.Cond.initialized "com/example/earnkey/earnkey/http/WorkersMostThreadsPinLaw")).before a0 Z = true := hw _ (List.mem_of_getElem? (i := 17) rfl)
theorem pd_2 : parseMethodDescriptor "(IJ)I" = some ⟨[.int, .long], some .int⟩ := by decide +kernel
theorem wd_16 {Z : State} {a0 : Array Value} (hw : ∀ d ∈ tables_1, d.before a0 Z = true) : ((Jvm.Cond.static ({ cls := "com/example/earnkey/earnkey/http/WorkersMostThreadsPinLaw", name := "expected", desc := "(IJ)I" } : Jvm.MethodName))).before a0 Z = true := hw _ (List.mem_of_getElem? (i := 16) rfl)
theorem ef_0 (m : MethodId) (x0 : Int64) (x1 : Int32) : entryFrame m #[(.long x0), (.int x1)] maxLocals = mkF m 0 #[.val (.long x0), .second, .val (.int x1), .unset, .unset, .unset, .unset, .unset, .unset, .unset] [] := by first | (simp [entryFrame, mkF, argsToLocals, Value.category, maxLocals]; done) | rfl
def Q0 (Z : State) (vj0 : Int64) (vi1 : Int32) (h0 : Heap) (n0 : Nat) (v : Option Value) (h : Heap) (L : List Loc) : Prop := v = some (.int (1 : Int32)) ∧ Fr n0 L
set_option maxRecDepth 65536 in
set_option maxHeartbeats 40000000 in
theorem rm0 (l : Launch) (Z : State) (a0 : Array Value) (hw : ∀ d ∈ tables_1, d.before a0 Z = true) (ws : List Jvm.Cond) (vj0 : Int64) (vi1 : Int32) (h0 : Heap) (n0 : Nat) (Z0 : n0 ≤ h0.size) (S_VIRTUAL : Sta Z Z.heap "com/example/earnkey/earnkey/http/Workers" "VIRTUAL" "Z" (.int (0 : Int32))) (O0 : Old Z n0 h0) :
    MetFree l x (head1 (Jvm.Cond.code x code maxLocals ret :: ws) room_1) (fun a U => a = #[(.long vj0), (.int vi1)] ∧ Z.Warmed39 U.vm ∧ U.heap = h0) (fun _ _ _ _ _ => True) (fun _ U o U' => ∃ v L, o = .returned v ∧ Q0 Z vj0 vi1 h0 n0 v U'.heap L ∧ FrameEnd U o U' L room_1.cells room_1.slots) := by
  refine MetFree.of_bodySF (plainFor_of_name pn_com_example_earnkey_earnkey_http_WorkersMostThreadsPinLaw) hisR ?_
  intro p e s m args below meth c s₁ Bd hml0 hP hK
  obtain ⟨rfl, hZ, hh⟩ := hP
  have hx := Bd.exec
  have hby := Bd.bytes
  have hml : c.maxLocals = 10 := hml0
  have hown : s.vm.findClass "com/example/earnkey/earnkey/http/WorkersMostThreadsPinLaw" = some m.cls := findClass_of_methodNamed Bd.named
  have hnm := (name_of_methodNamed Bd.named Bd.method).1
  have X0 : Stand p l e room_1 s m #[(.long vj0), (.int vi1)] below meth c s₁ [] 0 0 := Stand.of_body Bd
  have e0 : s₁.heap = h0 := by rw [← hh, Bd.state]; rfl
  have N0 := Fr.nil n0
  have pre0 : ∀ t, Steps p.tables e below (s₁.setTop (mkF m 0 #[.val (.long vj0), .second, .val (.int vi1), .unset, .unset, .unset, .unset, .unset, .unset, .unset] [])) t → Steps p.tables e below (s₁.setTop (entryFrame m #[(.long vj0), (.int vi1)] maxLocals)) t := fun t k => castTop (ef_0 m vj0 vi1) k
  obtain ⟨_, _, ⟨T1, L1, k1, n1⟩, -, X1, ⟨Lc1, hQ1, l1, y1, z1⟩, st1⟩ := Jvm.LawKit.callS X0 hx (y := (⟨"com/example/earnkey/earnkey/http/Workers", "mostThreads", "(J)I"⟩ : MethodName)) hown (mvT hZ (wd_1 hw)) (mvT hZ (wd_2 hw)) (mvT hZ (wd_3 hw)) (mvT hZ (wd_4 hw)) (by decide) (backOf (W := 0) (rm1 l Z a0 hw [] (9223372036854775807 : Int64) h0 n0 Z0 S_VIRTUAL O0) hZ (wd_4 hw) (wd_3 hw) (by decide) (by decide)) (g := (mkF m 3 #[.val (.long vj0), .second, .val (.int vi1), .unset, .unset, .unset, .unset, .unset, .unset, .unset] [(.long (9223372036854775807 : Int64))])) rfl (by rw [hml]; rfl) (argsL := [(.long (9223372036854775807 : Int64))]) (rest := []) (lenOf pd_0 rfl) rfl (by show 2 * 0 + _ ≤ _; exact Nat.le_of_eq rfl) (hb hby at_3) (fun _ _ => ⟨rfl, e0, (by decide : 0 + 0 ≤ _), (by decide : 0 + 0 ≤ _)⟩)
  dsimp only [Pt.U, Pt.locs, Pt.cells, Pt.slots] at X1 l1 y1 z1 st1 hQ1
  subst l1 y1 z1
  obtain ⟨hv1, N1q, p1_0⟩ := hQ1
  have N1 := Fr.app N0 N1q
  obtain rfl := hv1.trans (congrArg (fun z => some (Value.int z)) (by decide +kernel : own_mt (9223372036854775807 : Int64) = (4096 : Int32)))
  have e1 : T1.heap = h0 := p1_0
  obtain ⟨_, _, ⟨T2, L2, k2, n2⟩, -, X2, ⟨Lc2, hQ2, l2, y2, z2⟩, st2⟩ := Jvm.LawKit.callS X1 hx (y := (⟨"com/example/earnkey/earnkey/http/Workers", "mostThreads", "(J)I"⟩ : MethodName)) hown (mvT hZ (wd_1 hw)) (mvT hZ (wd_2 hw)) (mvT hZ (wd_3 hw)) (mvT hZ (wd_4 hw)) (by decide) (backOf (W := 0) (rm1 l Z a0 hw [] (vj0 &&& (9223372036854775807 : Int64)) h0 n0 Z0 S_VIRTUAL O0) hZ (wd_4 hw) (wd_3 hw) (by decide) (by decide)) (g := (mkF m 66 #[.val (.long vj0), .second, .val (.int vi1), .val (.int (4096 : Int32)), .val (.long (vj0 &&& (9223372036854775807 : Int64))), .second, .val (.long ((((4096 : Int32).toInt64) * (65536 : Int64)) + ((vi1 % (200000 : Int32)).toInt64))), .second, .val (.long ((((vi1 &&& (65535 : Int32)).toInt64) * (65536 : Int64)) + ((((vi1.toUInt32 >>> ((16 : Int32) &&& 31).toUInt32).toInt32) &&& (65535 : Int32)).toInt64))), .second] [(.long (vj0 &&& (9223372036854775807 : Int64)))])) rfl (by rw [hml]; rfl) (argsL := [(.long (vj0 &&& (9223372036854775807 : Int64)))]) (rest := []) (lenOf pd_0 rfl) rfl (by show 2 * 0 + _ ≤ _; exact Nat.le_of_eq rfl) (hb hby at_66) (fun _ _ => ⟨rfl, e1, (by decide : 0 + 0 ≤ _), (by decide : 0 + 0 ≤ _)⟩)
  dsimp only [Pt.U, Pt.locs, Pt.cells, Pt.slots] at X2 l2 y2 z2 st2 hQ2
  subst l2 y2 z2
  obtain ⟨rfl, N2q, p2_0⟩ := hQ2
  have N2 := Fr.app N1 N2q
  have e2 : T2.heap = h0 := p2_0
  obtain ⟨_, _, ⟨T3, L3, k3, n3⟩, -, X3, ⟨Lc3, hQ3, l3, y3, z3⟩, st3⟩ := Jvm.LawKit.callS X2 hx (y := (⟨"com/example/earnkey/earnkey/http/WorkersMostThreadsPinLaw", "expected", "(IJ)I"⟩ : MethodName)) hown (mvT hZ (wd_15 hw)) (mvT hZ (wd_16 hw)) (mvT hZ (wd_17 hw)) (mvT hZ (wd_18 hw)) (by decide) (backOf (W := 1) (rmExp l Z a0 hw [] (4096 : Int32) (vj0 &&& (9223372036854775807 : Int64)) h0 n0 Z0 ) hZ (wd_18 hw) (wd_17 hw) (by decide) (by decide)) (g := (mkF m 72 #[.val (.long vj0), .second, .val (.int vi1), .val (.int (4096 : Int32)), .val (.long (vj0 &&& (9223372036854775807 : Int64))), .second, .val (.long ((((4096 : Int32).toInt64) * (65536 : Int64)) + ((vi1 % (200000 : Int32)).toInt64))), .second, .val (.long ((((vi1 &&& (65535 : Int32)).toInt64) * (65536 : Int64)) + ((((vi1.toUInt32 >>> ((16 : Int32) &&& 31).toUInt32).toInt32) &&& (65535 : Int32)).toInt64))), .second] [(.long (vj0 &&& (9223372036854775807 : Int64))), (.int (4096 : Int32)), (.int (own_mt (vj0 &&& (9223372036854775807 : Int64))))])) rfl (by rw [hml]; rfl) (argsL := [(.int (4096 : Int32)), (.long (vj0 &&& (9223372036854775807 : Int64)))]) (rest := [(.int (own_mt (vj0 &&& (9223372036854775807 : Int64))))]) (lenOf pd_2 rfl) rfl (by show 2 * 0 + _ ≤ _; exact Nat.le_of_eq rfl) (hb hby at_72) (fun _ _ => ⟨rfl, e2, (by decide : 0 + 0 ≤ _), (by decide : 0 + 0 ≤ _)⟩)
  dsimp only [Pt.U, Pt.locs, Pt.cells, Pt.slots] at X3 l3 y3 z3 st3 hQ3
  subst l3 y3 z3
  obtain ⟨rfl, N3q, p3_0⟩ := hQ3
  have N3 := Fr.app N2 N3q
  have e3 : T3.heap = h0 := p3_0
  obtain ⟨_, _, ⟨T4, L4, k4, n4⟩, -, X4, ⟨Lc4, hQ4, l4, y4, z4⟩, st4⟩ := Jvm.LawKit.callS X3 hx (y := (⟨"com/example/earnkey/earnkey/http/Workers", "mostThreads", "(J)I"⟩ : MethodName)) hown (mvT hZ (wd_1 hw)) (mvT hZ (wd_2 hw)) (mvT hZ (wd_3 hw)) (mvT hZ (wd_4 hw)) (by decide) (backOf (W := 0) (rm1 l Z a0 hw [] ((((4096 : Int32).toInt64) * (65536 : Int64)) + ((vi1 % (200000 : Int32)).toInt64)) h0 n0 Z0 S_VIRTUAL O0) hZ (wd_4 hw) (wd_3 hw) (by decide) (by decide)) (g := (mkF m 80 #[.val (.long vj0), .second, .val (.int vi1), .val (.int (4096 : Int32)), .val (.long (vj0 &&& (9223372036854775807 : Int64))), .second, .val (.long ((((4096 : Int32).toInt64) * (65536 : Int64)) + ((vi1 % (200000 : Int32)).toInt64))), .second, .val (.long ((((vi1 &&& (65535 : Int32)).toInt64) * (65536 : Int64)) + ((((vi1.toUInt32 >>> ((16 : Int32) &&& 31).toUInt32).toInt32) &&& (65535 : Int32)).toInt64))), .second] [(.long ((((4096 : Int32).toInt64) * (65536 : Int64)) + ((vi1 % (200000 : Int32)).toInt64)))])) rfl (by rw [hml]; rfl) (argsL := [(.long ((((4096 : Int32).toInt64) * (65536 : Int64)) + ((vi1 % (200000 : Int32)).toInt64)))]) (rest := []) (lenOf pd_0 rfl) rfl (by show 2 * 0 + _ ≤ _; exact Nat.le_of_eq rfl) (hb hby at_80) (fun _ _ => ⟨rfl, e3, (by decide : 0 + 0 ≤ _), (by decide : 0 + 0 ≤ _)⟩)
  dsimp only [Pt.U, Pt.locs, Pt.cells, Pt.slots] at X4 l4 y4 z4 st4 hQ4
  subst l4 y4 z4
  obtain ⟨rfl, N4q, p4_0⟩ := hQ4
  have N4 := Fr.app N3 N4q
  have e4 : T4.heap = h0 := p4_0
  obtain ⟨_, _, ⟨T5, L5, k5, n5⟩, -, X5, ⟨Lc5, hQ5, l5, y5, z5⟩, st5⟩ := Jvm.LawKit.callS X4 hx (y := (⟨"com/example/earnkey/earnkey/http/WorkersMostThreadsPinLaw", "expected", "(IJ)I"⟩ : MethodName)) hown (mvT hZ (wd_15 hw)) (mvT hZ (wd_16 hw)) (mvT hZ (wd_17 hw)) (mvT hZ (wd_18 hw)) (by decide) (backOf (W := 1) (rmExp l Z a0 hw [] (4096 : Int32) ((((4096 : Int32).toInt64) * (65536 : Int64)) + ((vi1 % (200000 : Int32)).toInt64)) h0 n0 Z0 ) hZ (wd_18 hw) (wd_17 hw) (by decide) (by decide)) (g := (mkF m 86 #[.val (.long vj0), .second, .val (.int vi1), .val (.int (4096 : Int32)), .val (.long (vj0 &&& (9223372036854775807 : Int64))), .second, .val (.long ((((4096 : Int32).toInt64) * (65536 : Int64)) + ((vi1 % (200000 : Int32)).toInt64))), .second, .val (.long ((((vi1 &&& (65535 : Int32)).toInt64) * (65536 : Int64)) + ((((vi1.toUInt32 >>> ((16 : Int32) &&& 31).toUInt32).toInt32) &&& (65535 : Int32)).toInt64))), .second] [(.long ((((4096 : Int32).toInt64) * (65536 : Int64)) + ((vi1 % (200000 : Int32)).toInt64))), (.int (4096 : Int32)), (.int (own_mt ((((4096 : Int32).toInt64) * (65536 : Int64)) + ((vi1 % (200000 : Int32)).toInt64))))])) rfl (by rw [hml]; rfl) (argsL := [(.int (4096 : Int32)), (.long ((((4096 : Int32).toInt64) * (65536 : Int64)) + ((vi1 % (200000 : Int32)).toInt64)))]) (rest := [(.int (own_mt ((((4096 : Int32).toInt64) * (65536 : Int64)) + ((vi1 % (200000 : Int32)).toInt64))))]) (lenOf pd_2 rfl) rfl (by show 2 * 0 + _ ≤ _; exact Nat.le_of_eq rfl) (hb hby at_86) (fun _ _ => ⟨rfl, e4, (by decide : 0 + 0 ≤ _), (by decide : 0 + 0 ≤ _)⟩)
  dsimp only [Pt.U, Pt.locs, Pt.cells, Pt.slots] at X5 l5 y5 z5 st5 hQ5
  subst l5 y5 z5
  obtain ⟨rfl, N5q, p5_0⟩ := hQ5
  have N5 := Fr.app N4 N5q
  have e5 : T5.heap = h0 := p5_0
  obtain ⟨_, _, ⟨T6, L6, k6, n6⟩, -, X6, ⟨Lc6, hQ6, l6, y6, z6⟩, st6⟩ := Jvm.LawKit.callS X5 hx (y := (⟨"com/example/earnkey/earnkey/http/Workers", "mostThreads", "(J)I"⟩ : MethodName)) hown (mvT hZ (wd_1 hw)) (mvT hZ (wd_2 hw)) (mvT hZ (wd_3 hw)) (mvT hZ (wd_4 hw)) (by decide) (backOf (W := 0) (rm1 l Z a0 hw [] ((((vi1 &&& (65535 : Int32)).toInt64) * (65536 : Int64)) + ((((vi1.toUInt32 >>> ((16 : Int32) &&& 31).toUInt32).toInt32) &&& (65535 : Int32)).toInt64)) h0 n0 Z0 S_VIRTUAL O0) hZ (wd_4 hw) (wd_3 hw) (by decide) (by decide)) (g := (mkF m 94 #[.val (.long vj0), .second, .val (.int vi1), .val (.int (4096 : Int32)), .val (.long (vj0 &&& (9223372036854775807 : Int64))), .second, .val (.long ((((4096 : Int32).toInt64) * (65536 : Int64)) + ((vi1 % (200000 : Int32)).toInt64))), .second, .val (.long ((((vi1 &&& (65535 : Int32)).toInt64) * (65536 : Int64)) + ((((vi1.toUInt32 >>> ((16 : Int32) &&& 31).toUInt32).toInt32) &&& (65535 : Int32)).toInt64))), .second] [(.long ((((vi1 &&& (65535 : Int32)).toInt64) * (65536 : Int64)) + ((((vi1.toUInt32 >>> ((16 : Int32) &&& 31).toUInt32).toInt32) &&& (65535 : Int32)).toInt64)))])) rfl (by rw [hml]; rfl) (argsL := [(.long ((((vi1 &&& (65535 : Int32)).toInt64) * (65536 : Int64)) + ((((vi1.toUInt32 >>> ((16 : Int32) &&& 31).toUInt32).toInt32) &&& (65535 : Int32)).toInt64)))]) (rest := []) (lenOf pd_0 rfl) rfl (by show 2 * 0 + _ ≤ _; exact Nat.le_of_eq rfl) (hb hby at_94) (fun _ _ => ⟨rfl, e5, (by decide : 0 + 0 ≤ _), (by decide : 0 + 0 ≤ _)⟩)
  dsimp only [Pt.U, Pt.locs, Pt.cells, Pt.slots] at X6 l6 y6 z6 st6 hQ6
  subst l6 y6 z6
  obtain ⟨rfl, N6q, p6_0⟩ := hQ6
  have N6 := Fr.app N5 N6q
  have e6 : T6.heap = h0 := p6_0
  obtain ⟨_, _, ⟨T7, L7, k7, n7⟩, -, X7, ⟨Lc7, hQ7, l7, y7, z7⟩, st7⟩ := Jvm.LawKit.callS X6 hx (y := (⟨"com/example/earnkey/earnkey/http/WorkersMostThreadsPinLaw", "expected", "(IJ)I"⟩ : MethodName)) hown (mvT hZ (wd_15 hw)) (mvT hZ (wd_16 hw)) (mvT hZ (wd_17 hw)) (mvT hZ (wd_18 hw)) (by decide) (backOf (W := 1) (rmExp l Z a0 hw [] (4096 : Int32) ((((vi1 &&& (65535 : Int32)).toInt64) * (65536 : Int64)) + ((((vi1.toUInt32 >>> ((16 : Int32) &&& 31).toUInt32).toInt32) &&& (65535 : Int32)).toInt64)) h0 n0 Z0 ) hZ (wd_18 hw) (wd_17 hw) (by decide) (by decide)) (g := (mkF m 100 #[.val (.long vj0), .second, .val (.int vi1), .val (.int (4096 : Int32)), .val (.long (vj0 &&& (9223372036854775807 : Int64))), .second, .val (.long ((((4096 : Int32).toInt64) * (65536 : Int64)) + ((vi1 % (200000 : Int32)).toInt64))), .second, .val (.long ((((vi1 &&& (65535 : Int32)).toInt64) * (65536 : Int64)) + ((((vi1.toUInt32 >>> ((16 : Int32) &&& 31).toUInt32).toInt32) &&& (65535 : Int32)).toInt64))), .second] [(.long ((((vi1 &&& (65535 : Int32)).toInt64) * (65536 : Int64)) + ((((vi1.toUInt32 >>> ((16 : Int32) &&& 31).toUInt32).toInt32) &&& (65535 : Int32)).toInt64))), (.int (4096 : Int32)), (.int (own_mt ((((vi1 &&& (65535 : Int32)).toInt64) * (65536 : Int64)) + ((((vi1.toUInt32 >>> ((16 : Int32) &&& 31).toUInt32).toInt32) &&& (65535 : Int32)).toInt64))))])) rfl (by rw [hml]; rfl) (argsL := [(.int (4096 : Int32)), (.long ((((vi1 &&& (65535 : Int32)).toInt64) * (65536 : Int64)) + ((((vi1.toUInt32 >>> ((16 : Int32) &&& 31).toUInt32).toInt32) &&& (65535 : Int32)).toInt64)))]) (rest := [(.int (own_mt ((((vi1 &&& (65535 : Int32)).toInt64) * (65536 : Int64)) + ((((vi1.toUInt32 >>> ((16 : Int32) &&& 31).toUInt32).toInt32) &&& (65535 : Int32)).toInt64))))]) (lenOf pd_2 rfl) rfl (by show 2 * 0 + _ ≤ _; exact Nat.le_of_eq rfl) (hb hby at_100) (fun _ _ => ⟨rfl, e6, (by decide : 0 + 0 ≤ _), (by decide : 0 + 0 ≤ _)⟩)
  dsimp only [Pt.U, Pt.locs, Pt.cells, Pt.slots] at X7 l7 y7 z7 st7 hQ7
  subst l7 y7 z7
  obtain ⟨rfl, N7q, p7_0⟩ := hQ7
  have N7 := Fr.app N6 N7q
  have e7 : T7.heap = h0 := p7_0
  obtain ⟨fs, hr, hrun, hended, hW, hsame⟩ := X7.leave (v := some (.int (1 : Int32))) (fun h => by rw [Bd.returns] at h; cases h)
  refine ⟨_, _, pre0 _ ?_, hrun, hended, _, _, rfl, ?_, ⟨_, rfl⟩, hW, hsame.mono (by decide) (by decide)⟩
  · show Steps p.tables e below (s₁.setTop (mkF m 0 #[.val (.long vj0), .second, .val (.int vi1), .unset, .unset, .unset, .unset, .unset, .unset, .unset] [])) _
    refine X0.ldc2Long hx hown (mvT hZ (wd_0 hw)) (g := (mkF m 0 #[.val (.long vj0), .second, .val (.int vi1), .unset, .unset, .unset, .unset, .unset, .unset, .unset] [])) rfl (hb hby at_0) _ ?_
    show Steps p.tables e below (s₁.setTop (mkF m 3 #[.val (.long vj0), .second, .val (.int vi1), .unset, .unset, .unset, .unset, .unset, .unset, .unset] [(.long (9223372036854775807 : Int64))])) _
    refine st1 _ ?_
    show Steps p.tables e below (T1.setTop (mkF m 6 #[.val (.long vj0), .second, .val (.int vi1), .unset, .unset, .unset, .unset, .unset, .unset, .unset] [(.int (4096 : Int32))])) _
    refine XS.istoreN X1.here hx rfl (hb hby at_6) rfl (l' := #[.val (.long vj0), .second, .val (.int vi1), .val (.int (4096 : Int32)), .unset, .unset, .unset, .unset, .unset, .unset]) rfl ?_
    show Steps p.tables e below (T1.setTop (mkF m 7 #[.val (.long vj0), .second, .val (.int vi1), .val (.int (4096 : Int32)), .unset, .unset, .unset, .unset, .unset, .unset] [])) _
    refine XS.iloadN X1.here hx rfl (hb hby at_7) rfl ?_
    show Steps p.tables e below (T1.setTop (mkF m 8 #[.val (.long vj0), .second, .val (.int vi1), .val (.int (4096 : Int32)), .unset, .unset, .unset, .unset, .unset, .unset] [(.int (4096 : Int32))])) _
    refine XS.sipush X1.here hx rfl (hb hby at_8) ?_
    show Steps p.tables e below (T1.setTop (mkF m 11 #[.val (.long vj0), .second, .val (.int vi1), .val (.int (4096 : Int32)), .unset, .unset, .unset, .unset, .unset, .unset] [(.int (4096 : Int32)), (.int (4096 : Int32))])) _
    refine XS.icmpYes X1.here hx rfl (pc0 := 11) (pc' := 23) rfl (hb hby at_11) rfl (teq (rfl : (4096 : Int32) = (4096 : Int32))).1 (by decide) (by decide) ?_
    show Steps p.tables e below (T1.setTop (mkF m 23 #[.val (.long vj0), .second, .val (.int vi1), .val (.int (4096 : Int32)), .unset, .unset, .unset, .unset, .unset, .unset] [])) _
    refine XS.lloadN X1.here hx rfl (hb hby at_23) rfl ?_
    show Steps p.tables e below (T1.setTop (mkF m 24 #[.val (.long vj0), .second, .val (.int vi1), .val (.int (4096 : Int32)), .unset, .unset, .unset, .unset, .unset, .unset] [(.long vj0)])) _
    refine X1.ldc2Long hx hown (mvT hZ (wd_0 hw)) (g := (mkF m 24 #[.val (.long vj0), .second, .val (.int vi1), .val (.int (4096 : Int32)), .unset, .unset, .unset, .unset, .unset, .unset] [(.long vj0)])) rfl (hb hby at_24) _ ?_
    show Steps p.tables e below (T1.setTop (mkF m 27 #[.val (.long vj0), .second, .val (.int vi1), .val (.int (4096 : Int32)), .unset, .unset, .unset, .unset, .unset, .unset] [(.long (9223372036854775807 : Int64)), (.long vj0)])) _
    refine XS.land X1.here hx rfl (hb hby at_27) rfl ?_
    show Steps p.tables e below (T1.setTop (mkF m 28 #[.val (.long vj0), .second, .val (.int vi1), .val (.int (4096 : Int32)), .unset, .unset, .unset, .unset, .unset, .unset] [(.long (vj0 &&& (9223372036854775807 : Int64)))])) _
    refine XS.lstore X1.here hx rfl (hb hby at_28) rfl (l' := #[.val (.long vj0), .second, .val (.int vi1), .val (.int (4096 : Int32)), .val (.long (vj0 &&& (9223372036854775807 : Int64))), .second, .unset, .unset, .unset, .unset]) rfl ?_
    show Steps p.tables e below (T1.setTop (mkF m 30 #[.val (.long vj0), .second, .val (.int vi1), .val (.int (4096 : Int32)), .val (.long (vj0 &&& (9223372036854775807 : Int64))), .second, .unset, .unset, .unset, .unset] [])) _
    refine XS.iloadN X1.here hx rfl (hb hby at_30) rfl ?_
    show Steps p.tables e below (T1.setTop (mkF m 31 #[.val (.long vj0), .second, .val (.int vi1), .val (.int (4096 : Int32)), .val (.long (vj0 &&& (9223372036854775807 : Int64))), .second, .unset, .unset, .unset, .unset] [(.int (4096 : Int32))])) _
    refine XS.i2l X1.here hx rfl (hb hby at_31) rfl ?_
    show Steps p.tables e below (T1.setTop (mkF m 32 #[.val (.long vj0), .second, .val (.int vi1), .val (.int (4096 : Int32)), .val (.long (vj0 &&& (9223372036854775807 : Int64))), .second, .unset, .unset, .unset, .unset] [(.long ((4096 : Int32).toInt64))])) _
    refine X1.ldc2Long hx hown (mvT hZ (wd_12 hw)) (g := (mkF m 32 #[.val (.long vj0), .second, .val (.int vi1), .val (.int (4096 : Int32)), .val (.long (vj0 &&& (9223372036854775807 : Int64))), .second, .unset, .unset, .unset, .unset] [(.long ((4096 : Int32).toInt64))])) rfl (hb hby at_32) _ ?_
    show Steps p.tables e below (T1.setTop (mkF m 35 #[.val (.long vj0), .second, .val (.int vi1), .val (.int (4096 : Int32)), .val (.long (vj0 &&& (9223372036854775807 : Int64))), .second, .unset, .unset, .unset, .unset] [(.long (65536 : Int64)), (.long ((4096 : Int32).toInt64))])) _
    refine XS.lmul X1.here hx rfl (hb hby at_35) rfl ?_
    show Steps p.tables e below (T1.setTop (mkF m 36 #[.val (.long vj0), .second, .val (.int vi1), .val (.int (4096 : Int32)), .val (.long (vj0 &&& (9223372036854775807 : Int64))), .second, .unset, .unset, .unset, .unset] [(.long (((4096 : Int32).toInt64) * (65536 : Int64)))])) _
    refine XS.iloadN X1.here hx rfl (hb hby at_36) rfl ?_
    show Steps p.tables e below (T1.setTop (mkF m 37 #[.val (.long vj0), .second, .val (.int vi1), .val (.int (4096 : Int32)), .val (.long (vj0 &&& (9223372036854775807 : Int64))), .second, .unset, .unset, .unset, .unset] [(.int vi1), (.long (((4096 : Int32).toInt64) * (65536 : Int64)))])) _
    refine X1.ldcInt hx hown (mvT hZ (wd_13 hw)) (g := (mkF m 37 #[.val (.long vj0), .second, .val (.int vi1), .val (.int (4096 : Int32)), .val (.long (vj0 &&& (9223372036854775807 : Int64))), .second, .unset, .unset, .unset, .unset] [(.int vi1), (.long (((4096 : Int32).toInt64) * (65536 : Int64)))])) rfl (hb hby at_37) _ ?_
    show Steps p.tables e below (T1.setTop (mkF m 39 #[.val (.long vj0), .second, .val (.int vi1), .val (.int (4096 : Int32)), .val (.long (vj0 &&& (9223372036854775807 : Int64))), .second, .unset, .unset, .unset, .unset] [(.int (200000 : Int32)), (.int vi1), (.long (((4096 : Int32).toInt64) * (65536 : Int64)))])) _
    refine iremM X1 hx rfl (hb hby at_39) rfl (by decide) ?_
    show Steps p.tables e below (T1.setTop (mkF m 40 #[.val (.long vj0), .second, .val (.int vi1), .val (.int (4096 : Int32)), .val (.long (vj0 &&& (9223372036854775807 : Int64))), .second, .unset, .unset, .unset, .unset] [(.int (vi1 % (200000 : Int32))), (.long (((4096 : Int32).toInt64) * (65536 : Int64)))])) _
    refine XS.i2l X1.here hx rfl (hb hby at_40) rfl ?_
    show Steps p.tables e below (T1.setTop (mkF m 41 #[.val (.long vj0), .second, .val (.int vi1), .val (.int (4096 : Int32)), .val (.long (vj0 &&& (9223372036854775807 : Int64))), .second, .unset, .unset, .unset, .unset] [(.long ((vi1 % (200000 : Int32)).toInt64)), (.long (((4096 : Int32).toInt64) * (65536 : Int64)))])) _
    refine XS.ladd X1.here hx rfl (hb hby at_41) rfl ?_
    show Steps p.tables e below (T1.setTop (mkF m 42 #[.val (.long vj0), .second, .val (.int vi1), .val (.int (4096 : Int32)), .val (.long (vj0 &&& (9223372036854775807 : Int64))), .second, .unset, .unset, .unset, .unset] [(.long ((((4096 : Int32).toInt64) * (65536 : Int64)) + ((vi1 % (200000 : Int32)).toInt64)))])) _
    refine XS.lstore X1.here hx rfl (hb hby at_42) rfl (l' := #[.val (.long vj0), .second, .val (.int vi1), .val (.int (4096 : Int32)), .val (.long (vj0 &&& (9223372036854775807 : Int64))), .second, .val (.long ((((4096 : Int32).toInt64) * (65536 : Int64)) + ((vi1 % (200000 : Int32)).toInt64))), .second, .unset, .unset]) rfl ?_
    show Steps p.tables e below (T1.setTop (mkF m 44 #[.val (.long vj0), .second, .val (.int vi1), .val (.int (4096 : Int32)), .val (.long (vj0 &&& (9223372036854775807 : Int64))), .second, .val (.long ((((4096 : Int32).toInt64) * (65536 : Int64)) + ((vi1 % (200000 : Int32)).toInt64))), .second, .unset, .unset] [])) _
    refine XS.iloadN X1.here hx rfl (hb hby at_44) rfl ?_
    show Steps p.tables e below (T1.setTop (mkF m 45 #[.val (.long vj0), .second, .val (.int vi1), .val (.int (4096 : Int32)), .val (.long (vj0 &&& (9223372036854775807 : Int64))), .second, .val (.long ((((4096 : Int32).toInt64) * (65536 : Int64)) + ((vi1 % (200000 : Int32)).toInt64))), .second, .unset, .unset] [(.int vi1)])) _
    refine X1.ldcInt hx hown (mvT hZ (wd_14 hw)) (g := (mkF m 45 #[.val (.long vj0), .second, .val (.int vi1), .val (.int (4096 : Int32)), .val (.long (vj0 &&& (9223372036854775807 : Int64))), .second, .val (.long ((((4096 : Int32).toInt64) * (65536 : Int64)) + ((vi1 % (200000 : Int32)).toInt64))), .second, .unset, .unset] [(.int vi1)])) rfl (hb hby at_45) _ ?_
    show Steps p.tables e below (T1.setTop (mkF m 47 #[.val (.long vj0), .second, .val (.int vi1), .val (.int (4096 : Int32)), .val (.long (vj0 &&& (9223372036854775807 : Int64))), .second, .val (.long ((((4096 : Int32).toInt64) * (65536 : Int64)) + ((vi1 % (200000 : Int32)).toInt64))), .second, .unset, .unset] [(.int (65535 : Int32)), (.int vi1)])) _
    refine XS.iand X1.here hx rfl (hb hby at_47) rfl ?_
    show Steps p.tables e below (T1.setTop (mkF m 48 #[.val (.long vj0), .second, .val (.int vi1), .val (.int (4096 : Int32)), .val (.long (vj0 &&& (9223372036854775807 : Int64))), .second, .val (.long ((((4096 : Int32).toInt64) * (65536 : Int64)) + ((vi1 % (200000 : Int32)).toInt64))), .second, .unset, .unset] [(.int (vi1 &&& (65535 : Int32)))])) _
    refine XS.i2l X1.here hx rfl (hb hby at_48) rfl ?_
    show Steps p.tables e below (T1.setTop (mkF m 49 #[.val (.long vj0), .second, .val (.int vi1), .val (.int (4096 : Int32)), .val (.long (vj0 &&& (9223372036854775807 : Int64))), .second, .val (.long ((((4096 : Int32).toInt64) * (65536 : Int64)) + ((vi1 % (200000 : Int32)).toInt64))), .second, .unset, .unset] [(.long ((vi1 &&& (65535 : Int32)).toInt64))])) _
    refine X1.ldc2Long hx hown (mvT hZ (wd_12 hw)) (g := (mkF m 49 #[.val (.long vj0), .second, .val (.int vi1), .val (.int (4096 : Int32)), .val (.long (vj0 &&& (9223372036854775807 : Int64))), .second, .val (.long ((((4096 : Int32).toInt64) * (65536 : Int64)) + ((vi1 % (200000 : Int32)).toInt64))), .second, .unset, .unset] [(.long ((vi1 &&& (65535 : Int32)).toInt64))])) rfl (hb hby at_49) _ ?_
    show Steps p.tables e below (T1.setTop (mkF m 52 #[.val (.long vj0), .second, .val (.int vi1), .val (.int (4096 : Int32)), .val (.long (vj0 &&& (9223372036854775807 : Int64))), .second, .val (.long ((((4096 : Int32).toInt64) * (65536 : Int64)) + ((vi1 % (200000 : Int32)).toInt64))), .second, .unset, .unset] [(.long (65536 : Int64)), (.long ((vi1 &&& (65535 : Int32)).toInt64))])) _
    refine XS.lmul X1.here hx rfl (hb hby at_52) rfl ?_
    show Steps p.tables e below (T1.setTop (mkF m 53 #[.val (.long vj0), .second, .val (.int vi1), .val (.int (4096 : Int32)), .val (.long (vj0 &&& (9223372036854775807 : Int64))), .second, .val (.long ((((4096 : Int32).toInt64) * (65536 : Int64)) + ((vi1 % (200000 : Int32)).toInt64))), .second, .unset, .unset] [(.long (((vi1 &&& (65535 : Int32)).toInt64) * (65536 : Int64)))])) _
    refine XS.iloadN X1.here hx rfl (hb hby at_53) rfl ?_
    show Steps p.tables e below (T1.setTop (mkF m 54 #[.val (.long vj0), .second, .val (.int vi1), .val (.int (4096 : Int32)), .val (.long (vj0 &&& (9223372036854775807 : Int64))), .second, .val (.long ((((4096 : Int32).toInt64) * (65536 : Int64)) + ((vi1 % (200000 : Int32)).toInt64))), .second, .unset, .unset] [(.int vi1), (.long (((vi1 &&& (65535 : Int32)).toInt64) * (65536 : Int64)))])) _
    refine XS.bipush X1.here hx rfl (hb hby at_54) ?_
    show Steps p.tables e below (T1.setTop (mkF m 56 #[.val (.long vj0), .second, .val (.int vi1), .val (.int (4096 : Int32)), .val (.long (vj0 &&& (9223372036854775807 : Int64))), .second, .val (.long ((((4096 : Int32).toInt64) * (65536 : Int64)) + ((vi1 % (200000 : Int32)).toInt64))), .second, .unset, .unset] [(.int (16 : Int32)), (.int vi1), (.long (((vi1 &&& (65535 : Int32)).toInt64) * (65536 : Int64)))])) _
    refine XS.iushr X1.here hx rfl (hb hby at_56) rfl ?_
    show Steps p.tables e below (T1.setTop (mkF m 57 #[.val (.long vj0), .second, .val (.int vi1), .val (.int (4096 : Int32)), .val (.long (vj0 &&& (9223372036854775807 : Int64))), .second, .val (.long ((((4096 : Int32).toInt64) * (65536 : Int64)) + ((vi1 % (200000 : Int32)).toInt64))), .second, .unset, .unset] [(.int ((vi1.toUInt32 >>> ((16 : Int32) &&& 31).toUInt32).toInt32)), (.long (((vi1 &&& (65535 : Int32)).toInt64) * (65536 : Int64)))])) _
    refine X1.ldcInt hx hown (mvT hZ (wd_14 hw)) (g := (mkF m 57 #[.val (.long vj0), .second, .val (.int vi1), .val (.int (4096 : Int32)), .val (.long (vj0 &&& (9223372036854775807 : Int64))), .second, .val (.long ((((4096 : Int32).toInt64) * (65536 : Int64)) + ((vi1 % (200000 : Int32)).toInt64))), .second, .unset, .unset] [(.int ((vi1.toUInt32 >>> ((16 : Int32) &&& 31).toUInt32).toInt32)), (.long (((vi1 &&& (65535 : Int32)).toInt64) * (65536 : Int64)))])) rfl (hb hby at_57) _ ?_
    show Steps p.tables e below (T1.setTop (mkF m 59 #[.val (.long vj0), .second, .val (.int vi1), .val (.int (4096 : Int32)), .val (.long (vj0 &&& (9223372036854775807 : Int64))), .second, .val (.long ((((4096 : Int32).toInt64) * (65536 : Int64)) + ((vi1 % (200000 : Int32)).toInt64))), .second, .unset, .unset] [(.int (65535 : Int32)), (.int ((vi1.toUInt32 >>> ((16 : Int32) &&& 31).toUInt32).toInt32)), (.long (((vi1 &&& (65535 : Int32)).toInt64) * (65536 : Int64)))])) _
    refine XS.iand X1.here hx rfl (hb hby at_59) rfl ?_
    show Steps p.tables e below (T1.setTop (mkF m 60 #[.val (.long vj0), .second, .val (.int vi1), .val (.int (4096 : Int32)), .val (.long (vj0 &&& (9223372036854775807 : Int64))), .second, .val (.long ((((4096 : Int32).toInt64) * (65536 : Int64)) + ((vi1 % (200000 : Int32)).toInt64))), .second, .unset, .unset] [(.int (((vi1.toUInt32 >>> ((16 : Int32) &&& 31).toUInt32).toInt32) &&& (65535 : Int32))), (.long (((vi1 &&& (65535 : Int32)).toInt64) * (65536 : Int64)))])) _
    refine XS.i2l X1.here hx rfl (hb hby at_60) rfl ?_
    show Steps p.tables e below (T1.setTop (mkF m 61 #[.val (.long vj0), .second, .val (.int vi1), .val (.int (4096 : Int32)), .val (.long (vj0 &&& (9223372036854775807 : Int64))), .second, .val (.long ((((4096 : Int32).toInt64) * (65536 : Int64)) + ((vi1 % (200000 : Int32)).toInt64))), .second, .unset, .unset] [(.long ((((vi1.toUInt32 >>> ((16 : Int32) &&& 31).toUInt32).toInt32) &&& (65535 : Int32)).toInt64)), (.long (((vi1 &&& (65535 : Int32)).toInt64) * (65536 : Int64)))])) _
    refine XS.ladd X1.here hx rfl (hb hby at_61) rfl ?_
    show Steps p.tables e below (T1.setTop (mkF m 62 #[.val (.long vj0), .second, .val (.int vi1), .val (.int (4096 : Int32)), .val (.long (vj0 &&& (9223372036854775807 : Int64))), .second, .val (.long ((((4096 : Int32).toInt64) * (65536 : Int64)) + ((vi1 % (200000 : Int32)).toInt64))), .second, .unset, .unset] [(.long ((((vi1 &&& (65535 : Int32)).toInt64) * (65536 : Int64)) + ((((vi1.toUInt32 >>> ((16 : Int32) &&& 31).toUInt32).toInt32) &&& (65535 : Int32)).toInt64)))])) _
    refine XS.lstore X1.here hx rfl (hb hby at_62) rfl (l' := #[.val (.long vj0), .second, .val (.int vi1), .val (.int (4096 : Int32)), .val (.long (vj0 &&& (9223372036854775807 : Int64))), .second, .val (.long ((((4096 : Int32).toInt64) * (65536 : Int64)) + ((vi1 % (200000 : Int32)).toInt64))), .second, .val (.long ((((vi1 &&& (65535 : Int32)).toInt64) * (65536 : Int64)) + ((((vi1.toUInt32 >>> ((16 : Int32) &&& 31).toUInt32).toInt32) &&& (65535 : Int32)).toInt64))), .second]) rfl ?_
    show Steps p.tables e below (T1.setTop (mkF m 64 #[.val (.long vj0), .second, .val (.int vi1), .val (.int (4096 : Int32)), .val (.long (vj0 &&& (9223372036854775807 : Int64))), .second, .val (.long ((((4096 : Int32).toInt64) * (65536 : Int64)) + ((vi1 % (200000 : Int32)).toInt64))), .second, .val (.long ((((vi1 &&& (65535 : Int32)).toInt64) * (65536 : Int64)) + ((((vi1.toUInt32 >>> ((16 : Int32) &&& 31).toUInt32).toInt32) &&& (65535 : Int32)).toInt64))), .second] [])) _
    refine XS.lload X1.here hx rfl (hb hby at_64) rfl ?_
    show Steps p.tables e below (T1.setTop (mkF m 66 #[.val (.long vj0), .second, .val (.int vi1), .val (.int (4096 : Int32)), .val (.long (vj0 &&& (9223372036854775807 : Int64))), .second, .val (.long ((((4096 : Int32).toInt64) * (65536 : Int64)) + ((vi1 % (200000 : Int32)).toInt64))), .second, .val (.long ((((vi1 &&& (65535 : Int32)).toInt64) * (65536 : Int64)) + ((((vi1.toUInt32 >>> ((16 : Int32) &&& 31).toUInt32).toInt32) &&& (65535 : Int32)).toInt64))), .second] [(.long (vj0 &&& (9223372036854775807 : Int64)))])) _
    refine st2 _ ?_
    show Steps p.tables e below (T2.setTop (mkF m 69 #[.val (.long vj0), .second, .val (.int vi1), .val (.int (4096 : Int32)), .val (.long (vj0 &&& (9223372036854775807 : Int64))), .second, .val (.long ((((4096 : Int32).toInt64) * (65536 : Int64)) + ((vi1 % (200000 : Int32)).toInt64))), .second, .val (.long ((((vi1 &&& (65535 : Int32)).toInt64) * (65536 : Int64)) + ((((vi1.toUInt32 >>> ((16 : Int32) &&& 31).toUInt32).toInt32) &&& (65535 : Int32)).toInt64))), .second] [(.int (own_mt (vj0 &&& (9223372036854775807 : Int64))))])) _
    refine XS.iloadN X2.here hx rfl (hb hby at_69) rfl ?_
    show Steps p.tables e below (T2.setTop (mkF m 70 #[.val (.long vj0), .second, .val (.int vi1), .val (.int (4096 : Int32)), .val (.long (vj0 &&& (9223372036854775807 : Int64))), .second, .val (.long ((((4096 : Int32).toInt64) * (65536 : Int64)) + ((vi1 % (200000 : Int32)).toInt64))), .second, .val (.long ((((vi1 &&& (65535 : Int32)).toInt64) * (65536 : Int64)) + ((((vi1.toUInt32 >>> ((16 : Int32) &&& 31).toUInt32).toInt32) &&& (65535 : Int32)).toInt64))), .second] [(.int (4096 : Int32)), (.int (own_mt (vj0 &&& (9223372036854775807 : Int64))))])) _
    refine XS.lload X2.here hx rfl (hb hby at_70) rfl ?_
    show Steps p.tables e below (T2.setTop (mkF m 72 #[.val (.long vj0), .second, .val (.int vi1), .val (.int (4096 : Int32)), .val (.long (vj0 &&& (9223372036854775807 : Int64))), .second, .val (.long ((((4096 : Int32).toInt64) * (65536 : Int64)) + ((vi1 % (200000 : Int32)).toInt64))), .second, .val (.long ((((vi1 &&& (65535 : Int32)).toInt64) * (65536 : Int64)) + ((((vi1.toUInt32 >>> ((16 : Int32) &&& 31).toUInt32).toInt32) &&& (65535 : Int32)).toInt64))), .second] [(.long (vj0 &&& (9223372036854775807 : Int64))), (.int (4096 : Int32)), (.int (own_mt (vj0 &&& (9223372036854775807 : Int64))))])) _
    refine st3 _ ?_
    show Steps p.tables e below (T3.setTop (mkF m 75 #[.val (.long vj0), .second, .val (.int vi1), .val (.int (4096 : Int32)), .val (.long (vj0 &&& (9223372036854775807 : Int64))), .second, .val (.long ((((4096 : Int32).toInt64) * (65536 : Int64)) + ((vi1 % (200000 : Int32)).toInt64))), .second, .val (.long ((((vi1 &&& (65535 : Int32)).toInt64) * (65536 : Int64)) + ((((vi1.toUInt32 >>> ((16 : Int32) &&& 31).toUInt32).toInt32) &&& (65535 : Int32)).toInt64))), .second] [(.int (own_exp (4096 : Int32) (vj0 &&& (9223372036854775807 : Int64)))), (.int (own_mt (vj0 &&& (9223372036854775807 : Int64))))])) _
    refine XS.icmpNo X3.here hx rfl (hb hby at_75) rfl (teq (own_law _ (own_h1 _))).2 ?_
    show Steps p.tables e below (T3.setTop (mkF m 78 #[.val (.long vj0), .second, .val (.int vi1), .val (.int (4096 : Int32)), .val (.long (vj0 &&& (9223372036854775807 : Int64))), .second, .val (.long ((((4096 : Int32).toInt64) * (65536 : Int64)) + ((vi1 % (200000 : Int32)).toInt64))), .second, .val (.long ((((vi1 &&& (65535 : Int32)).toInt64) * (65536 : Int64)) + ((((vi1.toUInt32 >>> ((16 : Int32) &&& 31).toUInt32).toInt32) &&& (65535 : Int32)).toInt64))), .second] [])) _
    refine XS.lload X3.here hx rfl (hb hby at_78) rfl ?_
    show Steps p.tables e below (T3.setTop (mkF m 80 #[.val (.long vj0), .second, .val (.int vi1), .val (.int (4096 : Int32)), .val (.long (vj0 &&& (9223372036854775807 : Int64))), .second, .val (.long ((((4096 : Int32).toInt64) * (65536 : Int64)) + ((vi1 % (200000 : Int32)).toInt64))), .second, .val (.long ((((vi1 &&& (65535 : Int32)).toInt64) * (65536 : Int64)) + ((((vi1.toUInt32 >>> ((16 : Int32) &&& 31).toUInt32).toInt32) &&& (65535 : Int32)).toInt64))), .second] [(.long ((((4096 : Int32).toInt64) * (65536 : Int64)) + ((vi1 % (200000 : Int32)).toInt64)))])) _
    refine st4 _ ?_
    show Steps p.tables e below (T4.setTop (mkF m 83 #[.val (.long vj0), .second, .val (.int vi1), .val (.int (4096 : Int32)), .val (.long (vj0 &&& (9223372036854775807 : Int64))), .second, .val (.long ((((4096 : Int32).toInt64) * (65536 : Int64)) + ((vi1 % (200000 : Int32)).toInt64))), .second, .val (.long ((((vi1 &&& (65535 : Int32)).toInt64) * (65536 : Int64)) + ((((vi1.toUInt32 >>> ((16 : Int32) &&& 31).toUInt32).toInt32) &&& (65535 : Int32)).toInt64))), .second] [(.int (own_mt ((((4096 : Int32).toInt64) * (65536 : Int64)) + ((vi1 % (200000 : Int32)).toInt64))))])) _
    refine XS.iloadN X4.here hx rfl (hb hby at_83) rfl ?_
    show Steps p.tables e below (T4.setTop (mkF m 84 #[.val (.long vj0), .second, .val (.int vi1), .val (.int (4096 : Int32)), .val (.long (vj0 &&& (9223372036854775807 : Int64))), .second, .val (.long ((((4096 : Int32).toInt64) * (65536 : Int64)) + ((vi1 % (200000 : Int32)).toInt64))), .second, .val (.long ((((vi1 &&& (65535 : Int32)).toInt64) * (65536 : Int64)) + ((((vi1.toUInt32 >>> ((16 : Int32) &&& 31).toUInt32).toInt32) &&& (65535 : Int32)).toInt64))), .second] [(.int (4096 : Int32)), (.int (own_mt ((((4096 : Int32).toInt64) * (65536 : Int64)) + ((vi1 % (200000 : Int32)).toInt64))))])) _
    refine XS.lload X4.here hx rfl (hb hby at_84) rfl ?_
    show Steps p.tables e below (T4.setTop (mkF m 86 #[.val (.long vj0), .second, .val (.int vi1), .val (.int (4096 : Int32)), .val (.long (vj0 &&& (9223372036854775807 : Int64))), .second, .val (.long ((((4096 : Int32).toInt64) * (65536 : Int64)) + ((vi1 % (200000 : Int32)).toInt64))), .second, .val (.long ((((vi1 &&& (65535 : Int32)).toInt64) * (65536 : Int64)) + ((((vi1.toUInt32 >>> ((16 : Int32) &&& 31).toUInt32).toInt32) &&& (65535 : Int32)).toInt64))), .second] [(.long ((((4096 : Int32).toInt64) * (65536 : Int64)) + ((vi1 % (200000 : Int32)).toInt64))), (.int (4096 : Int32)), (.int (own_mt ((((4096 : Int32).toInt64) * (65536 : Int64)) + ((vi1 % (200000 : Int32)).toInt64))))])) _
    refine st5 _ ?_
    show Steps p.tables e below (T5.setTop (mkF m 89 #[.val (.long vj0), .second, .val (.int vi1), .val (.int (4096 : Int32)), .val (.long (vj0 &&& (9223372036854775807 : Int64))), .second, .val (.long ((((4096 : Int32).toInt64) * (65536 : Int64)) + ((vi1 % (200000 : Int32)).toInt64))), .second, .val (.long ((((vi1 &&& (65535 : Int32)).toInt64) * (65536 : Int64)) + ((((vi1.toUInt32 >>> ((16 : Int32) &&& 31).toUInt32).toInt32) &&& (65535 : Int32)).toInt64))), .second] [(.int (own_exp (4096 : Int32) ((((4096 : Int32).toInt64) * (65536 : Int64)) + ((vi1 % (200000 : Int32)).toInt64)))), (.int (own_mt ((((4096 : Int32).toInt64) * (65536 : Int64)) + ((vi1 % (200000 : Int32)).toInt64))))])) _
    refine XS.icmpNo X5.here hx rfl (hb hby at_89) rfl (teq (own_law _ (own_h2 _))).2 ?_
    show Steps p.tables e below (T5.setTop (mkF m 92 #[.val (.long vj0), .second, .val (.int vi1), .val (.int (4096 : Int32)), .val (.long (vj0 &&& (9223372036854775807 : Int64))), .second, .val (.long ((((4096 : Int32).toInt64) * (65536 : Int64)) + ((vi1 % (200000 : Int32)).toInt64))), .second, .val (.long ((((vi1 &&& (65535 : Int32)).toInt64) * (65536 : Int64)) + ((((vi1.toUInt32 >>> ((16 : Int32) &&& 31).toUInt32).toInt32) &&& (65535 : Int32)).toInt64))), .second] [])) _
    refine XS.lload X5.here hx rfl (hb hby at_92) rfl ?_
    show Steps p.tables e below (T5.setTop (mkF m 94 #[.val (.long vj0), .second, .val (.int vi1), .val (.int (4096 : Int32)), .val (.long (vj0 &&& (9223372036854775807 : Int64))), .second, .val (.long ((((4096 : Int32).toInt64) * (65536 : Int64)) + ((vi1 % (200000 : Int32)).toInt64))), .second, .val (.long ((((vi1 &&& (65535 : Int32)).toInt64) * (65536 : Int64)) + ((((vi1.toUInt32 >>> ((16 : Int32) &&& 31).toUInt32).toInt32) &&& (65535 : Int32)).toInt64))), .second] [(.long ((((vi1 &&& (65535 : Int32)).toInt64) * (65536 : Int64)) + ((((vi1.toUInt32 >>> ((16 : Int32) &&& 31).toUInt32).toInt32) &&& (65535 : Int32)).toInt64)))])) _
    refine st6 _ ?_
    show Steps p.tables e below (T6.setTop (mkF m 97 #[.val (.long vj0), .second, .val (.int vi1), .val (.int (4096 : Int32)), .val (.long (vj0 &&& (9223372036854775807 : Int64))), .second, .val (.long ((((4096 : Int32).toInt64) * (65536 : Int64)) + ((vi1 % (200000 : Int32)).toInt64))), .second, .val (.long ((((vi1 &&& (65535 : Int32)).toInt64) * (65536 : Int64)) + ((((vi1.toUInt32 >>> ((16 : Int32) &&& 31).toUInt32).toInt32) &&& (65535 : Int32)).toInt64))), .second] [(.int (own_mt ((((vi1 &&& (65535 : Int32)).toInt64) * (65536 : Int64)) + ((((vi1.toUInt32 >>> ((16 : Int32) &&& 31).toUInt32).toInt32) &&& (65535 : Int32)).toInt64))))])) _
    refine XS.iloadN X6.here hx rfl (hb hby at_97) rfl ?_
    show Steps p.tables e below (T6.setTop (mkF m 98 #[.val (.long vj0), .second, .val (.int vi1), .val (.int (4096 : Int32)), .val (.long (vj0 &&& (9223372036854775807 : Int64))), .second, .val (.long ((((4096 : Int32).toInt64) * (65536 : Int64)) + ((vi1 % (200000 : Int32)).toInt64))), .second, .val (.long ((((vi1 &&& (65535 : Int32)).toInt64) * (65536 : Int64)) + ((((vi1.toUInt32 >>> ((16 : Int32) &&& 31).toUInt32).toInt32) &&& (65535 : Int32)).toInt64))), .second] [(.int (4096 : Int32)), (.int (own_mt ((((vi1 &&& (65535 : Int32)).toInt64) * (65536 : Int64)) + ((((vi1.toUInt32 >>> ((16 : Int32) &&& 31).toUInt32).toInt32) &&& (65535 : Int32)).toInt64))))])) _
    refine XS.lload X6.here hx rfl (hb hby at_98) rfl ?_
    show Steps p.tables e below (T6.setTop (mkF m 100 #[.val (.long vj0), .second, .val (.int vi1), .val (.int (4096 : Int32)), .val (.long (vj0 &&& (9223372036854775807 : Int64))), .second, .val (.long ((((4096 : Int32).toInt64) * (65536 : Int64)) + ((vi1 % (200000 : Int32)).toInt64))), .second, .val (.long ((((vi1 &&& (65535 : Int32)).toInt64) * (65536 : Int64)) + ((((vi1.toUInt32 >>> ((16 : Int32) &&& 31).toUInt32).toInt32) &&& (65535 : Int32)).toInt64))), .second] [(.long ((((vi1 &&& (65535 : Int32)).toInt64) * (65536 : Int64)) + ((((vi1.toUInt32 >>> ((16 : Int32) &&& 31).toUInt32).toInt32) &&& (65535 : Int32)).toInt64))), (.int (4096 : Int32)), (.int (own_mt ((((vi1 &&& (65535 : Int32)).toInt64) * (65536 : Int64)) + ((((vi1.toUInt32 >>> ((16 : Int32) &&& 31).toUInt32).toInt32) &&& (65535 : Int32)).toInt64))))])) _
    refine st7 _ ?_
    show Steps p.tables e below (T7.setTop (mkF m 103 #[.val (.long vj0), .second, .val (.int vi1), .val (.int (4096 : Int32)), .val (.long (vj0 &&& (9223372036854775807 : Int64))), .second, .val (.long ((((4096 : Int32).toInt64) * (65536 : Int64)) + ((vi1 % (200000 : Int32)).toInt64))), .second, .val (.long ((((vi1 &&& (65535 : Int32)).toInt64) * (65536 : Int64)) + ((((vi1.toUInt32 >>> ((16 : Int32) &&& 31).toUInt32).toInt32) &&& (65535 : Int32)).toInt64))), .second] [(.int (own_exp (4096 : Int32) ((((vi1 &&& (65535 : Int32)).toInt64) * (65536 : Int64)) + ((((vi1.toUInt32 >>> ((16 : Int32) &&& 31).toUInt32).toInt32) &&& (65535 : Int32)).toInt64)))), (.int (own_mt ((((vi1 &&& (65535 : Int32)).toInt64) * (65536 : Int64)) + ((((vi1.toUInt32 >>> ((16 : Int32) &&& 31).toUInt32).toInt32) &&& (65535 : Int32)).toInt64))))])) _
    refine XS.icmpNo X7.here hx rfl (hb hby at_103) rfl (teq (own_law _ (own_h3 _))).2 ?_
    show Steps p.tables e below (T7.setTop (mkF m 106 #[.val (.long vj0), .second, .val (.int vi1), .val (.int (4096 : Int32)), .val (.long (vj0 &&& (9223372036854775807 : Int64))), .second, .val (.long ((((4096 : Int32).toInt64) * (65536 : Int64)) + ((vi1 % (200000 : Int32)).toInt64))), .second, .val (.long ((((vi1 &&& (65535 : Int32)).toInt64) * (65536 : Int64)) + ((((vi1.toUInt32 >>> ((16 : Int32) &&& 31).toUInt32).toInt32) &&& (65535 : Int32)).toInt64))), .second] [])) _
    refine XS.iconst X7.here hx rfl (hb hby at_106) ?_
    show Steps p.tables e below (T7.setTop (mkF m 107 #[.val (.long vj0), .second, .val (.int vi1), .val (.int (4096 : Int32)), .val (.long (vj0 &&& (9223372036854775807 : Int64))), .second, .val (.long ((((4096 : Int32).toInt64) * (65536 : Int64)) + ((vi1 % (200000 : Int32)).toInt64))), .second, .val (.long ((((vi1 &&& (65535 : Int32)).toInt64) * (65536 : Int64)) + ((((vi1.toUInt32 >>> ((16 : Int32) &&& 31).toUInt32).toInt32) &&& (65535 : Int32)).toInt64))), .second] [(.int (1 : Int32))])) _
    refine XS.goto X7.here hx rfl (pc0 := 107) (pc' := 111) rfl (hb hby at_107) (by decide) (by decide) ?_
    show Steps p.tables e below (T7.setTop (mkF m 111 #[.val (.long vj0), .second, .val (.int vi1), .val (.int (4096 : Int32)), .val (.long (vj0 &&& (9223372036854775807 : Int64))), .second, .val (.long ((((4096 : Int32).toInt64) * (65536 : Int64)) + ((vi1 % (200000 : Int32)).toInt64))), .second, .val (.long ((((vi1 &&& (65535 : Int32)).toInt64) * (65536 : Int64)) + ((((vi1.toUInt32 >>> ((16 : Int32) &&& 31).toUInt32).toInt32) &&& (65535 : Int32)).toInt64))), .second] [(.int (1 : Int32))])) _
    exact retN X7 hx (t := .boolean) Bd.returns (by simp) (hb hby at_111) hr
  · show Q0 Z vj0 vi1 h0 n0 _ T7.heap _
    rw [e7]
    exact ⟨rfl, N7⟩
theorem wd_6 {Z : State} {a0 : Array Value} (hw : ∀ d ∈ tables_1, d.before a0 Z = true) : ((Jvm.Cond.laysStatic "com/example/earnkey/earnkey/http/Workers" "VIRTUAL" "Z")).before a0 Z = true := hw _ (List.mem_of_getElem? (i := 6) rfl)
set_option maxRecDepth 65536 in
set_option maxHeartbeats 40000000 in
theorem comes_1 {Post : Tables → Env → Array Value → State → Outcome → State → Prop} (hpost : ∀ tb e args s v u, (limb_1_1.after args s (.returned v) u = true ∧ limb_1_2.after args s (.returned v) u = true ∧ True) → FrameEnd s (.returned v) u (Jvm.fieldLocs frame_1_writes args s ++ Jvm.arrayLocs frame_1_arrays args s ++ Jvm.staticLocs frame_1_statics s) 0 0 → Post tb e args s (.returned v) u) :
    ArmFor flags0 classFile x code maxLocals ret World_1 tables_1 room_1 Calls_1 rest_1 Pre_1 Post := by
  intro l hfl _ _ p e ha hc hk s m args below hf hA hF happ hP
  obtain ⟨hcalls, hrest, hpre⟩ := hP
  obtain ⟨-, -, -, hnamed, -, -, -, hat⟩ := (Spec.applies_iff hf).mp happ
  obtain ⟨hg, hn⟩ := and_e (Cond.before_iff.mp (show (Jvm.Cond.and given_1 narrow_1).before args s = true from hpre))
  obtain ⟨gc, hg⟩ := and_e hg
  obtain ⟨ga0, hg⟩ := and_e hg
  have ga1 := hg
  obtain ⟨w0, w1, rfl⟩ : ∃ w0 w1 : Value, args = #[w0, w1] := by
    have hs : args.size = 2 := by simpa [Cond.value, given_1] using gc
    obtain ⟨L⟩ := args
    match L, hs with
    | [w0, w1], _ => exact ⟨w0, w1, rfl⟩
  have hw := fun d (hd : d ∈ tables_1) => atoms_spec (ws := Jvm.Cond.code x code maxLocals ret :: tables_1) hat d (List.mem_cons_of_mem _ hd)
  obtain ⟨i0, ei0⟩ := isL_v ga0
  obtain rfl : w0 = (.long i0) := Option.some.inj ei0
  obtain ⟨i1, ei1⟩ := is_v ga1
  obtain rfl : w1 = (.int i1) := Option.some.inj ei1
  have SV : Sta s s.heap "com/example/earnkey/earnkey/http/Workers" "VIRTUAL" "Z" (.int (0 : Int32)) := Sta.start (eqv_i (Term.int_eval (0 : Int32)) hn) (Or.inr ⟨(wd_3 hw), (wd_6 hw)⟩)
  obtain ⟨n, o, h1, h2, h3, _, L, rfl, ⟨rfl, N⟩, hq⟩ := rm0 l s _ hw tables_1 i0 i1 s.heap s.heap.size (Nat.le_refl _) SV (Old.start s) p e ha hc hk s m _ below hf ((Spec.applies_iff_loose hf).mp happ).1 ⟨rfl, State.Warmed39.refl s, rfl⟩ trivial
  refine ⟨n, _, h1, h2, h3, hpost _ _ _ _ _ _ ⟨Cond.after_iff.mpr rfl, Cond.after_iff.mpr (eq_i res_at (Term.int_eval (1)) rfl), trivial⟩ ⟨hq.1, hq.2.1, (hq.2.2.sift fun y hy => Or.inr (N y hy)).mono (by decide) (by decide)⟩⟩
theorem main_1_1 : Claimed_1_1 := comes_1 fun _ _ _ _ _ _ h hF => ⟨h.1, hF⟩
theorem main_1_2 : Claimed_1_2 := comes_1 fun _ _ _ _ _ _ h hF => ⟨h.2.1, hF⟩
end Jvm.Pilot.@@N@@
namespace Jvm.Pilot.@@N@@
open Jvm Jvm.ClassFile Sem Op Lib Jvm.Free Jvm.Stand Jvm.Pilot.@@N@@.Jvm.D
/-! MADE BY PROGRAM (witnessworld.py) out of the Statement's table words and the real class files: 10 classes; the members and pool entries that the words name. The judged class is class 1, her method 1. -/
namespace start1
open Jvm.ClassFile
def u (s : String) : CpInfo := .utf8 (stringToUtf16 s)
/-- a pool by its gaps: so many unusable entries, then the entry; so many at the end -/
def gap : Nat → List CpInfo → List CpInfo
  | 0, r => r
  | n + 1, r => .unusable :: gap n r
def poolList (es : List (Nat × CpInfo)) (last : Nat) : List CpInfo := es.foldr (fun e r => gap e.1 (e.2 :: r)) (gap last [])
def pool (es : List (Nat × CpInfo)) (last : Nat) : Array CpInfo := ⟨poolList es last⟩
def fileOf (pool : Array CpInfo) (this : Nat) (attrs : Array Attribute := #[]) (ms : Array MethodInfo := #[]) (fl : Nat := 33) (sup : Nat := 0) (ifs : Array Nat := #[]) (fds : Array FieldInfo := #[]) : ClassFile where
  minorVersion := 0
  majorVersion := 65
  constantPool := pool
  accessFlags := fl
  thisClass := this
  superClass := sup
  interfaces := ifs
  fields := fds
  methods := ms
  attributes := attrs
def plain (name : String) (sup : Option ClassId) : Class where
  name := name
  kind := .ordinary
  loader := none
  accessFlags := 33
  super := sup
  interfaces := #[]
  cf := none
  fields := #[]
  methods := #[]
  instanceTypes := #[]
  staticTypes := #[]
  resolved := #[]
  callSites := []
  init := .initialized
  statics := none
  mirror := none

def pool0 : Array CpInfo := pool [(5, u "<init>"), (0, u "()V"), (1, .class_ 10), (1, u "java/lang/Object")] 113

def k0m0 : Method := { name := "<init>", desc := "()V", sig := { parameters := [], returnType := none }, accessFlags := 1, code := none }
/-- java/lang/Object -/
def k0 : Class := { plain "java/lang/Object" none with
  accessFlags := 33
  interfaces := #[]
  cf := some (fileOf pool0 8 #[] #[{ accessFlags := 1, nameIndex := 5, descriptorIndex := 6, attributes := #[] }] 33 0 #[] #[])
  fields := #[]
  methods := #[k0m0]
  instanceTypes := #[]
  staticTypes := #[]
  resolved := Array.replicate 124 none
  statics := none }

def pool1 : Array CpInfo := pool [(2, .class_ 4), (1, u "java/lang/Object"), (0, u "<init>"), (0, u "()V"), (2, .long 9223372036854775807), (1, .methodref 12 13), (0, .class_ 14), (0, .nameAndType 15 16), (0, u "com/example/earnkey/earnkey/http/Workers"), (0, u "mostThreads"), (0, u "(J)I"), (0, .long 65536), (1, .integer 200000), (0, .integer 65535), (0, .methodref 22 23), (0, .class_ 24), (0, .nameAndType 25 26), (0, u "com/example/earnkey/earnkey/http/WorkersMostThreadsPinLaw"), (0, u "expected"), (0, u "(IJ)I"), (2, u "law"), (0, u "(JI)Z")] 3

def k1m0 : Method := { name := "<init>", desc := "()V", sig := { parameters := [], returnType := none }, accessFlags := 1, code := none }
def k1c1 : Code := { maxStack := 4, maxLocals := 10, code := code, exceptionTable := #[], attributes := #[] }
def k1m1 : Method := { name := "law", desc := "(JI)Z", sig := { parameters := [.long, .int], returnType := some .boolean }, accessFlags := 9, code := some k1c1 }
def k1c2 : Code := { maxStack := 4, maxLocals := 5, code := method_3_code, exceptionTable := #[], attributes := #[] }
def k1m2 : Method := { name := "expected", desc := "(IJ)I", sig := { parameters := [.int, .long], returnType := some .int }, accessFlags := 10, code := some k1c2 }
/-- com/example/earnkey/earnkey/http/WorkersMostThreadsPinLaw -/
def k1 : Class := { plain "com/example/earnkey/earnkey/http/WorkersMostThreadsPinLaw" (some 0) with
  accessFlags := 49
  interfaces := #[]
  cf := some (fileOf pool1 22 #[] #[{ accessFlags := 1, nameIndex := 5, descriptorIndex := 6, attributes := #[] }, { accessFlags := 9, nameIndex := 29, descriptorIndex := 30, attributes := #[] }, { accessFlags := 10, nameIndex := 25, descriptorIndex := 26, attributes := #[] }] 49 2 #[] #[])
  fields := #[]
  methods := #[k1m0, k1m1, k1m2]
  instanceTypes := #[]
  staticTypes := #[]
  resolved := Array.replicate 34 none
  statics := none }

def pool2 : Array CpInfo := pool [(1, .class_ 2), (0, u "java/util/concurrent/Executor"), (0, .class_ 4), (0, u "java/lang/Object")] 4

/-- java/util/concurrent/Executor -/
def k2 : Class := { plain "java/util/concurrent/Executor" (some 0) with
  accessFlags := 1537
  interfaces := #[]
  cf := some (fileOf pool2 1 #[] #[] 1537 3 #[] #[])
  fields := #[]
  methods := #[]
  instanceTypes := #[]
  staticTypes := #[]
  resolved := Array.replicate 9 none
  statics := none }

def pool3 : Array CpInfo := pool [(1, .class_ 2), (0, u "java/lang/AutoCloseable"), (0, .class_ 4), (0, u "java/lang/Object")] 7

/-- java/lang/AutoCloseable -/
def k3 : Class := { plain "java/lang/AutoCloseable" (some 0) with
  accessFlags := 1537
  interfaces := #[]
  cf := some (fileOf pool3 1 #[] #[] 1537 3 #[] #[])
  fields := #[]
  methods := #[]
  instanceTypes := #[]
  staticTypes := #[]
  resolved := Array.replicate 12 none
  statics := none }

def pool4 : Array CpInfo := pool [(2, .class_ 4), (1, u "com/example/earnkey/earnkey/http/Workers"), (0, u "USUAL"), (0, u "I"), (20, u "mostThreads"), (0, u "(J)I"), (2, u "<init>"), (2, .class_ 36), (1, u "java/lang/Object"), (0, u "()V"), (6, u "requests"), (0, u "Ljava/util/concurrent/Executor;"), (5, u "lock"), (0, u "Ljava/util/concurrent/locks/ReentrantLock;"), (5, u "unstarted"), (0, u "Ljava/util/ArrayDeque;"), (2, u "waiting"), (2, u "usual"), (2, u "allowed"), (2, u "maxThreads"), (5, u "patienceNanos"), (0, u "J"), (0, .fieldref 2 80), (0, .nameAndType 81 82), (0, u "VIRTUAL"), (0, u "Z"), (9, u "threads"), (0, u "Ljava/util/concurrent/ExecutorService;"), (12, u "sizer"), (0, u "Ljava/util/concurrent/ScheduledExecutorService;"), (16, .long 65536), (1, .methodref 127 128), (0, .class_ 129), (0, .nameAndType 130 131), (0, u "java/lang/Math"), (0, u "min"), (0, u "(JJ)J"), (101, .class_ 234), (0, u "com/example/earnkey/earnkey/http/Workers$Task"), (20, u "CURRENT"), (0, u "Ljava/lang/ThreadLocal;"), (23, u "running"), (6, u "closed"), (27, u "busy"), (105, .class_ 422), (0, u "java/util/concurrent/Executor"), (0, .class_ 424), (0, u "java/lang/AutoCloseable"), (0, u "FIRST_VIRTUAL_RELEASE"), (2, u "MAX_VIRTUAL_THREADS"), (1, u "MAX_PLATFORM_THREADS"), (1, u "HEAP_PER_THREAD"), (0, u "CARRIERS"), (0, u "Ljava/lang/String;"), (0, u "THREAD_NAME"), (0, u "PATIENCE_MILLIS"), (0, u "IDLE_SECONDS"), (0, u "CLOSE_WAIT_SECONDS")] 67

def k4m0 : Method := { name := "<init>", desc := "()V", sig := { parameters := [], returnType := none }, accessFlags := 0, code := none }
def k4c1 : Code := { maxStack := 6, maxLocals := 3, code := prog_27_method_3_code, exceptionTable := #[], attributes := #[] }
def k4m1 : Method := { name := "mostThreads", desc := "(J)I", sig := { parameters := [.long], returnType := some .int }, accessFlags := 8, code := some k4c1 }
/-- com/example/earnkey/earnkey/http/Workers -/
def k4 : Class := { plain "com/example/earnkey/earnkey/http/Workers" (some 0) with
  accessFlags := 48
  interfaces := #[2, 3]
  cf := some (fileOf pool4 2 #[.nestMembers #[233]] #[{ accessFlags := 0, nameIndex := 31, descriptorIndex := 37, attributes := #[] }, { accessFlags := 8, nameIndex := 27, descriptorIndex := 28, attributes := #[] }] 48 34 #[421, 423] #[{ accessFlags := 26, nameIndex := 5, descriptorIndex := 6, attributes := #[] }, { accessFlags := 26, nameIndex := 425, descriptorIndex := 6, attributes := #[] }, { accessFlags := 26, nameIndex := 81, descriptorIndex := 82, attributes := #[] }, { accessFlags := 26, nameIndex := 428, descriptorIndex := 6, attributes := #[] }, { accessFlags := 26, nameIndex := 430, descriptorIndex := 6, attributes := #[] }, { accessFlags := 26, nameIndex := 432, descriptorIndex := 78, attributes := #[] }, { accessFlags := 26, nameIndex := 433, descriptorIndex := 434, attributes := #[] }, { accessFlags := 26, nameIndex := 435, descriptorIndex := 434, attributes := #[] }, { accessFlags := 26, nameIndex := 436, descriptorIndex := 78, attributes := #[] }, { accessFlags := 26, nameIndex := 437, descriptorIndex := 78, attributes := #[] }, { accessFlags := 26, nameIndex := 438, descriptorIndex := 78, attributes := #[] }, { accessFlags := 26, nameIndex := 255, descriptorIndex := 256, attributes := #[] }, { accessFlags := 18, nameIndex := 65, descriptorIndex := 6, attributes := #[] }, { accessFlags := 18, nameIndex := 71, descriptorIndex := 6, attributes := #[] }, { accessFlags := 18, nameIndex := 77, descriptorIndex := 78, attributes := #[] }, { accessFlags := 18, nameIndex := 92, descriptorIndex := 93, attributes := #[] }, { accessFlags := 18, nameIndex := 106, descriptorIndex := 107, attributes := #[] }, { accessFlags := 18, nameIndex := 44, descriptorIndex := 45, attributes := #[] }, { accessFlags := 18, nameIndex := 51, descriptorIndex := 52, attributes := #[] }, { accessFlags := 18, nameIndex := 58, descriptorIndex := 59, attributes := #[] }, { accessFlags := 18, nameIndex := 62, descriptorIndex := 59, attributes := #[] }, { accessFlags := 2, nameIndex := 68, descriptorIndex := 6, attributes := #[] }, { accessFlags := 2, nameIndex := 280, descriptorIndex := 6, attributes := #[] }, { accessFlags := 2, nameIndex := 315, descriptorIndex := 6, attributes := #[] }, { accessFlags := 2, nameIndex := 287, descriptorIndex := 82, attributes := #[] }])
  fields := #[{ name := "USUAL", type := .int, accessFlags := 26, slot := 0, constantValue := 0 }, { name := "FIRST_VIRTUAL_RELEASE", type := .int, accessFlags := 26, slot := 1, constantValue := 0 }, { name := "VIRTUAL", type := .boolean, accessFlags := 26, slot := 2, constantValue := 0 }, { name := "MAX_VIRTUAL_THREADS", type := .int, accessFlags := 26, slot := 3, constantValue := 0 }, { name := "MAX_PLATFORM_THREADS", type := .int, accessFlags := 26, slot := 4, constantValue := 0 }, { name := "HEAP_PER_THREAD", type := .long, accessFlags := 26, slot := 5, constantValue := 0 }, { name := "CARRIERS", type := (.object "java/lang/String"), accessFlags := 26, slot := 6, constantValue := 0 }, { name := "THREAD_NAME", type := (.object "java/lang/String"), accessFlags := 26, slot := 7, constantValue := 0 }, { name := "PATIENCE_MILLIS", type := .long, accessFlags := 26, slot := 8, constantValue := 0 }, { name := "IDLE_SECONDS", type := .long, accessFlags := 26, slot := 9, constantValue := 0 }, { name := "CLOSE_WAIT_SECONDS", type := .long, accessFlags := 26, slot := 10, constantValue := 0 }, { name := "CURRENT", type := (.object "java/lang/ThreadLocal"), accessFlags := 26, slot := 11, constantValue := 0 }, { name := "usual", type := .int, accessFlags := 18, slot := 0, constantValue := 0 }, { name := "maxThreads", type := .int, accessFlags := 18, slot := 1, constantValue := 0 }, { name := "patienceNanos", type := .long, accessFlags := 18, slot := 2, constantValue := 0 }, { name := "threads", type := (.object "java/util/concurrent/ExecutorService"), accessFlags := 18, slot := 3, constantValue := 0 }, { name := "sizer", type := (.object "java/util/concurrent/ScheduledExecutorService"), accessFlags := 18, slot := 4, constantValue := 0 }, { name := "requests", type := (.object "java/util/concurrent/Executor"), accessFlags := 18, slot := 5, constantValue := 0 }, { name := "lock", type := (.object "java/util/concurrent/locks/ReentrantLock"), accessFlags := 18, slot := 6, constantValue := 0 }, { name := "unstarted", type := (.object "java/util/ArrayDeque"), accessFlags := 18, slot := 7, constantValue := 0 }, { name := "waiting", type := (.object "java/util/ArrayDeque"), accessFlags := 18, slot := 8, constantValue := 0 }, { name := "allowed", type := .int, accessFlags := 2, slot := 9, constantValue := 0 }, { name := "running", type := .int, accessFlags := 2, slot := 10, constantValue := 0 }, { name := "busy", type := .int, accessFlags := 2, slot := 11, constantValue := 0 }, { name := "closed", type := .boolean, accessFlags := 2, slot := 12, constantValue := 0 }]
  methods := #[k4m0, k4m1]
  instanceTypes := #[.int, .int, .long, (.object "java/util/concurrent/ExecutorService"), (.object "java/util/concurrent/ScheduledExecutorService"), (.object "java/util/concurrent/Executor"), (.object "java/util/concurrent/locks/ReentrantLock"), (.object "java/util/ArrayDeque"), (.object "java/util/ArrayDeque"), .int, .int, .int, .boolean]
  staticTypes := #[.int, .int, .boolean, .int, .int, .long, (.object "java/lang/String"), (.object "java/lang/String"), .long, .long, .long, (.object "java/lang/ThreadLocal")]
  resolved := Array.replicate 506 none
  statics := some 0 }

def pool5 : Array CpInfo := pool [(1, .class_ 2), (0, u "java/lang/Math"), (1, .class_ 6), (1, u "java/lang/Object"), (0, u "<init>"), (0, u "()V"), (89, .class_ 100), (1, u "java/lang/Math$RandomNumberGeneratorHolder"), (20, u "(JJ)J"), (50, u "negativeZeroFloatBits"), (0, u "J"), (2, u "negativeZeroDoubleBits"), (24, u "min"), (43, u "$assertionsDisabled"), (0, u "Z"), (91, u "twoToTheDoubleScaleDown"), (0, u "D"), (4, u "twoToTheDoubleScaleUp"), (9, u "E"), (3, u "PI"), (2, u "TAU"), (2, u "DEGREES_TO_RADIANS"), (0, u "RADIANS_TO_DEGREES")] 94

def k5m0 : Method := { name := "<init>", desc := "()V", sig := { parameters := [], returnType := none }, accessFlags := 2, code := none }
def k5c1 : Code := { maxStack := 4, maxLocals := 4, code := jdk_29_method_70_code, exceptionTable := #[], attributes := #[] }
def k5m1 : Method := { name := "min", desc := "(JJ)J", sig := { parameters := [.long, .long], returnType := some .long }, accessFlags := 9, code := some k5c1 }
/-- java/lang/Math -/
def k5 : Class := { plain "java/lang/Math" (some 0) with
  accessFlags := 49
  interfaces := #[]
  cf := some (fileOf pool5 1 #[.nestMembers #[98]] #[{ accessFlags := 2, nameIndex := 7, descriptorIndex := 8, attributes := #[] }, { accessFlags := 9, nameIndex := 201, descriptorIndex := 121, attributes := #[] }] 49 4 #[] #[{ accessFlags := 25, nameIndex := 354, descriptorIndex := 339, attributes := #[] }, { accessFlags := 25, nameIndex := 358, descriptorIndex := 339, attributes := #[] }, { accessFlags := 25, nameIndex := 361, descriptorIndex := 339, attributes := #[] }, { accessFlags := 26, nameIndex := 364, descriptorIndex := 339, attributes := #[] }, { accessFlags := 26, nameIndex := 365, descriptorIndex := 339, attributes := #[] }, { accessFlags := 26, nameIndex := 172, descriptorIndex := 173, attributes := #[] }, { accessFlags := 26, nameIndex := 176, descriptorIndex := 173, attributes := #[] }, { accessFlags := 8, nameIndex := 344, descriptorIndex := 339, attributes := #[] }, { accessFlags := 8, nameIndex := 338, descriptorIndex := 339, attributes := #[] }, { accessFlags := 4120, nameIndex := 245, descriptorIndex := 246, attributes := #[] }])
  fields := #[{ name := "E", type := .double, accessFlags := 25, slot := 0, constantValue := 0 }, { name := "PI", type := .double, accessFlags := 25, slot := 1, constantValue := 0 }, { name := "TAU", type := .double, accessFlags := 25, slot := 2, constantValue := 0 }, { name := "DEGREES_TO_RADIANS", type := .double, accessFlags := 26, slot := 3, constantValue := 0 }, { name := "RADIANS_TO_DEGREES", type := .double, accessFlags := 26, slot := 4, constantValue := 0 }, { name := "negativeZeroFloatBits", type := .long, accessFlags := 26, slot := 5, constantValue := 0 }, { name := "negativeZeroDoubleBits", type := .long, accessFlags := 26, slot := 6, constantValue := 0 }, { name := "twoToTheDoubleScaleUp", type := .double, accessFlags := 8, slot := 7, constantValue := 0 }, { name := "twoToTheDoubleScaleDown", type := .double, accessFlags := 8, slot := 8, constantValue := 0 }, { name := "$assertionsDisabled", type := .boolean, accessFlags := 4120, slot := 9, constantValue := 0 }]
  methods := #[k5m0, k5m1]
  instanceTypes := #[]
  staticTypes := #[.double, .double, .double, .double, .double, .long, .long, .double, .double, .boolean]
  resolved := Array.replicate 460 none
  statics := none }

def pool6 : Array CpInfo := pool [(1, u "java/lang/Cloneable"), (0, .class_ 1), (0, u "java/lang/Object"), (0, .class_ 3)] 3

/-- java/lang/Cloneable -/
def k6 : Class := { plain "java/lang/Cloneable" (some 0) with
  accessFlags := 1537
  interfaces := #[]
  cf := some (fileOf pool6 2 #[] #[] 1537 4 #[] #[])
  fields := #[]
  methods := #[]
  instanceTypes := #[]
  staticTypes := #[]
  resolved := Array.replicate 8 none
  statics := none }

def pool7 : Array CpInfo := pool [(1, u "java/io/Serializable"), (0, .class_ 1), (0, u "java/lang/Object"), (0, .class_ 3)] 3

/-- java/io/Serializable -/
def k7 : Class := { plain "java/io/Serializable" (some 0) with
  accessFlags := 1537
  interfaces := #[]
  cf := some (fileOf pool7 2 #[] #[] 1537 4 #[] #[])
  fields := #[]
  methods := #[]
  instanceTypes := #[]
  staticTypes := #[]
  resolved := Array.replicate 8 none
  statics := none }

/-- the primitive byte -/
def k8 : Class := { plain "byte" none with kind := .primitive 'B', accessFlags := 0x411 }
/-- [B -/
def k9 : Class := { plain "[B" (some 0) with kind := .array 8 .byte, interfaces := #[6, 7], accessFlags := 1041 }

def heap : Heap := #[{ cls := 4, slots := #[.int 0, .int 0, .int 0, .int 0, .int 0, .long 0, .null, .null, .long 0, .long 0, .long 0, .null], vm := .statics 4 }]
def classes : Array Class := #[k0, k1, k2, k3, k4, k5, k6, k7, k8, k9]
def interned : List (Array UInt16 × Addr) := []
def slotsUsed : Nat := 12
def theMethod : MethodId := ⟨1, 1⟩
def args0 : Array Value := #[.long 5, .int 5]
def aboutOver (below : List Frame) : State where
  vm := { classes := classes, interned := interned.toArray }
  heap := heap
  slotsUsed := slotsUsed
  threads := #[{ frames := .invoking theMethod args0 :: below }]
def below0 : List Frame := [.native { method := ⟨0, 0⟩, args := #[] }]
def about1 : State := aboutOver below0
def p0 : Program := .bare "" "" ""
def e0 : Env := launch0.env 0 0 0
theorem w_frames : about1.frames = Frame.invoking theMethod args0 :: below0 := rfl
set_option maxRecDepth 65536 in
theorem w_args : argsFit about1.vm theMethod args0 = true := by decide +kernel
set_option maxRecDepth 65536 in
theorem w_heap : heapFits about1 = true := by decide +kernel
set_option maxRecDepth 65536 in
theorem w_runnable : about1.curStatus? = some .runnable := by decide +kernel
set_option maxRecDepth 65536 in
theorem w_alone : about1.alone = true := by decide +kernel
set_option maxRecDepth 65536 in
theorem w_named : about1.methodNamed? x = some theMethod := by decide +kernel
set_option maxRecDepth 65536 in
theorem w_hears : about1.hears theMethod below0 = true := by decide +kernel
set_option maxRecDepth 65536 in
theorem w_ripe : about1.ripe theMethod args0 below0 = true := by decide +kernel
theorem w_running : about1.status = .running := rfl
set_option maxRecDepth 65536 in
theorem w_room : about1.hasRoom e0.platform room_1 = true :=
  launch0.hasRoom_least _ room_1 (by decide +kernel) (by decide +kernel) (by decide +kernel) (by decide +kernel) (by decide +kernel) (by decide +kernel)
theorem allAtoms_all (ts : List Jvm.Cond) (a : Array Jvm.Value) (st : Jvm.State) : (allAtoms ts).before a st = ts.all (fun c => c.before a st) := by
  induction ts with
  | nil => rfl
  | cons c t ih =>
    show (Jvm.Cond.and c (allAtoms t)).before a st = _
    rw [Jvm.Cond.before_and, ih, List.all_cons]
def words1 : List Jvm.Cond := Jvm.Cond.code x code maxLocals ret :: tables_1
/-- a 'code' word, met by the world's own term for the bytes: nothing is compared byte by byte -/
theorem code_word {y : MethodName} {bytes : ByteArray} {mx : Nat} {rt : Option FieldType} {a : Array Value} {s : State} {m : MethodId} {meth : Method} {c : Code} (h1 : s.methodNamed? y = some m) (h2 : s.vm.method? m = some meth) (h3 : meth.code = some c) (h4 : c.code = bytes)
    (h5 : (c.maxLocals == mx && c.exceptionTable.isEmpty && decide (c.maxStack ≤ mostOperands) && decide (meth.sig.returnType = rt) && !meth.locks && decide (parseMethodDescriptor y.desc = some meth.sig)) = true) : (Jvm.Cond.code y bytes mx rt).before a s = true := by
  simp only [Bool.and_eq_true, beq_iff_eq, Bool.not_eq_true', decide_eq_true_eq] at h5
  obtain ⟨⟨⟨⟨⟨g1, g2⟩, g3⟩, g4⟩, g5⟩, g6⟩ := h5
  simp [Cond.before, Cond.holds, Cond.value, h1, h2, h3, h4, g1, g2, g3, g4, g5, g6]
def isCode : Jvm.Cond → Bool
  | .code _ _ _ _ => true
  | _ => false
theorem all_split {L : List Jvm.Cond} {P : Jvm.Cond → Bool} (h1 : L.all (fun c => isCode c || P c) = true) (h2 : ∀ c ∈ L.filter isCode, P c = true) : L.all P = true := by
  refine List.all_eq_true.mpr fun c hc => ?_
  have h := List.all_eq_true.mp h1 c hc
  rcases Bool.eq_false_or_eq_true (isCode c) with hi | hi
  · exact h2 c (List.mem_filter.mpr ⟨hc, hi⟩)
  · simpa [hi] using h
set_option maxRecDepth 65536 in
theorem w_c0 : (Jvm.Cond.code x code maxLocals ret).before args0 about1 = true := code_word (m := ⟨1, 1⟩) (meth := k1m1) (c := k1c1) (by decide +kernel) rfl rfl rfl (by decide +kernel)
set_option maxRecDepth 65536 in
theorem w_c1 : (Jvm.Cond.code ({ cls := "com/example/earnkey/earnkey/http/Workers", name := "mostThreads", desc := "(J)I" } : Jvm.MethodName) prog_27_method_3_code (3 : Nat) (Option.some Jvm.ClassFile.FieldType.int)).before args0 about1 = true := code_word (m := ⟨4, 1⟩) (meth := k4m1) (c := k4c1) (by decide +kernel) rfl rfl rfl (by decide +kernel)
set_option maxRecDepth 65536 in
theorem w_c2 : (Jvm.Cond.code ({ cls := "java/lang/Math", name := "min", desc := "(JJ)J" } : Jvm.MethodName) jdk_29_method_70_code (4 : Nat) (Option.some Jvm.ClassFile.FieldType.long)).before args0 about1 = true := code_word (m := ⟨5, 1⟩) (meth := k5m1) (c := k5c1) (by decide +kernel) rfl rfl rfl (by decide +kernel)
set_option maxRecDepth 65536 in
theorem w_c3 : (Jvm.Cond.code ({ cls := "com/example/earnkey/earnkey/http/WorkersMostThreadsPinLaw", name := "expected", desc := "(IJ)I" } : Jvm.MethodName) method_3_code (5 : Nat) (Option.some Jvm.ClassFile.FieldType.int)).before args0 about1 = true := code_word (m := ⟨1, 2⟩) (meth := k1m2) (c := k1c2) (by decide +kernel) rfl rfl rfl (by decide +kernel)
def codes1 : List Jvm.Cond := [Jvm.Cond.code x code maxLocals ret, Jvm.Cond.code ({ cls := "com/example/earnkey/earnkey/http/Workers", name := "mostThreads", desc := "(J)I" } : Jvm.MethodName) prog_27_method_3_code (3 : Nat) (Option.some Jvm.ClassFile.FieldType.int), Jvm.Cond.code ({ cls := "java/lang/Math", name := "min", desc := "(JJ)J" } : Jvm.MethodName) jdk_29_method_70_code (4 : Nat) (Option.some Jvm.ClassFile.FieldType.long), Jvm.Cond.code ({ cls := "com/example/earnkey/earnkey/http/WorkersMostThreadsPinLaw", name := "expected", desc := "(IJ)I" } : Jvm.MethodName) method_3_code (5 : Nat) (Option.some Jvm.ClassFile.FieldType.int)]
set_option maxRecDepth 65536 in
theorem codes_eq : words1.filter isCode = codes1 := rfl
theorem w_codes : ∀ c ∈ words1.filter isCode, c.before args0 about1 = true := by
  rw [codes_eq]
  intro c hc
  simp only [codes1, List.mem_cons, List.not_mem_nil, or_false] at hc
  rcases hc with rfl | rfl | rfl | rfl
  · exact w_c0
  · exact w_c1
  · exact w_c2
  · exact w_c3
set_option maxRecDepth 65536 in
theorem w_t1 : words1.all (fun c => isCode c || c.before args0 about1) = true := by decide +kernel
theorem w_tables : (allAtoms (Jvm.Cond.code x code maxLocals ret :: tables_1)).before args0 about1 = true := by
  rw [allAtoms_all]
  show words1.all (fun c => c.before args0 about1) = true
  refine all_split ?_ w_codes
  rw [w_t1]
set_option maxRecDepth 65536 in
theorem w_case : (Jvm.Cond.and given_1 narrow_1).before args0 about1 = true := by decide +kernel
theorem w_applies : (headSpec (Jvm.Cond.code x code maxLocals ret :: tables_1) room_1).applies x e0.platform about1 = true :=
  (Spec.applies_iff w_frames).mpr ⟨w_running, w_runnable, w_alone, w_named, w_hears, w_ripe, w_room, w_tables⟩
theorem atStart : AtStart classFile x code maxLocals ret World_1 tables_1 room_1 Calls_1 rest_1 Pre_1 launch0 p0 e0 about1 theMethod args0 below0 :=
  ⟨lists_1, trivial, launch0.admits_env _ _ _, launch0.least_env, fairChoices_fair.cas, fairChoices_fair.clock, w_frames, w_args, w_heap, w_applies, trivial, trivial, w_case⟩
end start1
theorem witness_1 : WitnessClaimed_1 := ⟨start1.p0, start1.e0, start1.about1, start1.theMethod, start1.args0, start1.below0, start1.atStart⟩
end Jvm.Pilot.@@N@@
