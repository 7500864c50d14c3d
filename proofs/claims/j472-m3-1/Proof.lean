import JvmDerived
import JvmDerived.Pilot.@@N@@Statement
import JvmDerived.Pilot.@@N@@Code
set_option linter.unusedVariables false
set_option linter.unusedSimpArgs false
namespace Jvm.RoadKit
open Sem ClassFile Op Lib Jvm.Stand Jvm.Free Jvm.LawKit
section New
variable {p : Program} {l : Launch} {e : Env} {R : Room} {s : State} {m : MethodId} {args : Array Value} {below : List Frame} {meth : Method} {c : Code} {T : State} {locs : List Loc} {cells slots : Nat}
theorem retI (X : Stand p l e R s m args below meth c T locs cells slots) (hx : p.tables.exec = Jvm.exec) {pc : Nat} {Ls : Array Slot} {z : Int32} {rest : List Value} (hret : meth.sig.returnType = some .int) (hd : decode c.code pc = .ok (.ireturn, 1)) {fs : List Frame}
    (hl : ∀ (f : JFrame) (acts : List Action), f.method = m → f.locked = none → f.entered = [] → (doReturn e (T.setTop f) acts (some (.int z))).1 = T.setFrames fs) : Steps p.tables e below (T.setTop (mkF m pc Ls (.int z :: rest))) (T.setFrames fs) := by
  have hm' : T.vm.method? m = some meth := X.method'
  have hn : narrow .int (.int z) = .int z := rfl
  show Steps p.tables e below (T.setTop { method := m, pc := pc, locals := Ls, stack := _ :: rest, locked := none }) _
  jvm_step X.here [X.here.top, hx, hd, hm', hret, hn]
  first | (intro acts; rw [hl _ acts rfl rfl rfl]) | rw [hl _ _ rfl rfl rfl]
  exact Steps.refl _
end New
end Jvm.RoadKit
namespace Jvm.Pilot.@@N@@
open Jvm Jvm.ClassFile Sem Op Lib Jvm.Free Jvm.Stand Jvm.LawKit Jvm.RoadKit Bundle Jvm.Pilot.@@N@@.Jvm.D
theorem own_doubleToRawLongBits {p : Program} {l : Launch} {e : Env} {R : Room} {s : State} {m : MethodId} {args : Array Value} {below : List Frame} {meth : Method} {c : Code} {T : State} {locs : List Loc} {cells slots : Nat} {Z : State} {a0 : Array Value} {h : Heap} (X : Stand p l e R s m args below meth c T locs cells slots) (hx : p.tables.exec = Jvm.exec) (hZ : Z.Warmed39 s.vm) {own : String} {index : Nat} (hown : s.vm.findClass own = some m.cls)
    (w1 : (Cond.methodLink own index ⟨"java/lang/Double", "doubleToRawLongBits", "(D)J"⟩).before a0 Z = true) (w2 : (Cond.native ⟨"java/lang/Double", "doubleToRawLongBits", "(D)J"⟩).before a0 Z = true) (w3 : (Cond.static ⟨"java/lang/Double", "doubleToRawLongBits", "(D)J"⟩).before a0 Z = true) (w4 : (Cond.initialized "java/lang/Double").before a0 Z = true) (eT : T.heap = h)
    {g : JFrame} (hg : g.method = m) (hsize : g.locals.size = c.maxLocals) {rest : List Value} {b : UInt64} (hst : g.stack = .double b :: rest) (hd : decode c.code g.pc = .ok (.invokestatic index, 3)) (hf : 1 ≤ R.frames) {W : Nat} (hW : 2 * g.monitorRoom + (rest.map fun v => v.category).sum ≤ W) (hl : W + 15 ≤ R.locals) :
    ∃ T', Stand p l e R s m args below meth c T' locs cells slots ∧ T'.heap = h ∧ ∀ target, Steps p.tables e below (T'.setTop { g with pc := g.pc + 3, stack := .long b.toInt64 :: rest }) target → Steps p.tables e below (T.setTop g) target := by
  have nw : nativeFrameWords "java/lang/Double" "doubleToRawLongBits" 2 = 4 := by decide
  obtain ⟨vm', X', st⟩ := X.doubleToRawLongBits hx hown (mvT hZ w1) (mvT hZ w2) (mvT hZ w3) (mvT hZ w4) hg hsize hst hd hf (by rw [nw]; omega)
  exact ⟨_, X', eT, st⟩
theorem own_longBitsToDouble {p : Program} {l : Launch} {e : Env} {R : Room} {s : State} {m : MethodId} {args : Array Value} {below : List Frame} {meth : Method} {c : Code} {T : State} {locs : List Loc} {cells slots : Nat} {Z : State} {a0 : Array Value} {h : Heap} (X : Stand p l e R s m args below meth c T locs cells slots) (hx : p.tables.exec = Jvm.exec) (hZ : Z.Warmed39 s.vm) {own : String} {index : Nat} (hown : s.vm.findClass own = some m.cls)
    (w1 : (Cond.methodLink own index ⟨"java/lang/Double", "longBitsToDouble", "(J)D"⟩).before a0 Z = true) (w2 : (Cond.native ⟨"java/lang/Double", "longBitsToDouble", "(J)D"⟩).before a0 Z = true) (w3 : (Cond.static ⟨"java/lang/Double", "longBitsToDouble", "(J)D"⟩).before a0 Z = true) (w4 : (Cond.initialized "java/lang/Double").before a0 Z = true) (eT : T.heap = h)
    {b : Int64} (hv : (b.toUInt64 &&& 0x7fffffffffffffff > 0x7ff0000000000000 && b.toUInt64 &&& 0x0008000000000000 == 0) = false) {g : JFrame} (hg : g.method = m) (hsize : g.locals.size = c.maxLocals) {rest : List Value} (hst : g.stack = .long b :: rest) (hd : decode c.code g.pc = .ok (.invokestatic index, 3)) (hf : 1 ≤ R.frames) {W : Nat} (hW : 2 * g.monitorRoom + (rest.map fun v => v.category).sum ≤ W) (hl : W + 15 ≤ R.locals) :
    ∃ T', Stand p l e R s m args below meth c T' locs cells slots ∧ T'.heap = h ∧ ∀ target, Steps p.tables e below (T'.setTop { g with pc := g.pc + 3, stack := .double b.toUInt64 :: rest }) target → Steps p.tables e below (T.setTop g) target := by
  have nw : nativeFrameWords "java/lang/Double" "longBitsToDouble" 2 = 4 := by decide
  obtain ⟨vm', X', st⟩ := X.longBitsToDouble hx hown (mvT hZ w1) (mvT hZ w2) (mvT hZ w3) (mvT hZ w4) hg hsize hv hst hd hf (by rw [nw]; omega)
  exact ⟨_, X', eT, st⟩
theorem d2_0 : decode jdk_30_method_1_code 0 = .ok (.aload_n 0, 1) := by decide +kernel
theorem d2_1 : decode jdk_30_method_1_code 1 = .ok (.invokespecial 1, 3) := by decide +kernel
theorem wd_16 {Z : State} {a0 : Array Value} (hw : ∀ d ∈ tables_1, d.before a0 Z = true) : ((Jvm.Cond.methodLink "java/lang/Record" (1 : Nat) ({ cls := "java/lang/Object", name := "<init>", desc := "()V" } : Jvm.MethodName))).before a0 Z = true := hw _ (List.mem_of_getElem? (i := 16) rfl)
theorem wd_17 {Z : State} {a0 : Array Value} (hw : ∀ d ∈ tables_1, d.before a0 Z = true) : ((Jvm.Cond.instanceMethod ({ cls := "java/lang/Object", name := "<init>", desc := "()V" } : Jvm.MethodName))).before a0 Z = true := hw _ (List.mem_of_getElem? (i := 17) rfl)
theorem wd_18 {Z : State} {a0 : Array Value} (hw : ∀ d ∈ tables_1, d.before a0 Z = true) : ((Jvm.Cond.code ({ cls := "java/lang/Object", name := "<init>", desc := "()V" } : Jvm.MethodName) object_method_1_code (1 : Nat) (Option.none : Option Jvm.ClassFile.FieldType))).before a0 Z = true := hw _ (List.mem_of_getElem? (i := 18) rfl)
theorem d2_4 : decode jdk_30_method_1_code 4 = .ok (.return_, 1) := by decide +kernel
theorem pn_java_lang_Record : plainName "java/lang/Record" = true := by first | (simp [plainName, overriddenIn]; done) | decide +kernel
theorem ef_2 (m : MethodId) (x0 : Addr) : entryFrame m #[(.ref x0)] 1 = mkF m 0 #[.val (.ref x0)] [] := by first | (simp [entryFrame, mkF, argsToLocals, Value.category]; done) | rfl
def Q2 (Z : State) (vr0 : Addr) (h0 : Heap) (n0 : Nat) (v : Option Value) (h : Heap) (L : List Loc) : Prop := v = none ∧ Fr n0 L ∧ h = h0
set_option maxRecDepth 65536 in
set_option maxHeartbeats 40000000 in
theorem rm2 (l : Launch) (Z : State) (a0 : Array Value) (hw : ∀ d ∈ tables_1, d.before a0 Z = true) (ws : List Jvm.Cond) (vr0 : Addr) (h0 : Heap) (n0 : Nat) (Z0 : n0 ≤ h0.size) :
    MetFree l (⟨"java/lang/Record", "<init>", "()V"⟩ : MethodName) (head1 (Jvm.Cond.code (⟨"java/lang/Record", "<init>", "()V"⟩ : MethodName) jdk_30_method_1_code 1 none :: ws) ({ frames := 1, cells := 0, slots := 0, locals := 12 } : Room)) (fun a U => a = #[(.ref vr0)] ∧ Z.Warmed39 U.vm ∧ U.heap = h0) (fun _ _ _ _ _ => True) (fun _ U o U' => ∃ v L, o = .returned v ∧ Q2 Z vr0 h0 n0 v U'.heap L ∧ FrameEnd U o U' L ({ frames := 1, cells := 0, slots := 0, locals := 12 } : Room).cells ({ frames := 1, cells := 0, slots := 0, locals := 12 } : Room).slots) := by
  refine MetFree.of_bodySF (plainFor_of_name pn_java_lang_Record) hisR ?_
  intro p e s m args below meth c s₁ Bd hml0 hP hK
  obtain ⟨rfl, hZ, hh⟩ := hP
  have hx := Bd.exec
  have hby := Bd.bytes
  have hml : c.maxLocals = 1 := hml0
  have hown : s.vm.findClass "java/lang/Record" = some m.cls := findClass_of_methodNamed Bd.named
  have hnm := (name_of_methodNamed Bd.named Bd.method).1
  have X0 : Stand p l e ({ frames := 1, cells := 0, slots := 0, locals := 12 } : Room) s m #[(.ref vr0)] below meth c s₁ [] 0 0 := Stand.of_body Bd
  have e0 : s₁.heap = h0 := by rw [← hh, Bd.state]; rfl
  have N0 := Fr.nil n0
  have pre0 : ∀ t, Steps p.tables e below (s₁.setTop (mkF m 0 #[.val (.ref vr0)] [])) t → Steps p.tables e below (s₁.setTop (entryFrame m #[(.ref vr0)] 1)) t := fun t k => castTop (ef_2 m vr0) k
  obtain ⟨T1, X1, e1, st1⟩ := initO X0 hx hZ hown (wd_16 hw) (wd_17 hw) (wd_18 hw) e0 (g := (mkF m 1 #[.val (.ref vr0)] [(.ref vr0)])) rfl (by rw [hml]; rfl) rfl (hb hby d2_1) (by decide) (W := 0) (by show 2 * 0 + _ ≤ _; exact Nat.le_of_eq rfl) (by decide)
  obtain ⟨fs, hr, hrun, hended, hW, hsame⟩ := X1.leave (v := none) (fun _ => rfl)
  refine ⟨_, _, pre0 _ ?_, hrun, hended, _, _, rfl, ?_, ⟨_, rfl⟩, hW, hsame.mono (by decide) (by decide)⟩
  · show Steps p.tables e below (s₁.setTop (mkF m 0 #[.val (.ref vr0)] [])) _
    refine XS.aloadN X0.here hx rfl (hb hby d2_0) rfl rfl ?_
    show Steps p.tables e below (s₁.setTop (mkF m 1 #[.val (.ref vr0)] [(.ref vr0)])) _
    refine st1 _ ?_
    show Steps p.tables e below (T1.setTop (mkF m 4 #[.val (.ref vr0)] [])) _
    exact X1.returnOut hx Bd.returns (hb hby d2_4) hr
  · show Q2 Z vr0 h0 n0 _ T1.heap _
    rw [e1]
    exact ⟨rfl, N0, rfl⟩
theorem d1_0 : decode prog_8_method_1_code 0 = .ok (.aload_n 0, 1) := by decide +kernel
theorem d1_1 : decode prog_8_method_1_code 1 = .ok (.invokespecial 1, 3) := by decide +kernel
theorem wd_11 {Z : State} {a0 : Array Value} (hw : ∀ d ∈ tables_1, d.before a0 Z = true) : ((Jvm.Cond.methodLink "com/example/castellan/castellan/ProgressTracker$Bounds" (1 : Nat) ({ cls := "java/lang/Record", name := "<init>", desc := "()V" } : Jvm.MethodName))).before a0 Z = true := hw _ (List.mem_of_getElem? (i := 11) rfl)
theorem wd_15 {Z : State} {a0 : Array Value} (hw : ∀ d ∈ tables_1, d.before a0 Z = true) : ((Jvm.Cond.code ({ cls := "java/lang/Record", name := "<init>", desc := "()V" } : Jvm.MethodName) jdk_30_method_1_code (1 : Nat) (Option.none : Option Jvm.ClassFile.FieldType))).before a0 Z = true := hw _ (List.mem_of_getElem? (i := 15) rfl)
theorem wd_14 {Z : State} {a0 : Array Value} (hw : ∀ d ∈ tables_1, d.before a0 Z = true) : ((Jvm.Cond.initialized "java/lang/Record")).before a0 Z = true := hw _ (List.mem_of_getElem? (i := 14) rfl)
theorem pd_1 : parseMethodDescriptor "()V" = some ⟨[], none⟩ := by decide +kernel
theorem wd_12 {Z : State} {a0 : Array Value} (hw : ∀ d ∈ tables_1, d.before a0 Z = true) : ((Jvm.Cond.instanceMethod ({ cls := "java/lang/Record", name := "<init>", desc := "()V" } : Jvm.MethodName))).before a0 Z = true := hw _ (List.mem_of_getElem? (i := 12) rfl)
theorem d1_4 : decode prog_8_method_1_code 4 = .ok (.aload_n 0, 1) := by decide +kernel
theorem d1_5 : decode prog_8_method_1_code 5 = .ok (.dload_n 1, 1) := by decide +kernel
theorem d1_6 : decode prog_8_method_1_code 6 = .ok (.putfield 7, 3) := by decide +kernel
theorem wd_19 {Z : State} {a0 : Array Value} (hw : ∀ d ∈ tables_1, d.before a0 Z = true) : ((Jvm.Cond.fieldLink "com/example/castellan/castellan/ProgressTracker$Bounds" (7 : Nat) "com/example/castellan/castellan/ProgressTracker$Bounds" "low" "D")).before a0 Z = true := hw _ (List.mem_of_getElem? (i := 19) rfl)
theorem wd_20 {Z : State} {a0 : Array Value} (hw : ∀ d ∈ tables_1, d.before a0 Z = true) : ((Jvm.Cond.laysFinal "com/example/castellan/castellan/ProgressTracker$Bounds" "com/example/castellan/castellan/ProgressTracker$Bounds" "low" "D")).before a0 Z = true := hw _ (List.mem_of_getElem? (i := 20) rfl)
theorem wd_6 {Z : State} {a0 : Array Value} (hw : ∀ d ∈ tables_1, d.before a0 Z = true) : ((Jvm.Cond.instantiable "com/example/castellan/castellan/ProgressTracker$Bounds" (2 : Nat))).before a0 Z = true := hw _ (List.mem_of_getElem? (i := 6) rfl)
theorem d1_9 : decode prog_8_method_1_code 9 = .ok (.aload_n 0, 1) := by decide +kernel
theorem d1_10 : decode prog_8_method_1_code 10 = .ok (.dload_n 3, 1) := by decide +kernel
theorem d1_11 : decode prog_8_method_1_code 11 = .ok (.putfield 13, 3) := by decide +kernel
theorem wd_21 {Z : State} {a0 : Array Value} (hw : ∀ d ∈ tables_1, d.before a0 Z = true) : ((Jvm.Cond.fieldLink "com/example/castellan/castellan/ProgressTracker$Bounds" (13 : Nat) "com/example/castellan/castellan/ProgressTracker$Bounds" "high" "D")).before a0 Z = true := hw _ (List.mem_of_getElem? (i := 21) rfl)
theorem wd_22 {Z : State} {a0 : Array Value} (hw : ∀ d ∈ tables_1, d.before a0 Z = true) : ((Jvm.Cond.laysFinal "com/example/castellan/castellan/ProgressTracker$Bounds" "com/example/castellan/castellan/ProgressTracker$Bounds" "high" "D")).before a0 Z = true := hw _ (List.mem_of_getElem? (i := 22) rfl)
theorem sl_0 {Z : State} {a0 : Array Value} (hw : ∀ d ∈ tables_1, d.before a0 Z = true) : RoadKit.slotOf Z "com/example/castellan/castellan/ProgressTracker$Bounds" "high" "D" ≠ RoadKit.slotOf Z "com/example/castellan/castellan/ProgressTracker$Bounds" "low" "D" := slot_ne (Or.inr (wd_22 hw)) (Or.inr (wd_20 hw)) (by decide) (t := .double) (t' := .double) (by decide) (by decide)
theorem d1_14 : decode prog_8_method_1_code 14 = .ok (.return_, 1) := by decide +kernel
theorem sl_1 {Z : State} {a0 : Array Value} (hw : ∀ d ∈ tables_1, d.before a0 Z = true) : RoadKit.slotOf Z "com/example/castellan/castellan/ProgressTracker$Bounds" "low" "D" ≠ RoadKit.slotOf Z "com/example/castellan/castellan/ProgressTracker$Bounds" "high" "D" := slot_ne (Or.inr (wd_20 hw)) (Or.inr (wd_22 hw)) (by decide) (t := .double) (t' := .double) (by decide) (by decide)
theorem pn_com_example_castellan_castellan_ProgressTracker_Bounds : plainName "com/example/castellan/castellan/ProgressTracker$Bounds" = true := by first | (simp [plainName, overriddenIn]; done) | decide +kernel
theorem ef_1 (m : MethodId) (x0 : Addr) (x1 : UInt64) (x2 : UInt64) : entryFrame m #[(.ref x0), (.double x1), (.double x2)] 5 = mkF m 0 #[.val (.ref x0), .val (.double x1), .second, .val (.double x2), .second] [] := by first | (simp [entryFrame, mkF, argsToLocals, Value.category]; done) | rfl
def Q1 (Z : State) (vr0 : Addr) (vd1 : UInt64) (vd2 : UInt64) (u_low_vr0 : Value) (u_high_vr0 : Value) (h0 : Heap) (n0 : Nat) (v : Option Value) (h : Heap) (L : List Loc) : Prop := v = none ∧ Fr n0 L ∧ Keep h0 h [vr0] ∧ Fld Z h vr0 "com/example/castellan/castellan/ProgressTracker$Bounds" "low" "D" (.double vd1) ∧ Fld Z h vr0 "com/example/castellan/castellan/ProgressTracker$Bounds" "high" "D" (.double vd2)
set_option maxRecDepth 65536 in
set_option maxHeartbeats 40000000 in
theorem rm1 (l : Launch) (Z : State) (a0 : Array Value) (hw : ∀ d ∈ tables_1, d.before a0 Z = true) (ws : List Jvm.Cond) (vr0 : Addr) (vd1 : UInt64) (vd2 : UInt64) (u_low_vr0 : Value) (u_high_vr0 : Value) (h0 : Heap) (n0 : Nat) (Z0 : n0 ≤ h0.size) (E_vr0 : Exa Z h0 vr0 "com/example/castellan/castellan/ProgressTracker$Bounds") (F_low_vr0 : Fld Z h0 vr0 "com/example/castellan/castellan/ProgressTracker$Bounds" "low" "D" u_low_vr0) (g_vr0 : n0 ≤ vr0) (F_high_vr0 : Fld Z h0 vr0 "com/example/castellan/castellan/ProgressTracker$Bounds" "high" "D" u_high_vr0) :
    MetFree l (⟨"com/example/castellan/castellan/ProgressTracker$Bounds", "<init>", "(DD)V"⟩ : MethodName) (head1 (Jvm.Cond.code (⟨"com/example/castellan/castellan/ProgressTracker$Bounds", "<init>", "(DD)V"⟩ : MethodName) prog_8_method_1_code 5 none :: ws) ({ frames := 2, cells := 0, slots := 0, locals := 24 } : Room)) (fun a U => a = #[(.ref vr0), (.double vd1), (.double vd2)] ∧ Z.Warmed39 U.vm ∧ U.heap = h0) (fun _ _ _ _ _ => True) (fun _ U o U' => ∃ v L, o = .returned v ∧ Q1 Z vr0 vd1 vd2 u_low_vr0 u_high_vr0 h0 n0 v U'.heap L ∧ FrameEnd U o U' L ({ frames := 2, cells := 0, slots := 0, locals := 24 } : Room).cells ({ frames := 2, cells := 0, slots := 0, locals := 24 } : Room).slots) := by
  refine MetFree.of_bodySF (plainFor_of_name pn_com_example_castellan_castellan_ProgressTracker_Bounds) hisR ?_
  intro p e s m args below meth c s₁ Bd hml0 hP hK
  obtain ⟨rfl, hZ, hh⟩ := hP
  have hx := Bd.exec
  have hby := Bd.bytes
  have hml : c.maxLocals = 5 := hml0
  have hown : s.vm.findClass "com/example/castellan/castellan/ProgressTracker$Bounds" = some m.cls := findClass_of_methodNamed Bd.named
  have hnm := (name_of_methodNamed Bd.named Bd.method).1
  have X0 : Stand p l e ({ frames := 2, cells := 0, slots := 0, locals := 24 } : Room) s m #[(.ref vr0), (.double vd1), (.double vd2)] below meth c s₁ [] 0 0 := Stand.of_body Bd
  have e0 : s₁.heap = h0 := by rw [← hh, Bd.state]; rfl
  have N0 := Fr.nil n0
  have pre0 : ∀ t, Steps p.tables e below (s₁.setTop (mkF m 0 #[.val (.ref vr0), .val (.double vd1), .second, .val (.double vd2), .second] [])) t → Steps p.tables e below (s₁.setTop (entryFrame m #[(.ref vr0), (.double vd1), (.double vd2)] 5)) t := fun t k => castTop (ef_1 m vr0 vd1 vd2) k
  obtain ⟨_, _, ⟨T1, L1, k1, n1⟩, -, X1, ⟨Lc1, hQ1, l1, y1, z1⟩, st1⟩ := X0.specialBack hx (y := (⟨"java/lang/Record", "<init>", "()V"⟩ : MethodName)) rfl hown (mvT hZ (wd_11 hw)) (mvT hZ (wd_12 hw)) (mvT hZ (wd_15 hw)) (by decide) (backOf (W := 0) (rm2 l Z a0 hw [] vr0 h0 n0 Z0 ) hZ (wd_15 hw) (wd_14 hw) (by decide) (by decide)) (g := (mkF m 1 #[.val (.ref vr0), .val (.double vd1), .second, .val (.double vd2), .second] [(.ref vr0)])) rfl (by rw [hml]; rfl) (Steps.refl _) (a := vr0) (argsL := []) (rest := []) (lenOf pd_1 rfl) rfl (by show 2 * 0 + _ ≤ _; exact Nat.le_of_eq rfl) (hb hby d1_1) (fun _ _ => ⟨rfl, e0, (by decide : 0 + 0 ≤ _), (by decide : 0 + 0 ≤ _)⟩)
  dsimp only [Pt.U, Pt.locs, Pt.cells, Pt.slots] at X1 l1 y1 z1 st1 hQ1
  subst l1 y1 z1
  obtain ⟨rfl, N1q, p1_0⟩ := hQ1
  have N1 := Fr.app N0 N1q
  have e1 : T1.heap = h0 := p1_0
  obtain ⟨T2, h2, X2, e2, W2, st2⟩ := putF X1 hx hZ hown (host := "") (Or.inl (wd_19 hw)) Via.refl e1 F_low_vr0 E_vr0 (Or.inr ⟨(wd_20 hw), rfl, hnm⟩) (wd_6 hw) (ty := .double) (by decide) rfl rfl (g := (mkF m 6 #[.val (.ref vr0), .val (.double vd1), .second, .val (.double vd2), .second] [(.double vd1), (.ref vr0)])) rfl rfl (hb hby d1_6)
  have Fw2 := F_low_vr0.same W2
  have N2 := Fr.snoc X2 N1 g_vr0
  have K2 : Keep h0 h2 [vr0] := (Keep.refl h0 [vr0]).wr W2 (Or.inl (List.mem_of_getElem? (i := 0) rfl))
  obtain ⟨T3, h3, X3, e3, W3, st3⟩ := putF X2 hx hZ hown (host := "") (Or.inl (wd_21 hw)) Via.refl e2 (F_high_vr0.other W2 (Or.inr (sl_0 hw))) (E_vr0.wr W2) (Or.inr ⟨(wd_22 hw), rfl, hnm⟩) (wd_6 hw) (ty := .double) (by decide) rfl rfl (g := (mkF m 11 #[.val (.ref vr0), .val (.double vd1), .second, .val (.double vd2), .second] [(.double vd2), (.ref vr0)])) rfl rfl (hb hby d1_11)
  have Fw3 := (F_high_vr0.other W2 (Or.inr (sl_0 hw))).same W3
  have N3 := Fr.snoc X3 N2 g_vr0
  have K3 : Keep h0 h3 [vr0] := K2.wr W3 (Or.inl (List.mem_of_getElem? (i := 0) rfl))
  obtain ⟨fs, hr, hrun, hended, hW, hsame⟩ := X3.leave (v := none) (fun _ => rfl)
  refine ⟨_, _, pre0 _ ?_, hrun, hended, _, _, rfl, ?_, ⟨_, rfl⟩, hW, hsame.mono (by decide) (by decide)⟩
  · show Steps p.tables e below (s₁.setTop (mkF m 0 #[.val (.ref vr0), .val (.double vd1), .second, .val (.double vd2), .second] [])) _
    refine XS.aloadN X0.here hx rfl (hb hby d1_0) rfl rfl ?_
    show Steps p.tables e below (s₁.setTop (mkF m 1 #[.val (.ref vr0), .val (.double vd1), .second, .val (.double vd2), .second] [(.ref vr0)])) _
    refine st1.trans ?_
    show Steps p.tables e below (T1.setTop (mkF m 4 #[.val (.ref vr0), .val (.double vd1), .second, .val (.double vd2), .second] [])) _
    refine XS.aloadN X1.here hx rfl (hb hby d1_4) rfl rfl ?_
    show Steps p.tables e below (T1.setTop (mkF m 5 #[.val (.ref vr0), .val (.double vd1), .second, .val (.double vd2), .second] [(.ref vr0)])) _
    refine XS.dloadN X1.here hx rfl (hb hby d1_5) rfl ?_
    show Steps p.tables e below (T1.setTop (mkF m 6 #[.val (.ref vr0), .val (.double vd1), .second, .val (.double vd2), .second] [(.double vd1), (.ref vr0)])) _
    refine st2 _ ?_
    show Steps p.tables e below (T2.setTop (mkF m 9 #[.val (.ref vr0), .val (.double vd1), .second, .val (.double vd2), .second] [])) _
    refine XS.aloadN X2.here hx rfl (hb hby d1_9) rfl rfl ?_
    show Steps p.tables e below (T2.setTop (mkF m 10 #[.val (.ref vr0), .val (.double vd1), .second, .val (.double vd2), .second] [(.ref vr0)])) _
    refine XS.dloadN X2.here hx rfl (hb hby d1_10) rfl ?_
    show Steps p.tables e below (T2.setTop (mkF m 11 #[.val (.ref vr0), .val (.double vd1), .second, .val (.double vd2), .second] [(.double vd2), (.ref vr0)])) _
    refine st3 _ ?_
    show Steps p.tables e below (T3.setTop (mkF m 14 #[.val (.ref vr0), .val (.double vd1), .second, .val (.double vd2), .second] [])) _
    exact X3.returnOut hx Bd.returns (hb hby d1_14) hr
  · show Q1 Z vr0 vd1 vd2 u_low_vr0 u_high_vr0 h0 n0 _ T3.heap _
    rw [e3]
    exact ⟨rfl, N3, K3, (Fw2.other W3 (Or.inr (sl_1 hw))), Fw3⟩
theorem d6_0 : decode prog_8_method_10_code 0 = .ok (.dload 4, 2) := by decide +kernel
theorem d6_2 : decode prog_8_method_10_code 2 = .ok (.dload_n 0, 1) := by decide +kernel
theorem d6_3 : decode prog_8_method_10_code 3 = .ok (.dsub, 1) := by decide +kernel
theorem d6_4 : decode prog_8_method_10_code 4 = .ok (.dstore 6, 2) := by decide +kernel
theorem d6_6 : decode prog_8_method_10_code 6 = .ok (.dload 4, 2) := by decide +kernel
theorem d6_8 : decode prog_8_method_10_code 8 = .ok (.dload 6, 2) := by decide +kernel
theorem d6_10 : decode prog_8_method_10_code 10 = .ok (.dsub, 1) := by decide +kernel
theorem d6_11 : decode prog_8_method_10_code 11 = .ok (.dstore 8, 2) := by decide +kernel
theorem d6_13 : decode prog_8_method_10_code 13 = .ok (.dload_n 0, 1) := by decide +kernel
theorem d6_14 : decode prog_8_method_10_code 14 = .ok (.dload 8, 2) := by decide +kernel
theorem d6_16 : decode prog_8_method_10_code 16 = .ok (.dsub, 1) := by decide +kernel
theorem d6_17 : decode prog_8_method_10_code 17 = .ok (.dload_n 2, 1) := by decide +kernel
theorem d6_18 : decode prog_8_method_10_code 18 = .ok (.dload 6, 2) := by decide +kernel
theorem d6_20 : decode prog_8_method_10_code 20 = .ok (.dsub, 1) := by decide +kernel
theorem d6_21 : decode prog_8_method_10_code 21 = .ok (.dadd, 1) := by decide +kernel
theorem d6_22 : decode prog_8_method_10_code 22 = .ok (.dreturn, 1) := by decide +kernel
theorem ef_6 (m : MethodId) (x0 : UInt64) (x1 : UInt64) (x2 : UInt64) : entryFrame m #[(.double x0), (.double x1), (.double x2)] 10 = mkF m 0 #[.val (.double x0), .second, .val (.double x1), .second, .val (.double x2), .second, .unset, .unset, .unset, .unset] [] := by first | (simp [entryFrame, mkF, argsToLocals, Value.category]; done) | rfl
def Q6 (Z : State) (vd0 : UInt64) (vd1 : UInt64) (vd2 : UInt64) (h0 : Heap) (n0 : Nat) (v : Option Value) (h : Heap) (L : List Loc) : Prop := v = some (.double (FP.dadd (FP.dsub vd0 (FP.dsub vd2 (FP.dsub vd2 vd0))) (FP.dsub vd1 (FP.dsub vd2 vd0)))) ∧ Fr n0 L ∧ h = h0
set_option maxRecDepth 65536 in
set_option maxHeartbeats 40000000 in
theorem rm6 (l : Launch) (Z : State) (a0 : Array Value) (hw : ∀ d ∈ tables_1, d.before a0 Z = true) (ws : List Jvm.Cond) (vd0 : UInt64) (vd1 : UInt64) (vd2 : UInt64) (h0 : Heap) (n0 : Nat) (Z0 : n0 ≤ h0.size) (hn3 : Jvm.Free.Fl.NoNaN64 (FP.dsub vd2 vd0)) (hn10 : Jvm.Free.Fl.NoNaN64 (FP.dsub vd2 (FP.dsub vd2 vd0))) (hn16 : Jvm.Free.Fl.NoNaN64 (FP.dsub vd0 (FP.dsub vd2 (FP.dsub vd2 vd0)))) (hn20 : Jvm.Free.Fl.NoNaN64 (FP.dsub vd1 (FP.dsub vd2 vd0))) (hn21 : Jvm.Free.Fl.NoNaN64 (FP.dadd (FP.dsub vd0 (FP.dsub vd2 (FP.dsub vd2 vd0))) (FP.dsub vd1 (FP.dsub vd2 vd0)))) :
    MetFree l (⟨"com/example/castellan/castellan/ProgressTracker$Bounds", "sumError", "(DDD)D"⟩ : MethodName) (head1 (Jvm.Cond.code (⟨"com/example/castellan/castellan/ProgressTracker$Bounds", "sumError", "(DDD)D"⟩ : MethodName) prog_8_method_10_code 10 (some .double) :: ws) ({ frames := 0, cells := 0, slots := 0, locals := 0 } : Room)) (fun a U => a = #[(.double vd0), (.double vd1), (.double vd2)] ∧ Z.Warmed39 U.vm ∧ U.heap = h0) (fun _ _ _ _ _ => True) (fun _ U o U' => ∃ v L, o = .returned v ∧ Q6 Z vd0 vd1 vd2 h0 n0 v U'.heap L ∧ FrameEnd U o U' L ({ frames := 0, cells := 0, slots := 0, locals := 0 } : Room).cells ({ frames := 0, cells := 0, slots := 0, locals := 0 } : Room).slots) := by
  refine MetFree.of_bodySF (plainFor_of_name pn_com_example_castellan_castellan_ProgressTracker_Bounds) hisR ?_
  intro p e s m args below meth c s₁ Bd hml0 hP hK
  obtain ⟨rfl, hZ, hh⟩ := hP
  have hx := Bd.exec
  have hby := Bd.bytes
  have hml : c.maxLocals = 10 := hml0
  have hown : s.vm.findClass "com/example/castellan/castellan/ProgressTracker$Bounds" = some m.cls := findClass_of_methodNamed Bd.named
  have hnm := (name_of_methodNamed Bd.named Bd.method).1
  have X0 : Stand p l e ({ frames := 0, cells := 0, slots := 0, locals := 0 } : Room) s m #[(.double vd0), (.double vd1), (.double vd2)] below meth c s₁ [] 0 0 := Stand.of_body Bd
  have e0 : s₁.heap = h0 := by rw [← hh, Bd.state]; rfl
  have N0 := Fr.nil n0
  have pre0 : ∀ t, Steps p.tables e below (s₁.setTop (mkF m 0 #[.val (.double vd0), .second, .val (.double vd1), .second, .val (.double vd2), .second, .unset, .unset, .unset, .unset] [])) t → Steps p.tables e below (s₁.setTop (entryFrame m #[(.double vd0), (.double vd1), (.double vd2)] 10)) t := fun t k => castTop (ef_6 m vd0 vd1 vd2) k
  obtain ⟨fs, hr, hrun, hended, hW, hsame⟩ := X0.leave (v := some (.double (FP.dadd (FP.dsub vd0 (FP.dsub vd2 (FP.dsub vd2 vd0))) (FP.dsub vd1 (FP.dsub vd2 vd0))))) (fun h => by rw [Bd.returns] at h; cases h)
  refine ⟨_, _, pre0 _ ?_, hrun, hended, _, _, rfl, ?_, ⟨_, rfl⟩, hW, hsame.mono (by decide) (by decide)⟩
  · show Steps p.tables e below (s₁.setTop (mkF m 0 #[.val (.double vd0), .second, .val (.double vd1), .second, .val (.double vd2), .second, .unset, .unset, .unset, .unset] [])) _
    refine XS.dload X0.here hx rfl (hb hby d6_0) rfl ?_
    show Steps p.tables e below (s₁.setTop (mkF m 2 #[.val (.double vd0), .second, .val (.double vd1), .second, .val (.double vd2), .second, .unset, .unset, .unset, .unset] [(.double vd2)])) _
    refine XS.dloadN X0.here hx rfl (hb hby d6_2) rfl ?_
    show Steps p.tables e below (s₁.setTop (mkF m 3 #[.val (.double vd0), .second, .val (.double vd1), .second, .val (.double vd2), .second, .unset, .unset, .unset, .unset] [(.double vd0), (.double vd2)])) _
    refine XS.dsubS X0.here hx rfl (hb hby d6_3) rfl hn3 rfl ?_
    show Steps p.tables e below (s₁.setTop (mkF m 4 #[.val (.double vd0), .second, .val (.double vd1), .second, .val (.double vd2), .second, .unset, .unset, .unset, .unset] [(.double (FP.dsub vd2 vd0))])) _
    refine XS.dstore X0.here hx rfl (hb hby d6_4) rfl (l' := #[.val (.double vd0), .second, .val (.double vd1), .second, .val (.double vd2), .second, .val (.double (FP.dsub vd2 vd0)), .second, .unset, .unset]) rfl ?_
    show Steps p.tables e below (s₁.setTop (mkF m 6 #[.val (.double vd0), .second, .val (.double vd1), .second, .val (.double vd2), .second, .val (.double (FP.dsub vd2 vd0)), .second, .unset, .unset] [])) _
    refine XS.dload X0.here hx rfl (hb hby d6_6) rfl ?_
    show Steps p.tables e below (s₁.setTop (mkF m 8 #[.val (.double vd0), .second, .val (.double vd1), .second, .val (.double vd2), .second, .val (.double (FP.dsub vd2 vd0)), .second, .unset, .unset] [(.double vd2)])) _
    refine XS.dload X0.here hx rfl (hb hby d6_8) rfl ?_
    show Steps p.tables e below (s₁.setTop (mkF m 10 #[.val (.double vd0), .second, .val (.double vd1), .second, .val (.double vd2), .second, .val (.double (FP.dsub vd2 vd0)), .second, .unset, .unset] [(.double (FP.dsub vd2 vd0)), (.double vd2)])) _
    refine XS.dsubS X0.here hx rfl (hb hby d6_10) rfl hn10 rfl ?_
    show Steps p.tables e below (s₁.setTop (mkF m 11 #[.val (.double vd0), .second, .val (.double vd1), .second, .val (.double vd2), .second, .val (.double (FP.dsub vd2 vd0)), .second, .unset, .unset] [(.double (FP.dsub vd2 (FP.dsub vd2 vd0)))])) _
    refine XS.dstore X0.here hx rfl (hb hby d6_11) rfl (l' := #[.val (.double vd0), .second, .val (.double vd1), .second, .val (.double vd2), .second, .val (.double (FP.dsub vd2 vd0)), .second, .val (.double (FP.dsub vd2 (FP.dsub vd2 vd0))), .second]) rfl ?_
    show Steps p.tables e below (s₁.setTop (mkF m 13 #[.val (.double vd0), .second, .val (.double vd1), .second, .val (.double vd2), .second, .val (.double (FP.dsub vd2 vd0)), .second, .val (.double (FP.dsub vd2 (FP.dsub vd2 vd0))), .second] [])) _
    refine XS.dloadN X0.here hx rfl (hb hby d6_13) rfl ?_
    show Steps p.tables e below (s₁.setTop (mkF m 14 #[.val (.double vd0), .second, .val (.double vd1), .second, .val (.double vd2), .second, .val (.double (FP.dsub vd2 vd0)), .second, .val (.double (FP.dsub vd2 (FP.dsub vd2 vd0))), .second] [(.double vd0)])) _
    refine XS.dload X0.here hx rfl (hb hby d6_14) rfl ?_
    show Steps p.tables e below (s₁.setTop (mkF m 16 #[.val (.double vd0), .second, .val (.double vd1), .second, .val (.double vd2), .second, .val (.double (FP.dsub vd2 vd0)), .second, .val (.double (FP.dsub vd2 (FP.dsub vd2 vd0))), .second] [(.double (FP.dsub vd2 (FP.dsub vd2 vd0))), (.double vd0)])) _
    refine XS.dsubS X0.here hx rfl (hb hby d6_16) rfl hn16 rfl ?_
    show Steps p.tables e below (s₁.setTop (mkF m 17 #[.val (.double vd0), .second, .val (.double vd1), .second, .val (.double vd2), .second, .val (.double (FP.dsub vd2 vd0)), .second, .val (.double (FP.dsub vd2 (FP.dsub vd2 vd0))), .second] [(.double (FP.dsub vd0 (FP.dsub vd2 (FP.dsub vd2 vd0))))])) _
    refine XS.dloadN X0.here hx rfl (hb hby d6_17) rfl ?_
    show Steps p.tables e below (s₁.setTop (mkF m 18 #[.val (.double vd0), .second, .val (.double vd1), .second, .val (.double vd2), .second, .val (.double (FP.dsub vd2 vd0)), .second, .val (.double (FP.dsub vd2 (FP.dsub vd2 vd0))), .second] [(.double vd1), (.double (FP.dsub vd0 (FP.dsub vd2 (FP.dsub vd2 vd0))))])) _
    refine XS.dload X0.here hx rfl (hb hby d6_18) rfl ?_
    show Steps p.tables e below (s₁.setTop (mkF m 20 #[.val (.double vd0), .second, .val (.double vd1), .second, .val (.double vd2), .second, .val (.double (FP.dsub vd2 vd0)), .second, .val (.double (FP.dsub vd2 (FP.dsub vd2 vd0))), .second] [(.double (FP.dsub vd2 vd0)), (.double vd1), (.double (FP.dsub vd0 (FP.dsub vd2 (FP.dsub vd2 vd0))))])) _
    refine XS.dsubS X0.here hx rfl (hb hby d6_20) rfl hn20 rfl ?_
    show Steps p.tables e below (s₁.setTop (mkF m 21 #[.val (.double vd0), .second, .val (.double vd1), .second, .val (.double vd2), .second, .val (.double (FP.dsub vd2 vd0)), .second, .val (.double (FP.dsub vd2 (FP.dsub vd2 vd0))), .second] [(.double (FP.dsub vd1 (FP.dsub vd2 vd0))), (.double (FP.dsub vd0 (FP.dsub vd2 (FP.dsub vd2 vd0))))])) _
    refine XS.daddS X0.here hx rfl (hb hby d6_21) rfl hn21 rfl ?_
    show Steps p.tables e below (s₁.setTop (mkF m 22 #[.val (.double vd0), .second, .val (.double vd1), .second, .val (.double vd2), .second, .val (.double (FP.dsub vd2 vd0)), .second, .val (.double (FP.dsub vd2 (FP.dsub vd2 vd0))), .second] [(.double (FP.dadd (FP.dsub vd0 (FP.dsub vd2 (FP.dsub vd2 vd0))) (FP.dsub vd1 (FP.dsub vd2 vd0))))])) _
    exact retOut X0 hx Bd.returns rfl (Or.inr (Or.inr (Or.inl ⟨rfl, rfl, _, rfl⟩))) (hb hby d6_22) hr
  · show Q6 Z vd0 vd1 vd2 h0 n0 _ s₁.heap _
    rw [e0]
    exact ⟨rfl, N0, rfl⟩
theorem d14_0 : decode jdk_117_method_6_code 0 = .ok (.dload_n 0, 1) := by decide +kernel
theorem d14_1 : decode jdk_117_method_6_code 1 = .ok (.dload_n 0, 1) := by decide +kernel
theorem d14_2 : decode jdk_117_method_6_code 2 = .ok (.dcmp .l, 1) := by decide +kernel
theorem d14_3 : decode jdk_117_method_6_code 3 = .ok (.ifCond .eq 7, 3) := by decide +kernel
theorem d14_10 : decode jdk_117_method_6_code 10 = .ok (.iconst 0, 1) := by decide +kernel
theorem d14_11 : decode jdk_117_method_6_code 11 = .ok (.ireturn, 1) := by decide +kernel
theorem pn_java_lang_Double : plainName "java/lang/Double" = true := by first | (simp [plainName, overriddenIn]; done) | decide +kernel
theorem ef_14 (m : MethodId) (x0 : UInt64) : entryFrame m #[(.double x0)] 2 = mkF m 0 #[.val (.double x0), .second] [] := by first | (simp [entryFrame, mkF, argsToLocals, Value.category]; done) | rfl
def Q14 (Z : State) (vd0 : UInt64) (h0 : Heap) (n0 : Nat) (v : Option Value) (h : Heap) (L : List Loc) : Prop := v = some (.int (0 : Int32)) ∧ Fr n0 L ∧ h = h0
set_option maxRecDepth 65536 in
set_option maxHeartbeats 40000000 in
theorem rm14 (l : Launch) (Z : State) (a0 : Array Value) (hw : ∀ d ∈ tables_1, d.before a0 Z = true) (ws : List Jvm.Cond) (vd0 : UInt64) (h0 : Heap) (n0 : Nat) (Z0 : n0 ≤ h0.size) (hc3 : (cmpValue (FP.dcmp vd0 vd0) .l) = (0 : Int32)) :
    MetFree l (⟨"java/lang/Double", "isNaN", "(D)Z"⟩ : MethodName) (head1 (Jvm.Cond.code (⟨"java/lang/Double", "isNaN", "(D)Z"⟩ : MethodName) jdk_117_method_6_code 2 (some .boolean) :: ws) ({ frames := 0, cells := 0, slots := 0, locals := 0 } : Room)) (fun a U => a = #[(.double vd0)] ∧ Z.Warmed39 U.vm ∧ U.heap = h0) (fun _ _ _ _ _ => True) (fun _ U o U' => ∃ v L, o = .returned v ∧ Q14 Z vd0 h0 n0 v U'.heap L ∧ FrameEnd U o U' L ({ frames := 0, cells := 0, slots := 0, locals := 0 } : Room).cells ({ frames := 0, cells := 0, slots := 0, locals := 0 } : Room).slots) := by
  refine MetFree.of_bodySF (plainFor_of_name pn_java_lang_Double) hisR ?_
  intro p e s m args below meth c s₁ Bd hml0 hP hK
  obtain ⟨rfl, hZ, hh⟩ := hP
  have hx := Bd.exec
  have hby := Bd.bytes
  have hml : c.maxLocals = 2 := hml0
  have hown : s.vm.findClass "java/lang/Double" = some m.cls := findClass_of_methodNamed Bd.named
  have hnm := (name_of_methodNamed Bd.named Bd.method).1
  have X0 : Stand p l e ({ frames := 0, cells := 0, slots := 0, locals := 0 } : Room) s m #[(.double vd0)] below meth c s₁ [] 0 0 := Stand.of_body Bd
  have e0 : s₁.heap = h0 := by rw [← hh, Bd.state]; rfl
  have N0 := Fr.nil n0
  have pre0 : ∀ t, Steps p.tables e below (s₁.setTop (mkF m 0 #[.val (.double vd0), .second] [])) t → Steps p.tables e below (s₁.setTop (entryFrame m #[(.double vd0)] 2)) t := fun t k => castTop (ef_14 m vd0) k
  obtain ⟨fs, hr, hrun, hended, hW, hsame⟩ := X0.leave (v := some (.int (0 : Int32))) (fun h => by rw [Bd.returns] at h; cases h)
  refine ⟨_, _, pre0 _ ?_, hrun, hended, _, _, rfl, ?_, ⟨_, rfl⟩, hW, hsame.mono (by decide) (by decide)⟩
  · show Steps p.tables e below (s₁.setTop (mkF m 0 #[.val (.double vd0), .second] [])) _
    refine XS.dloadN X0.here hx rfl (hb hby d14_0) rfl ?_
    show Steps p.tables e below (s₁.setTop (mkF m 1 #[.val (.double vd0), .second] [(.double vd0)])) _
    refine XS.dloadN X0.here hx rfl (hb hby d14_1) rfl ?_
    show Steps p.tables e below (s₁.setTop (mkF m 2 #[.val (.double vd0), .second] [(.double vd0), (.double vd0)])) _
    refine XS.dcmpS X0.here hx rfl (hb hby d14_2) rfl rfl ?_
    show Steps p.tables e below (s₁.setTop (mkF m 3 #[.val (.double vd0), .second] [(.int (cmpValue (FP.dcmp vd0 vd0) .l))])) _
    refine XS.ifYes X0.here hx rfl (pc0 := 3) (pc' := 10) rfl (hb hby d14_3) rfl ((if0 _ _).trans (teq hc3).1) (by decide) (by decide) ?_
    show Steps p.tables e below (s₁.setTop (mkF m 10 #[.val (.double vd0), .second] [])) _
    refine XS.iconst X0.here hx rfl (hb hby d14_10) ?_
    show Steps p.tables e below (s₁.setTop (mkF m 11 #[.val (.double vd0), .second] [(.int (0 : Int32))])) _
    exact retN X0 hx (t := .boolean) Bd.returns (by simp) (hb hby d14_11) hr
  · show Q14 Z vd0 h0 n0 _ s₁.heap _
    rw [e0]
    exact ⟨rfl, N0, rfl⟩
theorem d13_0 : decode jdk_29_method_97_code 0 = .ok (.dload_n 0, 1) := by decide +kernel
theorem d13_1 : decode jdk_29_method_97_code 1 = .ok (.invokestatic 205, 3) := by decide +kernel
theorem wd_72 {Z : State} {a0 : Array Value} (hw : ∀ d ∈ tables_1, d.before a0 Z = true) : ((Jvm.Cond.methodLink "java/lang/Math" (205 : Nat) ({ cls := "java/lang/Double", name := "isNaN", desc := "(D)Z" } : Jvm.MethodName))).before a0 Z = true := hw _ (List.mem_of_getElem? (i := 72) rfl)
theorem wd_74 {Z : State} {a0 : Array Value} (hw : ∀ d ∈ tables_1, d.before a0 Z = true) : ((Jvm.Cond.code ({ cls := "java/lang/Double", name := "isNaN", desc := "(D)Z" } : Jvm.MethodName) jdk_117_method_6_code (2 : Nat) (Option.some Jvm.ClassFile.FieldType.boolean))).before a0 Z = true := hw _ (List.mem_of_getElem? (i := 74) rfl)
theorem wd_64 {Z : State} {a0 : Array Value} (hw : ∀ d ∈ tables_1, d.before a0 Z = true) : ((Jvm.Cond.initialized "java/lang/Double")).before a0 Z = true := hw _ (List.mem_of_getElem? (i := 64) rfl)
theorem pd_10 : parseMethodDescriptor "(D)Z" = some ⟨[.double], some .boolean⟩ := by decide +kernel
theorem wd_73 {Z : State} {a0 : Array Value} (hw : ∀ d ∈ tables_1, d.before a0 Z = true) : ((Jvm.Cond.static ({ cls := "java/lang/Double", name := "isNaN", desc := "(D)Z" } : Jvm.MethodName))).before a0 Z = true := hw _ (List.mem_of_getElem? (i := 73) rfl)
theorem d13_4 : decode jdk_29_method_97_code 4 = .ok (.ifCond .ne 11, 3) := by decide +kernel
theorem d13_7 : decode jdk_29_method_97_code 7 = .ok (.dload_n 0, 1) := by decide +kernel
theorem d13_8 : decode jdk_29_method_97_code 8 = .ok (.ldc2_w 330, 3) := by decide +kernel
theorem wd_75 {Z : State} {a0 : Array Value} (hw : ∀ d ∈ tables_1, d.before a0 Z = true) : ((Jvm.Cond.constantDouble "java/lang/Math" (330 : Nat) (18442240474082181120 : UInt64))).before a0 Z = true := hw _ (List.mem_of_getElem? (i := 75) rfl)
theorem d13_11 : decode jdk_29_method_97_code 11 = .ok (.dcmp .l, 1) := by decide +kernel
theorem d13_12 : decode jdk_29_method_97_code 12 = .ok (.ifCond .ne 5, 3) := by decide +kernel
theorem d13_17 : decode jdk_29_method_97_code 17 = .ok (.dload_n 0, 1) := by decide +kernel
theorem d13_18 : decode jdk_29_method_97_code 18 = .ok (.dconst 0, 1) := by decide +kernel
theorem d13_19 : decode jdk_29_method_97_code 19 = .ok (.dcmp .l, 1) := by decide +kernel
theorem d13_20 : decode jdk_29_method_97_code 20 = .ok (.ifCond .ne 7, 3) := by decide +kernel
theorem d13_27 : decode jdk_29_method_97_code 27 = .ok (.dload_n 0, 1) := by decide +kernel
theorem d13_28 : decode jdk_29_method_97_code 28 = .ok (.invokestatic 79, 3) := by decide +kernel
theorem wd_62 {Z : State} {a0 : Array Value} (hw : ∀ d ∈ tables_1, d.before a0 Z = true) : ((Jvm.Cond.methodLink "java/lang/Math" (79 : Nat) ({ cls := "java/lang/Double", name := "doubleToRawLongBits", desc := "(D)J" } : Jvm.MethodName))).before a0 Z = true := hw _ (List.mem_of_getElem? (i := 62) rfl)
theorem wd_65 {Z : State} {a0 : Array Value} (hw : ∀ d ∈ tables_1, d.before a0 Z = true) : ((Jvm.Cond.native ({ cls := "java/lang/Double", name := "doubleToRawLongBits", desc := "(D)J" } : Jvm.MethodName))).before a0 Z = true := hw _ (List.mem_of_getElem? (i := 65) rfl)
theorem wd_63 {Z : State} {a0 : Array Value} (hw : ∀ d ∈ tables_1, d.before a0 Z = true) : ((Jvm.Cond.static ({ cls := "java/lang/Double", name := "doubleToRawLongBits", desc := "(D)J" } : Jvm.MethodName))).before a0 Z = true := hw _ (List.mem_of_getElem? (i := 63) rfl)
theorem d13_31 : decode jdk_29_method_97_code 31 = .ok (.dload_n 0, 1) := by decide +kernel
theorem d13_32 : decode jdk_29_method_97_code 32 = .ok (.dconst 0, 1) := by decide +kernel
theorem d13_33 : decode jdk_29_method_97_code 33 = .ok (.dcmp .l, 1) := by decide +kernel
theorem d13_34 : decode jdk_29_method_97_code 34 = .ok (.ifCond .le 9, 3) := by decide +kernel
theorem d13_37 : decode jdk_29_method_97_code 37 = .ok (.ldc2_w 130, 3) := by decide +kernel
theorem wd_76 {Z : State} {a0 : Array Value} (hw : ∀ d ∈ tables_1, d.before a0 Z = true) : ((Jvm.Cond.constantLong "java/lang/Math" (130 : Nat) (-1 : Int64))).before a0 Z = true := hw _ (List.mem_of_getElem? (i := 76) rfl)
theorem d13_40 : decode jdk_29_method_97_code 40 = .ok (.goto 4, 3) := by decide +kernel
theorem d13_44 : decode jdk_29_method_97_code 44 = .ok (.ladd, 1) := by decide +kernel
theorem d13_45 : decode jdk_29_method_97_code 45 = .ok (.invokestatic 166, 3) := by decide +kernel
theorem wd_66 {Z : State} {a0 : Array Value} (hw : ∀ d ∈ tables_1, d.before a0 Z = true) : ((Jvm.Cond.methodLink "java/lang/Math" (166 : Nat) ({ cls := "java/lang/Double", name := "longBitsToDouble", desc := "(J)D" } : Jvm.MethodName))).before a0 Z = true := hw _ (List.mem_of_getElem? (i := 66) rfl)
theorem wd_68 {Z : State} {a0 : Array Value} (hw : ∀ d ∈ tables_1, d.before a0 Z = true) : ((Jvm.Cond.native ({ cls := "java/lang/Double", name := "longBitsToDouble", desc := "(J)D" } : Jvm.MethodName))).before a0 Z = true := hw _ (List.mem_of_getElem? (i := 68) rfl)
theorem wd_67 {Z : State} {a0 : Array Value} (hw : ∀ d ∈ tables_1, d.before a0 Z = true) : ((Jvm.Cond.static ({ cls := "java/lang/Double", name := "longBitsToDouble", desc := "(J)D" } : Jvm.MethodName))).before a0 Z = true := hw _ (List.mem_of_getElem? (i := 67) rfl)
theorem d13_48 : decode jdk_29_method_97_code 48 = .ok (.dreturn, 1) := by decide +kernel
theorem pf_13 : plainFor (⟨"java/lang/Math", "nextDown", "(D)D"⟩ : MethodName) = true := by decide +kernel
theorem ef_13 (m : MethodId) (x0 : UInt64) : entryFrame m #[(.double x0)] 2 = mkF m 0 #[.val (.double x0), .second] [] := by first | (simp [entryFrame, mkF, argsToLocals, Value.category]; done) | rfl
def Q13 (Z : State) (vd0 : UInt64) (h0 : Heap) (n0 : Nat) (v : Option Value) (h : Heap) (L : List Loc) : Prop := v = some (.double (vd0.toInt64 + (-1 : Int64)).toUInt64) ∧ Fr n0 L ∧ h = h0
set_option maxRecDepth 65536 in
set_option maxHeartbeats 40000000 in
theorem rm13 (l : Launch) (Z : State) (a0 : Array Value) (hw : ∀ d ∈ tables_1, d.before a0 Z = true) (ws : List Jvm.Cond) (vd0 : UInt64) (h0 : Heap) (n0 : Nat) (Z0 : n0 ≤ h0.size) (c1_hc3 : (cmpValue (FP.dcmp vd0 vd0) .l) = (0 : Int32)) (hc12 : ¬ ((cmpValue (FP.dcmp vd0 (18442240474082181120 : UInt64)) .l) = (0 : Int32))) (hc20 : ¬ ((cmpValue (FP.dcmp vd0 FP.dconst0) .l) = (0 : Int32))) (hc34 : (0 : Int32) < (cmpValue (FP.dcmp vd0 FP.dconst0) .l)) (hv45 : ((vd0.toInt64 + (-1 : Int64)).toUInt64 &&& 0x7fffffffffffffff > 0x7ff0000000000000 && (vd0.toInt64 + (-1 : Int64)).toUInt64 &&& 0x0008000000000000 == 0) = false) :
    MetFree l (⟨"java/lang/Math", "nextDown", "(D)D"⟩ : MethodName) (head1 (Jvm.Cond.code (⟨"java/lang/Math", "nextDown", "(D)D"⟩ : MethodName) jdk_29_method_97_code 2 (some .double) :: ws) ({ frames := 1, cells := 0, slots := 0, locals := 15 } : Room)) (fun a U => a = #[(.double vd0)] ∧ Z.Warmed39 U.vm ∧ U.heap = h0) (fun _ _ _ _ _ => True) (fun _ U o U' => ∃ v L, o = .returned v ∧ Q13 Z vd0 h0 n0 v U'.heap L ∧ FrameEnd U o U' L ({ frames := 1, cells := 0, slots := 0, locals := 15 } : Room).cells ({ frames := 1, cells := 0, slots := 0, locals := 15 } : Room).slots) := by
  refine MetFree.of_bodySF pf_13 hisR ?_
  intro p e s m args below meth c s₁ Bd hml0 hP hK
  obtain ⟨rfl, hZ, hh⟩ := hP
  have hx := Bd.exec
  have hby := Bd.bytes
  have hml : c.maxLocals = 2 := hml0
  have hown : s.vm.findClass "java/lang/Math" = some m.cls := findClass_of_methodNamed Bd.named
  have hnm := (name_of_methodNamed Bd.named Bd.method).1
  have X0 : Stand p l e ({ frames := 1, cells := 0, slots := 0, locals := 15 } : Room) s m #[(.double vd0)] below meth c s₁ [] 0 0 := Stand.of_body Bd
  have e0 : s₁.heap = h0 := by rw [← hh, Bd.state]; rfl
  have N0 := Fr.nil n0
  have pre0 : ∀ t, Steps p.tables e below (s₁.setTop (mkF m 0 #[.val (.double vd0), .second] [])) t → Steps p.tables e below (s₁.setTop (entryFrame m #[(.double vd0)] 2)) t := fun t k => castTop (ef_13 m vd0) k
  obtain ⟨_, _, ⟨T1, L1, k1, n1⟩, -, X1, ⟨Lc1, hQ1, l1, y1, z1⟩, st1⟩ := Jvm.LawKit.callS X0 hx (y := (⟨"java/lang/Double", "isNaN", "(D)Z"⟩ : MethodName)) hown (mvT hZ (wd_72 hw)) (mvT hZ (wd_73 hw)) (mvT hZ (wd_64 hw)) (mvT hZ (wd_74 hw)) (by decide) (backOf (W := 0) (rm14 l Z a0 hw [] vd0 h0 n0 Z0 c1_hc3) hZ (wd_74 hw) (wd_64 hw) (by decide) (by decide)) (g := (mkF m 1 #[.val (.double vd0), .second] [(.double vd0)])) rfl (by rw [hml]; rfl) (argsL := [(.double vd0)]) (rest := []) (lenOf pd_10 rfl) rfl (by show 2 * 0 + _ ≤ _; exact Nat.le_of_eq rfl) (hb hby d13_1) (fun _ _ => ⟨rfl, e0, (by decide : 0 + 0 ≤ _), (by decide : 0 + 0 ≤ _)⟩)
  dsimp only [Pt.U, Pt.locs, Pt.cells, Pt.slots] at X1 l1 y1 z1 st1 hQ1
  subst l1 y1 z1
  obtain ⟨rfl, N1q, p1_0⟩ := hQ1
  have N1 := Fr.app N0 N1q
  have e1 : T1.heap = h0 := p1_0
  obtain ⟨T2, X2, e2, st2⟩ := own_doubleToRawLongBits X1 hx hZ hown (wd_62 hw) (wd_65 hw) (wd_63 hw) (wd_64 hw) e1 (g := (mkF m 28 #[.val (.double vd0), .second] [(.double vd0)])) rfl (by rw [hml]; rfl) rfl (hb hby d13_28) (by decide) (W := 0) (by show 2 * 0 + _ ≤ _; exact Nat.le_of_eq rfl) (by decide)
  obtain ⟨T3, X3, e3, st3⟩ := own_longBitsToDouble X2 hx hZ hown (wd_66 hw) (wd_68 hw) (wd_67 hw) (wd_64 hw) e2 hv45 (g := (mkF m 45 #[.val (.double vd0), .second] [(.long (vd0.toInt64 + (-1 : Int64)))])) rfl (by rw [hml]; rfl) rfl (hb hby d13_45) (by decide) (W := 0) (by show 2 * 0 + _ ≤ _; exact Nat.le_of_eq rfl) (by decide)
  obtain ⟨fs, hr, hrun, hended, hW, hsame⟩ := X3.leave (v := some (.double (vd0.toInt64 + (-1 : Int64)).toUInt64)) (fun h => by rw [Bd.returns] at h; cases h)
  refine ⟨_, _, pre0 _ ?_, hrun, hended, _, _, rfl, ?_, ⟨_, rfl⟩, hW, hsame.mono (by decide) (by decide)⟩
  · show Steps p.tables e below (s₁.setTop (mkF m 0 #[.val (.double vd0), .second] [])) _
    refine XS.dloadN X0.here hx rfl (hb hby d13_0) rfl ?_
    show Steps p.tables e below (s₁.setTop (mkF m 1 #[.val (.double vd0), .second] [(.double vd0)])) _
    refine st1 _ ?_
    show Steps p.tables e below (T1.setTop (mkF m 4 #[.val (.double vd0), .second] [(.int (0 : Int32))])) _
    refine XS.ifNo X1.here hx rfl (hb hby d13_4) rfl ((if0 _ _).trans (teq (rfl : (0 : Int32) = (0 : Int32))).2) ?_
    show Steps p.tables e below (T1.setTop (mkF m 7 #[.val (.double vd0), .second] [])) _
    refine XS.dloadN X1.here hx rfl (hb hby d13_7) rfl ?_
    show Steps p.tables e below (T1.setTop (mkF m 8 #[.val (.double vd0), .second] [(.double vd0)])) _
    refine X1.ldc2DoubleC hx hown (mvT hZ (wd_75 hw)) (g := (mkF m 8 #[.val (.double vd0), .second] [(.double vd0)])) rfl (hb hby d13_8) _ ?_
    show Steps p.tables e below (T1.setTop (mkF m 11 #[.val (.double vd0), .second] [(.double (18442240474082181120 : UInt64)), (.double vd0)])) _
    refine XS.dcmpS X1.here hx rfl (hb hby d13_11) rfl rfl ?_
    show Steps p.tables e below (T1.setTop (mkF m 12 #[.val (.double vd0), .second] [(.int (cmpValue (FP.dcmp vd0 (18442240474082181120 : UInt64)) .l))])) _
    refine XS.ifYes X1.here hx rfl (pc0 := 12) (pc' := 17) rfl (hb hby d13_12) rfl ((if0 _ _).trans (feq hc12).2) (by decide) (by decide) ?_
    show Steps p.tables e below (T1.setTop (mkF m 17 #[.val (.double vd0), .second] [])) _
    refine XS.dloadN X1.here hx rfl (hb hby d13_17) rfl ?_
    show Steps p.tables e below (T1.setTop (mkF m 18 #[.val (.double vd0), .second] [(.double vd0)])) _
    refine XS.dconst0 X1.here hx rfl (hb hby d13_18) (v := FP.dconst0) rfl ?_
    show Steps p.tables e below (T1.setTop (mkF m 19 #[.val (.double vd0), .second] [(.double FP.dconst0), (.double vd0)])) _
    refine XS.dcmpS X1.here hx rfl (hb hby d13_19) rfl rfl ?_
    show Steps p.tables e below (T1.setTop (mkF m 20 #[.val (.double vd0), .second] [(.int (cmpValue (FP.dcmp vd0 FP.dconst0) .l))])) _
    refine XS.ifYes X1.here hx rfl (pc0 := 20) (pc' := 27) rfl (hb hby d13_20) rfl ((if0 _ _).trans (feq hc20).2) (by decide) (by decide) ?_
    show Steps p.tables e below (T1.setTop (mkF m 27 #[.val (.double vd0), .second] [])) _
    refine XS.dloadN X1.here hx rfl (hb hby d13_27) rfl ?_
    show Steps p.tables e below (T1.setTop (mkF m 28 #[.val (.double vd0), .second] [(.double vd0)])) _
    refine st2 _ ?_
    show Steps p.tables e below (T2.setTop (mkF m 31 #[.val (.double vd0), .second] [(.long vd0.toInt64)])) _
    refine XS.dloadN X2.here hx rfl (hb hby d13_31) rfl ?_
    show Steps p.tables e below (T2.setTop (mkF m 32 #[.val (.double vd0), .second] [(.double vd0), (.long vd0.toInt64)])) _
    refine XS.dconst0 X2.here hx rfl (hb hby d13_32) (v := FP.dconst0) rfl ?_
    show Steps p.tables e below (T2.setTop (mkF m 33 #[.val (.double vd0), .second] [(.double FP.dconst0), (.double vd0), (.long vd0.toInt64)])) _
    refine XS.dcmpS X2.here hx rfl (hb hby d13_33) rfl rfl ?_
    show Steps p.tables e below (T2.setTop (mkF m 34 #[.val (.double vd0), .second] [(.int (cmpValue (FP.dcmp vd0 FP.dconst0) .l)), (.long vd0.toInt64)])) _
    refine XS.ifNo X2.here hx rfl (hb hby d13_34) rfl ((if0 _ _).trans (tlt hc34).2.2.2) ?_
    show Steps p.tables e below (T2.setTop (mkF m 37 #[.val (.double vd0), .second] [(.long vd0.toInt64)])) _
    refine X2.ldc2Long hx hown (mvT hZ (wd_76 hw)) (g := (mkF m 37 #[.val (.double vd0), .second] [(.long vd0.toInt64)])) rfl (hb hby d13_37) _ ?_
    show Steps p.tables e below (T2.setTop (mkF m 40 #[.val (.double vd0), .second] [(.long (-1 : Int64)), (.long vd0.toInt64)])) _
    refine XS.goto X2.here hx rfl (pc0 := 40) (pc' := 44) rfl (hb hby d13_40) (by decide) (by decide) ?_
    show Steps p.tables e below (T2.setTop (mkF m 44 #[.val (.double vd0), .second] [(.long (-1 : Int64)), (.long vd0.toInt64)])) _
    refine XS.ladd X2.here hx rfl (hb hby d13_44) rfl ?_
    show Steps p.tables e below (T2.setTop (mkF m 45 #[.val (.double vd0), .second] [(.long (vd0.toInt64 + (-1 : Int64)))])) _
    refine st3 _ ?_
    show Steps p.tables e below (T3.setTop (mkF m 48 #[.val (.double vd0), .second] [(.double (vd0.toInt64 + (-1 : Int64)).toUInt64)])) _
    exact retOut X3 hx Bd.returns rfl (Or.inr (Or.inr (Or.inl ⟨rfl, rfl, _, rfl⟩))) (hb hby d13_48) hr
  · show Q13 Z vd0 h0 n0 _ T3.heap _
    rw [e3]
    exact ⟨rfl, N1, rfl⟩
theorem d12_0 : decode jdk_29_method_95_code 0 = .ok (.dload_n 0, 1) := by decide +kernel
theorem d12_1 : decode jdk_29_method_95_code 1 = .ok (.ldc2_w 327, 3) := by decide +kernel
theorem wd_61 {Z : State} {a0 : Array Value} (hw : ∀ d ∈ tables_1, d.before a0 Z = true) : ((Jvm.Cond.constantDouble "java/lang/Math" (327 : Nat) (9218868437227405312 : UInt64))).before a0 Z = true := hw _ (List.mem_of_getElem? (i := 61) rfl)
theorem d12_4 : decode jdk_29_method_95_code 4 = .ok (.dcmp .g, 1) := by decide +kernel
theorem d12_5 : decode jdk_29_method_95_code 5 = .ok (.ifCond .ge 29, 3) := by decide +kernel
theorem d12_8 : decode jdk_29_method_95_code 8 = .ok (.dload_n 0, 1) := by decide +kernel
theorem d12_9 : decode jdk_29_method_95_code 9 = .ok (.dconst 0, 1) := by decide +kernel
theorem d12_10 : decode jdk_29_method_95_code 10 = .ok (.dadd, 1) := by decide +kernel
theorem d12_11 : decode jdk_29_method_95_code 11 = .ok (.invokestatic 79, 3) := by decide +kernel
theorem d12_14 : decode jdk_29_method_95_code 14 = .ok (.lstore_n 2, 1) := by decide +kernel
theorem d12_15 : decode jdk_29_method_95_code 15 = .ok (.lload_n 2, 1) := by decide +kernel
theorem d12_16 : decode jdk_29_method_95_code 16 = .ok (.lload_n 2, 1) := by decide +kernel
theorem d12_17 : decode jdk_29_method_95_code 17 = .ok (.lconst 0, 1) := by decide +kernel
theorem d12_18 : decode jdk_29_method_95_code 18 = .ok (.lcmp, 1) := by decide +kernel
theorem d12_19 : decode jdk_29_method_95_code 19 = .ok (.ifCond .lt 7, 3) := by decide +kernel
theorem d12_22 : decode jdk_29_method_95_code 22 = .ok (.lconst 1, 1) := by decide +kernel
theorem d12_23 : decode jdk_29_method_95_code 23 = .ok (.goto 6, 3) := by decide +kernel
theorem d12_29 : decode jdk_29_method_95_code 29 = .ok (.ladd, 1) := by decide +kernel
theorem d12_30 : decode jdk_29_method_95_code 30 = .ok (.invokestatic 166, 3) := by decide +kernel
theorem d12_33 : decode jdk_29_method_95_code 33 = .ok (.dreturn, 1) := by decide +kernel
theorem pf_12 : plainFor (⟨"java/lang/Math", "nextUp", "(D)D"⟩ : MethodName) = true := by decide +kernel
theorem ef_12 (m : MethodId) (x0 : UInt64) : entryFrame m #[(.double x0)] 4 = mkF m 0 #[.val (.double x0), .second, .unset, .unset] [] := by first | (simp [entryFrame, mkF, argsToLocals, Value.category]; done) | rfl
def Q12 (Z : State) (vd0 : UInt64) (h0 : Heap) (n0 : Nat) (v : Option Value) (h : Heap) (L : List Loc) : Prop := v = some (.double ((FP.dadd vd0 FP.dconst0).toInt64 + (1 : Int64)).toUInt64) ∧ Fr n0 L ∧ h = h0
set_option maxRecDepth 65536 in
set_option maxHeartbeats 40000000 in
theorem rm12 (l : Launch) (Z : State) (a0 : Array Value) (hw : ∀ d ∈ tables_1, d.before a0 Z = true) (ws : List Jvm.Cond) (vd0 : UInt64) (h0 : Heap) (n0 : Nat) (Z0 : n0 ≤ h0.size) (hc5 : (cmpValue (FP.dcmp vd0 (9218868437227405312 : UInt64)) .g) < (0 : Int32)) (hn10 : Jvm.Free.Fl.NoNaN64 (FP.dadd vd0 FP.dconst0)) (hc19 : ¬ ((lcmpW (FP.dadd vd0 FP.dconst0).toInt64 (0 : Int64)) < (0 : Int32))) (hv30 : (((FP.dadd vd0 FP.dconst0).toInt64 + (1 : Int64)).toUInt64 &&& 0x7fffffffffffffff > 0x7ff0000000000000 && ((FP.dadd vd0 FP.dconst0).toInt64 + (1 : Int64)).toUInt64 &&& 0x0008000000000000 == 0) = false) :
    MetFree l (⟨"java/lang/Math", "nextUp", "(D)D"⟩ : MethodName) (head1 (Jvm.Cond.code (⟨"java/lang/Math", "nextUp", "(D)D"⟩ : MethodName) jdk_29_method_95_code 4 (some .double) :: ws) ({ frames := 1, cells := 0, slots := 0, locals := 15 } : Room)) (fun a U => a = #[(.double vd0)] ∧ Z.Warmed39 U.vm ∧ U.heap = h0) (fun _ _ _ _ _ => True) (fun _ U o U' => ∃ v L, o = .returned v ∧ Q12 Z vd0 h0 n0 v U'.heap L ∧ FrameEnd U o U' L ({ frames := 1, cells := 0, slots := 0, locals := 15 } : Room).cells ({ frames := 1, cells := 0, slots := 0, locals := 15 } : Room).slots) := by
  refine MetFree.of_bodySF pf_12 hisR ?_
  intro p e s m args below meth c s₁ Bd hml0 hP hK
  obtain ⟨rfl, hZ, hh⟩ := hP
  have hx := Bd.exec
  have hby := Bd.bytes
  have hml : c.maxLocals = 4 := hml0
  have hown : s.vm.findClass "java/lang/Math" = some m.cls := findClass_of_methodNamed Bd.named
  have hnm := (name_of_methodNamed Bd.named Bd.method).1
  have X0 : Stand p l e ({ frames := 1, cells := 0, slots := 0, locals := 15 } : Room) s m #[(.double vd0)] below meth c s₁ [] 0 0 := Stand.of_body Bd
  have e0 : s₁.heap = h0 := by rw [← hh, Bd.state]; rfl
  have N0 := Fr.nil n0
  have pre0 : ∀ t, Steps p.tables e below (s₁.setTop (mkF m 0 #[.val (.double vd0), .second, .unset, .unset] [])) t → Steps p.tables e below (s₁.setTop (entryFrame m #[(.double vd0)] 4)) t := fun t k => castTop (ef_12 m vd0) k
  obtain ⟨T1, X1, e1, st1⟩ := own_doubleToRawLongBits X0 hx hZ hown (wd_62 hw) (wd_65 hw) (wd_63 hw) (wd_64 hw) e0 (g := (mkF m 11 #[.val (.double vd0), .second, .unset, .unset] [(.double (FP.dadd vd0 FP.dconst0))])) rfl (by rw [hml]; rfl) rfl (hb hby d12_11) (by decide) (W := 0) (by show 2 * 0 + _ ≤ _; exact Nat.le_of_eq rfl) (by decide)
  obtain ⟨T2, X2, e2, st2⟩ := own_longBitsToDouble X1 hx hZ hown (wd_66 hw) (wd_68 hw) (wd_67 hw) (wd_64 hw) e1 hv30 (g := (mkF m 30 #[.val (.double vd0), .second, .val (.long (FP.dadd vd0 FP.dconst0).toInt64), .second] [(.long ((FP.dadd vd0 FP.dconst0).toInt64 + (1 : Int64)))])) rfl (by rw [hml]; rfl) rfl (hb hby d12_30) (by decide) (W := 0) (by show 2 * 0 + _ ≤ _; exact Nat.le_of_eq rfl) (by decide)
  obtain ⟨fs, hr, hrun, hended, hW, hsame⟩ := X2.leave (v := some (.double ((FP.dadd vd0 FP.dconst0).toInt64 + (1 : Int64)).toUInt64)) (fun h => by rw [Bd.returns] at h; cases h)
  refine ⟨_, _, pre0 _ ?_, hrun, hended, _, _, rfl, ?_, ⟨_, rfl⟩, hW, hsame.mono (by decide) (by decide)⟩
  · show Steps p.tables e below (s₁.setTop (mkF m 0 #[.val (.double vd0), .second, .unset, .unset] [])) _
    refine XS.dloadN X0.here hx rfl (hb hby d12_0) rfl ?_
    show Steps p.tables e below (s₁.setTop (mkF m 1 #[.val (.double vd0), .second, .unset, .unset] [(.double vd0)])) _
    refine X0.ldc2DoubleC hx hown (mvT hZ (wd_61 hw)) (g := (mkF m 1 #[.val (.double vd0), .second, .unset, .unset] [(.double vd0)])) rfl (hb hby d12_1) _ ?_
    show Steps p.tables e below (s₁.setTop (mkF m 4 #[.val (.double vd0), .second, .unset, .unset] [(.double (9218868437227405312 : UInt64)), (.double vd0)])) _
    refine XS.dcmpS X0.here hx rfl (hb hby d12_4) rfl rfl ?_
    show Steps p.tables e below (s₁.setTop (mkF m 5 #[.val (.double vd0), .second, .unset, .unset] [(.int (cmpValue (FP.dcmp vd0 (9218868437227405312 : UInt64)) .g))])) _
    refine XS.ifNo X0.here hx rfl (hb hby d12_5) rfl ((if0 _ _).trans (tlt hc5).2.1) ?_
    show Steps p.tables e below (s₁.setTop (mkF m 8 #[.val (.double vd0), .second, .unset, .unset] [])) _
    refine XS.dloadN X0.here hx rfl (hb hby d12_8) rfl ?_
    show Steps p.tables e below (s₁.setTop (mkF m 9 #[.val (.double vd0), .second, .unset, .unset] [(.double vd0)])) _
    refine XS.dconst0 X0.here hx rfl (hb hby d12_9) (v := FP.dconst0) rfl ?_
    show Steps p.tables e below (s₁.setTop (mkF m 10 #[.val (.double vd0), .second, .unset, .unset] [(.double FP.dconst0), (.double vd0)])) _
    refine XS.daddS X0.here hx rfl (hb hby d12_10) rfl hn10 rfl ?_
    show Steps p.tables e below (s₁.setTop (mkF m 11 #[.val (.double vd0), .second, .unset, .unset] [(.double (FP.dadd vd0 FP.dconst0))])) _
    refine st1 _ ?_
    show Steps p.tables e below (T1.setTop (mkF m 14 #[.val (.double vd0), .second, .unset, .unset] [(.long (FP.dadd vd0 FP.dconst0).toInt64)])) _
    refine XS.lstoreN X1.here hx rfl (hb hby d12_14) rfl (l' := #[.val (.double vd0), .second, .val (.long (FP.dadd vd0 FP.dconst0).toInt64), .second]) rfl ?_
    show Steps p.tables e below (T1.setTop (mkF m 15 #[.val (.double vd0), .second, .val (.long (FP.dadd vd0 FP.dconst0).toInt64), .second] [])) _
    refine XS.lloadN X1.here hx rfl (hb hby d12_15) rfl ?_
    show Steps p.tables e below (T1.setTop (mkF m 16 #[.val (.double vd0), .second, .val (.long (FP.dadd vd0 FP.dconst0).toInt64), .second] [(.long (FP.dadd vd0 FP.dconst0).toInt64)])) _
    refine XS.lloadN X1.here hx rfl (hb hby d12_16) rfl ?_
    show Steps p.tables e below (T1.setTop (mkF m 17 #[.val (.double vd0), .second, .val (.long (FP.dadd vd0 FP.dconst0).toInt64), .second] [(.long (FP.dadd vd0 FP.dconst0).toInt64), (.long (FP.dadd vd0 FP.dconst0).toInt64)])) _
    refine XS.lconst X1.here hx rfl (hb hby d12_17) ?_
    show Steps p.tables e below (T1.setTop (mkF m 18 #[.val (.double vd0), .second, .val (.long (FP.dadd vd0 FP.dconst0).toInt64), .second] [(.long (0 : Int64)), (.long (FP.dadd vd0 FP.dconst0).toInt64), (.long (FP.dadd vd0 FP.dconst0).toInt64)])) _
    refine XS.lcmp X1.here hx rfl (hb hby d12_18) rfl ?_
    show Steps p.tables e below (T1.setTop (mkF m 19 #[.val (.double vd0), .second, .val (.long (FP.dadd vd0 FP.dconst0).toInt64), .second] [(.int (lcmpW (FP.dadd vd0 FP.dconst0).toInt64 (0 : Int64))), (.long (FP.dadd vd0 FP.dconst0).toInt64)])) _
    refine XS.ifNo X1.here hx rfl (hb hby d12_19) rfl ((if0 _ _).trans (flt hc19).1) ?_
    show Steps p.tables e below (T1.setTop (mkF m 22 #[.val (.double vd0), .second, .val (.long (FP.dadd vd0 FP.dconst0).toInt64), .second] [(.long (FP.dadd vd0 FP.dconst0).toInt64)])) _
    refine XS.lconst X1.here hx rfl (hb hby d12_22) ?_
    show Steps p.tables e below (T1.setTop (mkF m 23 #[.val (.double vd0), .second, .val (.long (FP.dadd vd0 FP.dconst0).toInt64), .second] [(.long (1 : Int64)), (.long (FP.dadd vd0 FP.dconst0).toInt64)])) _
    refine XS.goto X1.here hx rfl (pc0 := 23) (pc' := 29) rfl (hb hby d12_23) (by decide) (by decide) ?_
    show Steps p.tables e below (T1.setTop (mkF m 29 #[.val (.double vd0), .second, .val (.long (FP.dadd vd0 FP.dconst0).toInt64), .second] [(.long (1 : Int64)), (.long (FP.dadd vd0 FP.dconst0).toInt64)])) _
    refine XS.ladd X1.here hx rfl (hb hby d12_29) rfl ?_
    show Steps p.tables e below (T1.setTop (mkF m 30 #[.val (.double vd0), .second, .val (.long (FP.dadd vd0 FP.dconst0).toInt64), .second] [(.long ((FP.dadd vd0 FP.dconst0).toInt64 + (1 : Int64)))])) _
    refine st2 _ ?_
    show Steps p.tables e below (T2.setTop (mkF m 33 #[.val (.double vd0), .second, .val (.long (FP.dadd vd0 FP.dconst0).toInt64), .second] [(.double ((FP.dadd vd0 FP.dconst0).toInt64 + (1 : Int64)).toUInt64)])) _
    exact retOut X2 hx Bd.returns rfl (Or.inr (Or.inr (Or.inl ⟨rfl, rfl, _, rfl⟩))) (hb hby d12_33) hr
  · show Q12 Z vd0 h0 n0 _ T2.heap _
    rw [e2]
    exact ⟨rfl, N0, rfl⟩
theorem d5_0 : decode prog_8_method_8_code 0 = .ok (.dload_n 0, 1) := by decide +kernel
theorem d5_1 : decode prog_8_method_8_code 1 = .ok (.dload_n 2, 1) := by decide +kernel
theorem d5_2 : decode prog_8_method_8_code 2 = .ok (.dadd, 1) := by decide +kernel
theorem d5_3 : decode prog_8_method_8_code 3 = .ok (.dstore 4, 2) := by decide +kernel
theorem d5_5 : decode prog_8_method_8_code 5 = .ok (.dload_n 0, 1) := by decide +kernel
theorem d5_6 : decode prog_8_method_8_code 6 = .ok (.dload_n 2, 1) := by decide +kernel
theorem d5_7 : decode prog_8_method_8_code 7 = .ok (.dload 4, 2) := by decide +kernel
theorem d5_9 : decode prog_8_method_8_code 9 = .ok (.invokestatic 47, 3) := by decide +kernel
theorem wd_32 {Z : State} {a0 : Array Value} (hw : ∀ d ∈ tables_1, d.before a0 Z = true) : ((Jvm.Cond.methodLink "com/example/castellan/castellan/ProgressTracker$Bounds" (47 : Nat) ({ cls := "com/example/castellan/castellan/ProgressTracker$Bounds", name := "sumError", desc := "(DDD)D" } : Jvm.MethodName))).before a0 Z = true := hw _ (List.mem_of_getElem? (i := 32) rfl)
theorem wd_34 {Z : State} {a0 : Array Value} (hw : ∀ d ∈ tables_1, d.before a0 Z = true) : ((Jvm.Cond.code ({ cls := "com/example/castellan/castellan/ProgressTracker$Bounds", name := "sumError", desc := "(DDD)D" } : Jvm.MethodName) prog_8_method_10_code (10 : Nat) (Option.some Jvm.ClassFile.FieldType.double))).before a0 Z = true := hw _ (List.mem_of_getElem? (i := 34) rfl)
theorem wd_7 {Z : State} {a0 : Array Value} (hw : ∀ d ∈ tables_1, d.before a0 Z = true) : ((Jvm.Cond.initialized "com/example/castellan/castellan/ProgressTracker$Bounds")).before a0 Z = true := hw _ (List.mem_of_getElem? (i := 7) rfl)
theorem pd_4 : parseMethodDescriptor "(DDD)D" = some ⟨[.double, .double, .double], some .double⟩ := by decide +kernel
theorem wd_33 {Z : State} {a0 : Array Value} (hw : ∀ d ∈ tables_1, d.before a0 Z = true) : ((Jvm.Cond.static ({ cls := "com/example/castellan/castellan/ProgressTracker$Bounds", name := "sumError", desc := "(DDD)D" } : Jvm.MethodName))).before a0 Z = true := hw _ (List.mem_of_getElem? (i := 33) rfl)
theorem d5_12 : decode prog_8_method_8_code 12 = .ok (.dconst 0, 1) := by decide +kernel
theorem d5_13 : decode prog_8_method_8_code 13 = .ok (.dcmp .g, 1) := by decide +kernel
theorem d5_14 : decode prog_8_method_8_code 14 = .ok (.ifCond .ge 11, 3) := by decide +kernel
theorem d5_17 : decode prog_8_method_8_code 17 = .ok (.dload 4, 2) := by decide +kernel
theorem d5_19 : decode prog_8_method_8_code 19 = .ok (.invokestatic 51, 3) := by decide +kernel
theorem wd_69 {Z : State} {a0 : Array Value} (hw : ∀ d ∈ tables_1, d.before a0 Z = true) : ((Jvm.Cond.methodLink "com/example/castellan/castellan/ProgressTracker$Bounds" (51 : Nat) ({ cls := "java/lang/Math", name := "nextDown", desc := "(D)D" } : Jvm.MethodName))).before a0 Z = true := hw _ (List.mem_of_getElem? (i := 69) rfl)
theorem wd_71 {Z : State} {a0 : Array Value} (hw : ∀ d ∈ tables_1, d.before a0 Z = true) : ((Jvm.Cond.code ({ cls := "java/lang/Math", name := "nextDown", desc := "(D)D" } : Jvm.MethodName) jdk_29_method_97_code (2 : Nat) (Option.some Jvm.ClassFile.FieldType.double))).before a0 Z = true := hw _ (List.mem_of_getElem? (i := 71) rfl)
theorem wd_59 {Z : State} {a0 : Array Value} (hw : ∀ d ∈ tables_1, d.before a0 Z = true) : ((Jvm.Cond.initialized "java/lang/Math")).before a0 Z = true := hw _ (List.mem_of_getElem? (i := 59) rfl)
theorem pd_7 : parseMethodDescriptor "(D)D" = some ⟨[.double], some .double⟩ := by decide +kernel
theorem wd_70 {Z : State} {a0 : Array Value} (hw : ∀ d ∈ tables_1, d.before a0 Z = true) : ((Jvm.Cond.static ({ cls := "java/lang/Math", name := "nextDown", desc := "(D)D" } : Jvm.MethodName))).before a0 Z = true := hw _ (List.mem_of_getElem? (i := 70) rfl)
theorem d5_22 : decode prog_8_method_8_code 22 = .ok (.goto 5, 3) := by decide +kernel
theorem d5_27 : decode prog_8_method_8_code 27 = .ok (.dreturn, 1) := by decide +kernel
theorem d5_25 : decode prog_8_method_8_code 25 = .ok (.dload 4, 2) := by decide +kernel
def own_sd (vd0 vd1 : UInt64) : UInt64 := if (cmpValue (FP.dcmp (FP.dadd (FP.dsub vd0 (FP.dsub (FP.dadd vd0 vd1) (FP.dsub (FP.dadd vd0 vd1) vd0))) (FP.dsub vd1 (FP.dsub (FP.dadd vd0 vd1) vd0))) FP.dconst0) .g) < (0 : Int32) then ((FP.dadd vd0 vd1).toInt64 + (-1 : Int64)).toUInt64 else (FP.dadd vd0 vd1)
theorem ef_5_f (m : MethodId) (x0 : UInt64) (x1 : UInt64) : entryFrame m #[(.double x0), (.double x1)] 6 = mkF m 0 #[.val (.double x0), .second, .val (.double x1), .second, .unset, .unset] [] := by first | (simp [entryFrame, mkF, argsToLocals, Value.category]; done) | rfl
def Q5_f (Z : State) (vd0 : UInt64) (vd1 : UInt64) (h0 : Heap) (n0 : Nat) (v : Option Value) (h : Heap) (L : List Loc) : Prop := v = some (.double (own_sd vd0 vd1)) ∧ Fr n0 L ∧ h = h0
set_option maxRecDepth 65536 in
set_option maxHeartbeats 40000000 in
theorem rm5_f (l : Launch) (Z : State) (a0 : Array Value) (hw : ∀ d ∈ tables_1, d.before a0 Z = true) (ws : List Jvm.Cond) (vd0 : UInt64) (vd1 : UInt64) (h0 : Heap) (n0 : Nat) (Z0 : n0 ≤ h0.size) (hn2 : Jvm.Free.Fl.NoNaN64 (FP.dadd vd0 vd1)) (c9_hn3 : Jvm.Free.Fl.NoNaN64 (FP.dsub (FP.dadd vd0 vd1) vd0)) (c9_hn10 : Jvm.Free.Fl.NoNaN64 (FP.dsub (FP.dadd vd0 vd1) (FP.dsub (FP.dadd vd0 vd1) vd0))) (c9_hn16 : Jvm.Free.Fl.NoNaN64 (FP.dsub vd0 (FP.dsub (FP.dadd vd0 vd1) (FP.dsub (FP.dadd vd0 vd1) vd0)))) (c9_hn20 : Jvm.Free.Fl.NoNaN64 (FP.dsub vd1 (FP.dsub (FP.dadd vd0 vd1) vd0))) (c9_hn21 : Jvm.Free.Fl.NoNaN64 (FP.dadd (FP.dsub vd0 (FP.dsub (FP.dadd vd0 vd1) (FP.dsub (FP.dadd vd0 vd1) vd0))) (FP.dsub vd1 (FP.dsub (FP.dadd vd0 vd1) vd0)))) (hc14 : (cmpValue (FP.dcmp (FP.dadd (FP.dsub vd0 (FP.dsub (FP.dadd vd0 vd1) (FP.dsub (FP.dadd vd0 vd1) vd0))) (FP.dsub vd1 (FP.dsub (FP.dadd vd0 vd1) vd0))) FP.dconst0) .g) < (0 : Int32)) (c19_c1_hc3 : (cmpValue (FP.dcmp (FP.dadd vd0 vd1) (FP.dadd vd0 vd1)) .l) = (0 : Int32)) (c19_hc12 : ¬ ((cmpValue (FP.dcmp (FP.dadd vd0 vd1) (18442240474082181120 : UInt64)) .l) = (0 : Int32))) (c19_hc20 : ¬ ((cmpValue (FP.dcmp (FP.dadd vd0 vd1) FP.dconst0) .l) = (0 : Int32))) (c19_hc34 : (0 : Int32) < (cmpValue (FP.dcmp (FP.dadd vd0 vd1) FP.dconst0) .l)) (c19_hv45 : (((FP.dadd vd0 vd1).toInt64 + (-1 : Int64)).toUInt64 &&& 0x7fffffffffffffff > 0x7ff0000000000000 && ((FP.dadd vd0 vd1).toInt64 + (-1 : Int64)).toUInt64 &&& 0x0008000000000000 == 0) = false) :
    MetFree l (⟨"com/example/castellan/castellan/ProgressTracker$Bounds", "sumDown", "(DD)D"⟩ : MethodName) (head1 (Jvm.Cond.code (⟨"com/example/castellan/castellan/ProgressTracker$Bounds", "sumDown", "(DD)D"⟩ : MethodName) prog_8_method_8_code 6 (some .double) :: ws) ({ frames := 2, cells := 0, slots := 0, locals := 28 } : Room)) (fun a U => a = #[(.double vd0), (.double vd1)] ∧ Z.Warmed39 U.vm ∧ U.heap = h0) (fun _ _ _ _ _ => True) (fun _ U o U' => ∃ v L, o = .returned v ∧ Q5_f Z vd0 vd1 h0 n0 v U'.heap L ∧ FrameEnd U o U' L ({ frames := 2, cells := 0, slots := 0, locals := 28 } : Room).cells ({ frames := 2, cells := 0, slots := 0, locals := 28 } : Room).slots) := by
  refine MetFree.of_bodySF (plainFor_of_name pn_com_example_castellan_castellan_ProgressTracker_Bounds) hisR ?_
  intro p e s m args below meth c s₁ Bd hml0 hP hK
  obtain ⟨rfl, hZ, hh⟩ := hP
  have hx := Bd.exec
  have hby := Bd.bytes
  have hml : c.maxLocals = 6 := hml0
  have hown : s.vm.findClass "com/example/castellan/castellan/ProgressTracker$Bounds" = some m.cls := findClass_of_methodNamed Bd.named
  have hnm := (name_of_methodNamed Bd.named Bd.method).1
  have X0 : Stand p l e ({ frames := 2, cells := 0, slots := 0, locals := 28 } : Room) s m #[(.double vd0), (.double vd1)] below meth c s₁ [] 0 0 := Stand.of_body Bd
  have e0 : s₁.heap = h0 := by rw [← hh, Bd.state]; rfl
  have N0 := Fr.nil n0
  have pre0 : ∀ t, Steps p.tables e below (s₁.setTop (mkF m 0 #[.val (.double vd0), .second, .val (.double vd1), .second, .unset, .unset] [])) t → Steps p.tables e below (s₁.setTop (entryFrame m #[(.double vd0), (.double vd1)] 6)) t := fun t k => castTop (ef_5_f m vd0 vd1) k
  obtain ⟨_, _, ⟨T1, L1, k1, n1⟩, -, X1, ⟨Lc1, hQ1, l1, y1, z1⟩, st1⟩ := Jvm.LawKit.callS X0 hx (y := (⟨"com/example/castellan/castellan/ProgressTracker$Bounds", "sumError", "(DDD)D"⟩ : MethodName)) hown (mvT hZ (wd_32 hw)) (mvT hZ (wd_33 hw)) (mvT hZ (wd_7 hw)) (mvT hZ (wd_34 hw)) (by decide) (backOf (W := 0) (rm6 l Z a0 hw [] vd0 vd1 (FP.dadd vd0 vd1) h0 n0 Z0 c9_hn3 c9_hn10 c9_hn16 c9_hn20 c9_hn21) hZ (wd_34 hw) (wd_7 hw) (by decide) (by decide)) (g := (mkF m 9 #[.val (.double vd0), .second, .val (.double vd1), .second, .val (.double (FP.dadd vd0 vd1)), .second] [(.double (FP.dadd vd0 vd1)), (.double vd1), (.double vd0)])) rfl (by rw [hml]; rfl) (argsL := [(.double vd0), (.double vd1), (.double (FP.dadd vd0 vd1))]) (rest := []) (lenOf pd_4 rfl) rfl (by show 2 * 0 + _ ≤ _; exact Nat.le_of_eq rfl) (hb hby d5_9) (fun _ _ => ⟨rfl, e0, (by decide : 0 + 0 ≤ _), (by decide : 0 + 0 ≤ _)⟩)
  dsimp only [Pt.U, Pt.locs, Pt.cells, Pt.slots] at X1 l1 y1 z1 st1 hQ1
  subst l1 y1 z1
  obtain ⟨rfl, N1q, p1_0⟩ := hQ1
  have N1 := Fr.app N0 N1q
  have e1 : T1.heap = h0 := p1_0
  obtain ⟨_, _, ⟨T2, L2, k2, n2⟩, -, X2, ⟨Lc2, hQ2, l2, y2, z2⟩, st2⟩ := Jvm.LawKit.callS X1 hx (y := (⟨"java/lang/Math", "nextDown", "(D)D"⟩ : MethodName)) hown (mvT hZ (wd_69 hw)) (mvT hZ (wd_70 hw)) (mvT hZ (wd_59 hw)) (mvT hZ (wd_71 hw)) (by decide) (backOf (W := 0) (rm13 l Z a0 hw [] (FP.dadd vd0 vd1) h0 n0 Z0 c19_c1_hc3 c19_hc12 c19_hc20 c19_hc34 c19_hv45) hZ (wd_71 hw) (wd_59 hw) (by decide) (by decide)) (g := (mkF m 19 #[.val (.double vd0), .second, .val (.double vd1), .second, .val (.double (FP.dadd vd0 vd1)), .second] [(.double (FP.dadd vd0 vd1))])) rfl (by rw [hml]; rfl) (argsL := [(.double (FP.dadd vd0 vd1))]) (rest := []) (lenOf pd_7 rfl) rfl (by show 2 * 0 + _ ≤ _; exact Nat.le_of_eq rfl) (hb hby d5_19) (fun _ _ => ⟨rfl, e1, (by decide : 0 + 0 ≤ _), (by decide : 0 + 0 ≤ _)⟩)
  dsimp only [Pt.U, Pt.locs, Pt.cells, Pt.slots] at X2 l2 y2 z2 st2 hQ2
  subst l2 y2 z2
  obtain ⟨rfl, N2q, p2_0⟩ := hQ2
  have N2 := Fr.app N1 N2q
  have e2 : T2.heap = h0 := p2_0
  obtain ⟨fs, hr, hrun, hended, hW, hsame⟩ := X2.leave (v := some (.double ((FP.dadd vd0 vd1).toInt64 + (-1 : Int64)).toUInt64)) (fun h => by rw [Bd.returns] at h; cases h)
  refine ⟨_, _, pre0 _ ?_, hrun, hended, _, _, rfl, ?_, ⟨_, rfl⟩, hW, hsame.mono (by decide) (by decide)⟩
  · show Steps p.tables e below (s₁.setTop (mkF m 0 #[.val (.double vd0), .second, .val (.double vd1), .second, .unset, .unset] [])) _
    refine XS.dloadN X0.here hx rfl (hb hby d5_0) rfl ?_
    show Steps p.tables e below (s₁.setTop (mkF m 1 #[.val (.double vd0), .second, .val (.double vd1), .second, .unset, .unset] [(.double vd0)])) _
    refine XS.dloadN X0.here hx rfl (hb hby d5_1) rfl ?_
    show Steps p.tables e below (s₁.setTop (mkF m 2 #[.val (.double vd0), .second, .val (.double vd1), .second, .unset, .unset] [(.double vd1), (.double vd0)])) _
    refine XS.daddS X0.here hx rfl (hb hby d5_2) rfl hn2 rfl ?_
    show Steps p.tables e below (s₁.setTop (mkF m 3 #[.val (.double vd0), .second, .val (.double vd1), .second, .unset, .unset] [(.double (FP.dadd vd0 vd1))])) _
    refine XS.dstore X0.here hx rfl (hb hby d5_3) rfl (l' := #[.val (.double vd0), .second, .val (.double vd1), .second, .val (.double (FP.dadd vd0 vd1)), .second]) rfl ?_
    show Steps p.tables e below (s₁.setTop (mkF m 5 #[.val (.double vd0), .second, .val (.double vd1), .second, .val (.double (FP.dadd vd0 vd1)), .second] [])) _
    refine XS.dloadN X0.here hx rfl (hb hby d5_5) rfl ?_
    show Steps p.tables e below (s₁.setTop (mkF m 6 #[.val (.double vd0), .second, .val (.double vd1), .second, .val (.double (FP.dadd vd0 vd1)), .second] [(.double vd0)])) _
    refine XS.dloadN X0.here hx rfl (hb hby d5_6) rfl ?_
    show Steps p.tables e below (s₁.setTop (mkF m 7 #[.val (.double vd0), .second, .val (.double vd1), .second, .val (.double (FP.dadd vd0 vd1)), .second] [(.double vd1), (.double vd0)])) _
    refine XS.dload X0.here hx rfl (hb hby d5_7) rfl ?_
    show Steps p.tables e below (s₁.setTop (mkF m 9 #[.val (.double vd0), .second, .val (.double vd1), .second, .val (.double (FP.dadd vd0 vd1)), .second] [(.double (FP.dadd vd0 vd1)), (.double vd1), (.double vd0)])) _
    refine st1 _ ?_
    show Steps p.tables e below (T1.setTop (mkF m 12 #[.val (.double vd0), .second, .val (.double vd1), .second, .val (.double (FP.dadd vd0 vd1)), .second] [(.double (FP.dadd (FP.dsub vd0 (FP.dsub (FP.dadd vd0 vd1) (FP.dsub (FP.dadd vd0 vd1) vd0))) (FP.dsub vd1 (FP.dsub (FP.dadd vd0 vd1) vd0))))])) _
    refine XS.dconst0 X1.here hx rfl (hb hby d5_12) (v := FP.dconst0) rfl ?_
    show Steps p.tables e below (T1.setTop (mkF m 13 #[.val (.double vd0), .second, .val (.double vd1), .second, .val (.double (FP.dadd vd0 vd1)), .second] [(.double FP.dconst0), (.double (FP.dadd (FP.dsub vd0 (FP.dsub (FP.dadd vd0 vd1) (FP.dsub (FP.dadd vd0 vd1) vd0))) (FP.dsub vd1 (FP.dsub (FP.dadd vd0 vd1) vd0))))])) _
    refine XS.dcmpS X1.here hx rfl (hb hby d5_13) rfl rfl ?_
    show Steps p.tables e below (T1.setTop (mkF m 14 #[.val (.double vd0), .second, .val (.double vd1), .second, .val (.double (FP.dadd vd0 vd1)), .second] [(.int (cmpValue (FP.dcmp (FP.dadd (FP.dsub vd0 (FP.dsub (FP.dadd vd0 vd1) (FP.dsub (FP.dadd vd0 vd1) vd0))) (FP.dsub vd1 (FP.dsub (FP.dadd vd0 vd1) vd0))) FP.dconst0) .g))])) _
    refine XS.ifNo X1.here hx rfl (hb hby d5_14) rfl ((if0 _ _).trans (tlt hc14).2.1) ?_
    show Steps p.tables e below (T1.setTop (mkF m 17 #[.val (.double vd0), .second, .val (.double vd1), .second, .val (.double (FP.dadd vd0 vd1)), .second] [])) _
    refine XS.dload X1.here hx rfl (hb hby d5_17) rfl ?_
    show Steps p.tables e below (T1.setTop (mkF m 19 #[.val (.double vd0), .second, .val (.double vd1), .second, .val (.double (FP.dadd vd0 vd1)), .second] [(.double (FP.dadd vd0 vd1))])) _
    refine st2 _ ?_
    show Steps p.tables e below (T2.setTop (mkF m 22 #[.val (.double vd0), .second, .val (.double vd1), .second, .val (.double (FP.dadd vd0 vd1)), .second] [(.double ((FP.dadd vd0 vd1).toInt64 + (-1 : Int64)).toUInt64)])) _
    refine XS.goto X2.here hx rfl (pc0 := 22) (pc' := 27) rfl (hb hby d5_22) (by decide) (by decide) ?_
    show Steps p.tables e below (T2.setTop (mkF m 27 #[.val (.double vd0), .second, .val (.double vd1), .second, .val (.double (FP.dadd vd0 vd1)), .second] [(.double ((FP.dadd vd0 vd1).toInt64 + (-1 : Int64)).toUInt64)])) _
    exact retOut X2 hx Bd.returns rfl (Or.inr (Or.inr (Or.inl ⟨rfl, rfl, _, rfl⟩))) (hb hby d5_27) hr
  · show Q5_f Z vd0 vd1 h0 n0 _ T2.heap _
    rw [e2]
    exact ⟨(congrArg (fun z => some (Value.double z)) (if_pos hc14).symm), N2, rfl⟩
theorem ef_5_t (m : MethodId) (x0 : UInt64) (x1 : UInt64) : entryFrame m #[(.double x0), (.double x1)] 6 = mkF m 0 #[.val (.double x0), .second, .val (.double x1), .second, .unset, .unset] [] := by first | (simp [entryFrame, mkF, argsToLocals, Value.category]; done) | rfl
def Q5_t (Z : State) (vd0 : UInt64) (vd1 : UInt64) (h0 : Heap) (n0 : Nat) (v : Option Value) (h : Heap) (L : List Loc) : Prop := v = some (.double (own_sd vd0 vd1)) ∧ Fr n0 L ∧ h = h0
set_option maxRecDepth 65536 in
set_option maxHeartbeats 40000000 in
theorem rm5_t (l : Launch) (Z : State) (a0 : Array Value) (hw : ∀ d ∈ tables_1, d.before a0 Z = true) (ws : List Jvm.Cond) (vd0 : UInt64) (vd1 : UInt64) (h0 : Heap) (n0 : Nat) (Z0 : n0 ≤ h0.size) (hn2 : Jvm.Free.Fl.NoNaN64 (FP.dadd vd0 vd1)) (c9_hn3 : Jvm.Free.Fl.NoNaN64 (FP.dsub (FP.dadd vd0 vd1) vd0)) (c9_hn10 : Jvm.Free.Fl.NoNaN64 (FP.dsub (FP.dadd vd0 vd1) (FP.dsub (FP.dadd vd0 vd1) vd0))) (c9_hn16 : Jvm.Free.Fl.NoNaN64 (FP.dsub vd0 (FP.dsub (FP.dadd vd0 vd1) (FP.dsub (FP.dadd vd0 vd1) vd0)))) (c9_hn20 : Jvm.Free.Fl.NoNaN64 (FP.dsub vd1 (FP.dsub (FP.dadd vd0 vd1) vd0))) (c9_hn21 : Jvm.Free.Fl.NoNaN64 (FP.dadd (FP.dsub vd0 (FP.dsub (FP.dadd vd0 vd1) (FP.dsub (FP.dadd vd0 vd1) vd0))) (FP.dsub vd1 (FP.dsub (FP.dadd vd0 vd1) vd0)))) (hc14 : ¬ ((cmpValue (FP.dcmp (FP.dadd (FP.dsub vd0 (FP.dsub (FP.dadd vd0 vd1) (FP.dsub (FP.dadd vd0 vd1) vd0))) (FP.dsub vd1 (FP.dsub (FP.dadd vd0 vd1) vd0))) FP.dconst0) .g) < (0 : Int32))) :
    MetFree l (⟨"com/example/castellan/castellan/ProgressTracker$Bounds", "sumDown", "(DD)D"⟩ : MethodName) (head1 (Jvm.Cond.code (⟨"com/example/castellan/castellan/ProgressTracker$Bounds", "sumDown", "(DD)D"⟩ : MethodName) prog_8_method_8_code 6 (some .double) :: ws) ({ frames := 2, cells := 0, slots := 0, locals := 28 } : Room)) (fun a U => a = #[(.double vd0), (.double vd1)] ∧ Z.Warmed39 U.vm ∧ U.heap = h0) (fun _ _ _ _ _ => True) (fun _ U o U' => ∃ v L, o = .returned v ∧ Q5_t Z vd0 vd1 h0 n0 v U'.heap L ∧ FrameEnd U o U' L ({ frames := 2, cells := 0, slots := 0, locals := 28 } : Room).cells ({ frames := 2, cells := 0, slots := 0, locals := 28 } : Room).slots) := by
  refine MetFree.of_bodySF (plainFor_of_name pn_com_example_castellan_castellan_ProgressTracker_Bounds) hisR ?_
  intro p e s m args below meth c s₁ Bd hml0 hP hK
  obtain ⟨rfl, hZ, hh⟩ := hP
  have hx := Bd.exec
  have hby := Bd.bytes
  have hml : c.maxLocals = 6 := hml0
  have hown : s.vm.findClass "com/example/castellan/castellan/ProgressTracker$Bounds" = some m.cls := findClass_of_methodNamed Bd.named
  have hnm := (name_of_methodNamed Bd.named Bd.method).1
  have X0 : Stand p l e ({ frames := 2, cells := 0, slots := 0, locals := 28 } : Room) s m #[(.double vd0), (.double vd1)] below meth c s₁ [] 0 0 := Stand.of_body Bd
  have e0 : s₁.heap = h0 := by rw [← hh, Bd.state]; rfl
  have N0 := Fr.nil n0
  have pre0 : ∀ t, Steps p.tables e below (s₁.setTop (mkF m 0 #[.val (.double vd0), .second, .val (.double vd1), .second, .unset, .unset] [])) t → Steps p.tables e below (s₁.setTop (entryFrame m #[(.double vd0), (.double vd1)] 6)) t := fun t k => castTop (ef_5_t m vd0 vd1) k
  obtain ⟨_, _, ⟨T1, L1, k1, n1⟩, -, X1, ⟨Lc1, hQ1, l1, y1, z1⟩, st1⟩ := Jvm.LawKit.callS X0 hx (y := (⟨"com/example/castellan/castellan/ProgressTracker$Bounds", "sumError", "(DDD)D"⟩ : MethodName)) hown (mvT hZ (wd_32 hw)) (mvT hZ (wd_33 hw)) (mvT hZ (wd_7 hw)) (mvT hZ (wd_34 hw)) (by decide) (backOf (W := 0) (rm6 l Z a0 hw [] vd0 vd1 (FP.dadd vd0 vd1) h0 n0 Z0 c9_hn3 c9_hn10 c9_hn16 c9_hn20 c9_hn21) hZ (wd_34 hw) (wd_7 hw) (by decide) (by decide)) (g := (mkF m 9 #[.val (.double vd0), .second, .val (.double vd1), .second, .val (.double (FP.dadd vd0 vd1)), .second] [(.double (FP.dadd vd0 vd1)), (.double vd1), (.double vd0)])) rfl (by rw [hml]; rfl) (argsL := [(.double vd0), (.double vd1), (.double (FP.dadd vd0 vd1))]) (rest := []) (lenOf pd_4 rfl) rfl (by show 2 * 0 + _ ≤ _; exact Nat.le_of_eq rfl) (hb hby d5_9) (fun _ _ => ⟨rfl, e0, (by decide : 0 + 0 ≤ _), (by decide : 0 + 0 ≤ _)⟩)
  dsimp only [Pt.U, Pt.locs, Pt.cells, Pt.slots] at X1 l1 y1 z1 st1 hQ1
  subst l1 y1 z1
  obtain ⟨rfl, N1q, p1_0⟩ := hQ1
  have N1 := Fr.app N0 N1q
  have e1 : T1.heap = h0 := p1_0
  obtain ⟨fs, hr, hrun, hended, hW, hsame⟩ := X1.leave (v := some (.double (FP.dadd vd0 vd1))) (fun h => by rw [Bd.returns] at h; cases h)
  refine ⟨_, _, pre0 _ ?_, hrun, hended, _, _, rfl, ?_, ⟨_, rfl⟩, hW, hsame.mono (by decide) (by decide)⟩
  · show Steps p.tables e below (s₁.setTop (mkF m 0 #[.val (.double vd0), .second, .val (.double vd1), .second, .unset, .unset] [])) _
    refine XS.dloadN X0.here hx rfl (hb hby d5_0) rfl ?_
    show Steps p.tables e below (s₁.setTop (mkF m 1 #[.val (.double vd0), .second, .val (.double vd1), .second, .unset, .unset] [(.double vd0)])) _
    refine XS.dloadN X0.here hx rfl (hb hby d5_1) rfl ?_
    show Steps p.tables e below (s₁.setTop (mkF m 2 #[.val (.double vd0), .second, .val (.double vd1), .second, .unset, .unset] [(.double vd1), (.double vd0)])) _
    refine XS.daddS X0.here hx rfl (hb hby d5_2) rfl hn2 rfl ?_
    show Steps p.tables e below (s₁.setTop (mkF m 3 #[.val (.double vd0), .second, .val (.double vd1), .second, .unset, .unset] [(.double (FP.dadd vd0 vd1))])) _
    refine XS.dstore X0.here hx rfl (hb hby d5_3) rfl (l' := #[.val (.double vd0), .second, .val (.double vd1), .second, .val (.double (FP.dadd vd0 vd1)), .second]) rfl ?_
    show Steps p.tables e below (s₁.setTop (mkF m 5 #[.val (.double vd0), .second, .val (.double vd1), .second, .val (.double (FP.dadd vd0 vd1)), .second] [])) _
    refine XS.dloadN X0.here hx rfl (hb hby d5_5) rfl ?_
    show Steps p.tables e below (s₁.setTop (mkF m 6 #[.val (.double vd0), .second, .val (.double vd1), .second, .val (.double (FP.dadd vd0 vd1)), .second] [(.double vd0)])) _
    refine XS.dloadN X0.here hx rfl (hb hby d5_6) rfl ?_
    show Steps p.tables e below (s₁.setTop (mkF m 7 #[.val (.double vd0), .second, .val (.double vd1), .second, .val (.double (FP.dadd vd0 vd1)), .second] [(.double vd1), (.double vd0)])) _
    refine XS.dload X0.here hx rfl (hb hby d5_7) rfl ?_
    show Steps p.tables e below (s₁.setTop (mkF m 9 #[.val (.double vd0), .second, .val (.double vd1), .second, .val (.double (FP.dadd vd0 vd1)), .second] [(.double (FP.dadd vd0 vd1)), (.double vd1), (.double vd0)])) _
    refine st1 _ ?_
    show Steps p.tables e below (T1.setTop (mkF m 12 #[.val (.double vd0), .second, .val (.double vd1), .second, .val (.double (FP.dadd vd0 vd1)), .second] [(.double (FP.dadd (FP.dsub vd0 (FP.dsub (FP.dadd vd0 vd1) (FP.dsub (FP.dadd vd0 vd1) vd0))) (FP.dsub vd1 (FP.dsub (FP.dadd vd0 vd1) vd0))))])) _
    refine XS.dconst0 X1.here hx rfl (hb hby d5_12) (v := FP.dconst0) rfl ?_
    show Steps p.tables e below (T1.setTop (mkF m 13 #[.val (.double vd0), .second, .val (.double vd1), .second, .val (.double (FP.dadd vd0 vd1)), .second] [(.double FP.dconst0), (.double (FP.dadd (FP.dsub vd0 (FP.dsub (FP.dadd vd0 vd1) (FP.dsub (FP.dadd vd0 vd1) vd0))) (FP.dsub vd1 (FP.dsub (FP.dadd vd0 vd1) vd0))))])) _
    refine XS.dcmpS X1.here hx rfl (hb hby d5_13) rfl rfl ?_
    show Steps p.tables e below (T1.setTop (mkF m 14 #[.val (.double vd0), .second, .val (.double vd1), .second, .val (.double (FP.dadd vd0 vd1)), .second] [(.int (cmpValue (FP.dcmp (FP.dadd (FP.dsub vd0 (FP.dsub (FP.dadd vd0 vd1) (FP.dsub (FP.dadd vd0 vd1) vd0))) (FP.dsub vd1 (FP.dsub (FP.dadd vd0 vd1) vd0))) FP.dconst0) .g))])) _
    refine XS.ifYes X1.here hx rfl (pc0 := 14) (pc' := 25) rfl (hb hby d5_14) rfl ((if0 _ _).trans (flt hc14).2.1) (by decide) (by decide) ?_
    show Steps p.tables e below (T1.setTop (mkF m 25 #[.val (.double vd0), .second, .val (.double vd1), .second, .val (.double (FP.dadd vd0 vd1)), .second] [])) _
    refine XS.dload X1.here hx rfl (hb hby d5_25) rfl ?_
    show Steps p.tables e below (T1.setTop (mkF m 27 #[.val (.double vd0), .second, .val (.double vd1), .second, .val (.double (FP.dadd vd0 vd1)), .second] [(.double (FP.dadd vd0 vd1))])) _
    exact retOut X1 hx Bd.returns rfl (Or.inr (Or.inr (Or.inl ⟨rfl, rfl, _, rfl⟩))) (hb hby d5_27) hr
  · show Q5_t Z vd0 vd1 h0 n0 _ T1.heap _
    rw [e1]
    exact ⟨(congrArg (fun z => some (Value.double z)) (if_neg hc14).symm), N1, rfl⟩
def own_ok_sd (vd0 vd1 : UInt64) : Prop := (Jvm.Free.Fl.NoNaN64 (FP.dadd vd0 vd1)) ∧ (Jvm.Free.Fl.NoNaN64 (FP.dsub (FP.dadd vd0 vd1) vd0)) ∧ (Jvm.Free.Fl.NoNaN64 (FP.dsub (FP.dadd vd0 vd1) (FP.dsub (FP.dadd vd0 vd1) vd0))) ∧ (Jvm.Free.Fl.NoNaN64 (FP.dsub vd0 (FP.dsub (FP.dadd vd0 vd1) (FP.dsub (FP.dadd vd0 vd1) vd0)))) ∧ (Jvm.Free.Fl.NoNaN64 (FP.dsub vd1 (FP.dsub (FP.dadd vd0 vd1) vd0))) ∧ (Jvm.Free.Fl.NoNaN64 (FP.dadd (FP.dsub vd0 (FP.dsub (FP.dadd vd0 vd1) (FP.dsub (FP.dadd vd0 vd1) vd0))) (FP.dsub vd1 (FP.dsub (FP.dadd vd0 vd1) vd0)))) ∧ (((cmpValue (FP.dcmp (FP.dadd (FP.dsub vd0 (FP.dsub (FP.dadd vd0 vd1) (FP.dsub (FP.dadd vd0 vd1) vd0))) (FP.dsub vd1 (FP.dsub (FP.dadd vd0 vd1) vd0))) FP.dconst0) .g) < (0 : Int32)) → ((cmpValue (FP.dcmp (FP.dadd vd0 vd1) (FP.dadd vd0 vd1)) .l) = (0 : Int32)) ∧ (¬ ((cmpValue (FP.dcmp (FP.dadd vd0 vd1) (18442240474082181120 : UInt64)) .l) = (0 : Int32))) ∧ (¬ ((cmpValue (FP.dcmp (FP.dadd vd0 vd1) FP.dconst0) .l) = (0 : Int32))) ∧ ((0 : Int32) < (cmpValue (FP.dcmp (FP.dadd vd0 vd1) FP.dconst0) .l)) ∧ ((((FP.dadd vd0 vd1).toInt64 + (-1 : Int64)).toUInt64 &&& 0x7fffffffffffffff > 0x7ff0000000000000 && ((FP.dadd vd0 vd1).toInt64 + (-1 : Int64)).toUInt64 &&& 0x0008000000000000 == 0) = false))
def Q_sd (Z : State) (vd0 : UInt64) (vd1 : UInt64) (h0 : Heap) (n0 : Nat) (v : Option Value) (h : Heap) (L : List Loc) : Prop := v = some (.double (own_sd vd0 vd1)) ∧ Fr n0 L ∧ h = h0
set_option maxRecDepth 65536 in
set_option maxHeartbeats 4000000 in
theorem rm_sd (l : Launch) (Z : State) (a0 : Array Value) (hw : ∀ d ∈ tables_1, d.before a0 Z = true) (ws : List Jvm.Cond) (vd0 : UInt64) (vd1 : UInt64) (h0 : Heap) (n0 : Nat) (Z0 : n0 ≤ h0.size) (hok : own_ok_sd vd0 vd1) :
    MetFree l (⟨"com/example/castellan/castellan/ProgressTracker$Bounds", "sumDown", "(DD)D"⟩ : MethodName) (head1 (Jvm.Cond.code (⟨"com/example/castellan/castellan/ProgressTracker$Bounds", "sumDown", "(DD)D"⟩ : MethodName) prog_8_method_8_code 6 (some .double) :: ws) ({ frames := 2, cells := 0, slots := 0, locals := 28 } : Room)) (fun a U => a = #[(.double vd0), (.double vd1)] ∧ Z.Warmed39 U.vm ∧ U.heap = h0) (fun _ _ _ _ _ => True) (fun _ U o U' => ∃ v L, o = .returned v ∧ Q_sd Z vd0 vd1 h0 n0 v U'.heap L ∧ FrameEnd U o U' L ({ frames := 2, cells := 0, slots := 0, locals := 28 } : Room).cells ({ frames := 2, cells := 0, slots := 0, locals := 28 } : Room).slots) := by
  obtain ⟨hn2, c9_hn3, c9_hn10, c9_hn16, c9_hn20, c9_hn21, hE⟩ := hok
  by_cases hc14 : (cmpValue (FP.dcmp (FP.dadd (FP.dsub vd0 (FP.dsub (FP.dadd vd0 vd1) (FP.dsub (FP.dadd vd0 vd1) vd0))) (FP.dsub vd1 (FP.dsub (FP.dadd vd0 vd1) vd0))) FP.dconst0) .g) < (0 : Int32)
  · obtain ⟨c19_c1_hc3, c19_hc12, c19_hc20, c19_hc34, c19_hv45⟩ := hE hc14
    exact rm5_f l Z a0 hw ws vd0 vd1 h0 n0 Z0 hn2 c9_hn3 c9_hn10 c9_hn16 c9_hn20 c9_hn21 hc14 c19_c1_hc3 c19_hc12 c19_hc20 c19_hc34 c19_hv45
  · exact rm5_t l Z a0 hw ws vd0 vd1 h0 n0 Z0 hn2 c9_hn3 c9_hn10 c9_hn16 c9_hn20 c9_hn21 hc14
theorem d7_0 : decode prog_8_method_9_code 0 = .ok (.dload_n 0, 1) := by decide +kernel
theorem d7_1 : decode prog_8_method_9_code 1 = .ok (.dload_n 2, 1) := by decide +kernel
theorem d7_2 : decode prog_8_method_9_code 2 = .ok (.dadd, 1) := by decide +kernel
theorem d7_3 : decode prog_8_method_9_code 3 = .ok (.dstore 4, 2) := by decide +kernel
theorem d7_5 : decode prog_8_method_9_code 5 = .ok (.dload_n 0, 1) := by decide +kernel
theorem d7_6 : decode prog_8_method_9_code 6 = .ok (.dload_n 2, 1) := by decide +kernel
theorem d7_7 : decode prog_8_method_9_code 7 = .ok (.dload 4, 2) := by decide +kernel
theorem d7_9 : decode prog_8_method_9_code 9 = .ok (.invokestatic 47, 3) := by decide +kernel
theorem d7_12 : decode prog_8_method_9_code 12 = .ok (.dconst 0, 1) := by decide +kernel
theorem d7_13 : decode prog_8_method_9_code 13 = .ok (.dcmp .l, 1) := by decide +kernel
theorem d7_14 : decode prog_8_method_9_code 14 = .ok (.ifCond .le 11, 3) := by decide +kernel
theorem d7_17 : decode prog_8_method_9_code 17 = .ok (.dload 4, 2) := by decide +kernel
theorem d7_19 : decode prog_8_method_9_code 19 = .ok (.invokestatic 55, 3) := by decide +kernel
theorem wd_57 {Z : State} {a0 : Array Value} (hw : ∀ d ∈ tables_1, d.before a0 Z = true) : ((Jvm.Cond.methodLink "com/example/castellan/castellan/ProgressTracker$Bounds" (55 : Nat) ({ cls := "java/lang/Math", name := "nextUp", desc := "(D)D" } : Jvm.MethodName))).before a0 Z = true := hw _ (List.mem_of_getElem? (i := 57) rfl)
theorem wd_60 {Z : State} {a0 : Array Value} (hw : ∀ d ∈ tables_1, d.before a0 Z = true) : ((Jvm.Cond.code ({ cls := "java/lang/Math", name := "nextUp", desc := "(D)D" } : Jvm.MethodName) jdk_29_method_95_code (4 : Nat) (Option.some Jvm.ClassFile.FieldType.double))).before a0 Z = true := hw _ (List.mem_of_getElem? (i := 60) rfl)
theorem wd_58 {Z : State} {a0 : Array Value} (hw : ∀ d ∈ tables_1, d.before a0 Z = true) : ((Jvm.Cond.static ({ cls := "java/lang/Math", name := "nextUp", desc := "(D)D" } : Jvm.MethodName))).before a0 Z = true := hw _ (List.mem_of_getElem? (i := 58) rfl)
theorem d7_22 : decode prog_8_method_9_code 22 = .ok (.goto 5, 3) := by decide +kernel
theorem d7_27 : decode prog_8_method_9_code 27 = .ok (.dreturn, 1) := by decide +kernel
theorem d7_25 : decode prog_8_method_9_code 25 = .ok (.dload 4, 2) := by decide +kernel
def own_su (vd0 vd1 : UInt64) : UInt64 := if (0 : Int32) < (cmpValue (FP.dcmp (FP.dadd (FP.dsub vd0 (FP.dsub (FP.dadd vd0 vd1) (FP.dsub (FP.dadd vd0 vd1) vd0))) (FP.dsub vd1 (FP.dsub (FP.dadd vd0 vd1) vd0))) FP.dconst0) .l) then ((FP.dadd (FP.dadd vd0 vd1) FP.dconst0).toInt64 + (1 : Int64)).toUInt64 else (FP.dadd vd0 vd1)
theorem ef_7_f (m : MethodId) (x0 : UInt64) (x1 : UInt64) : entryFrame m #[(.double x0), (.double x1)] 6 = mkF m 0 #[.val (.double x0), .second, .val (.double x1), .second, .unset, .unset] [] := by first | (simp [entryFrame, mkF, argsToLocals, Value.category]; done) | rfl
def Q7_f (Z : State) (vd0 : UInt64) (vd1 : UInt64) (h0 : Heap) (n0 : Nat) (v : Option Value) (h : Heap) (L : List Loc) : Prop := v = some (.double (own_su vd0 vd1)) ∧ Fr n0 L ∧ h = h0
set_option maxRecDepth 65536 in
set_option maxHeartbeats 40000000 in
theorem rm7_f (l : Launch) (Z : State) (a0 : Array Value) (hw : ∀ d ∈ tables_1, d.before a0 Z = true) (ws : List Jvm.Cond) (vd0 : UInt64) (vd1 : UInt64) (h0 : Heap) (n0 : Nat) (Z0 : n0 ≤ h0.size) (hn2 : Jvm.Free.Fl.NoNaN64 (FP.dadd vd0 vd1)) (c9_hn3 : Jvm.Free.Fl.NoNaN64 (FP.dsub (FP.dadd vd0 vd1) vd0)) (c9_hn10 : Jvm.Free.Fl.NoNaN64 (FP.dsub (FP.dadd vd0 vd1) (FP.dsub (FP.dadd vd0 vd1) vd0))) (c9_hn16 : Jvm.Free.Fl.NoNaN64 (FP.dsub vd0 (FP.dsub (FP.dadd vd0 vd1) (FP.dsub (FP.dadd vd0 vd1) vd0)))) (c9_hn20 : Jvm.Free.Fl.NoNaN64 (FP.dsub vd1 (FP.dsub (FP.dadd vd0 vd1) vd0))) (c9_hn21 : Jvm.Free.Fl.NoNaN64 (FP.dadd (FP.dsub vd0 (FP.dsub (FP.dadd vd0 vd1) (FP.dsub (FP.dadd vd0 vd1) vd0))) (FP.dsub vd1 (FP.dsub (FP.dadd vd0 vd1) vd0)))) (hc14 : (0 : Int32) < (cmpValue (FP.dcmp (FP.dadd (FP.dsub vd0 (FP.dsub (FP.dadd vd0 vd1) (FP.dsub (FP.dadd vd0 vd1) vd0))) (FP.dsub vd1 (FP.dsub (FP.dadd vd0 vd1) vd0))) FP.dconst0) .l)) (c19_hc5 : (cmpValue (FP.dcmp (FP.dadd vd0 vd1) (9218868437227405312 : UInt64)) .g) < (0 : Int32)) (c19_hn10 : Jvm.Free.Fl.NoNaN64 (FP.dadd (FP.dadd vd0 vd1) FP.dconst0)) (c19_hc19 : ¬ ((lcmpW (FP.dadd (FP.dadd vd0 vd1) FP.dconst0).toInt64 (0 : Int64)) < (0 : Int32))) (c19_hv30 : (((FP.dadd (FP.dadd vd0 vd1) FP.dconst0).toInt64 + (1 : Int64)).toUInt64 &&& 0x7fffffffffffffff > 0x7ff0000000000000 && ((FP.dadd (FP.dadd vd0 vd1) FP.dconst0).toInt64 + (1 : Int64)).toUInt64 &&& 0x0008000000000000 == 0) = false) :
    MetFree l (⟨"com/example/castellan/castellan/ProgressTracker$Bounds", "sumUp", "(DD)D"⟩ : MethodName) (head1 (Jvm.Cond.code (⟨"com/example/castellan/castellan/ProgressTracker$Bounds", "sumUp", "(DD)D"⟩ : MethodName) prog_8_method_9_code 6 (some .double) :: ws) ({ frames := 2, cells := 0, slots := 0, locals := 30 } : Room)) (fun a U => a = #[(.double vd0), (.double vd1)] ∧ Z.Warmed39 U.vm ∧ U.heap = h0) (fun _ _ _ _ _ => True) (fun _ U o U' => ∃ v L, o = .returned v ∧ Q7_f Z vd0 vd1 h0 n0 v U'.heap L ∧ FrameEnd U o U' L ({ frames := 2, cells := 0, slots := 0, locals := 30 } : Room).cells ({ frames := 2, cells := 0, slots := 0, locals := 30 } : Room).slots) := by
  refine MetFree.of_bodySF (plainFor_of_name pn_com_example_castellan_castellan_ProgressTracker_Bounds) hisR ?_
  intro p e s m args below meth c s₁ Bd hml0 hP hK
  obtain ⟨rfl, hZ, hh⟩ := hP
  have hx := Bd.exec
  have hby := Bd.bytes
  have hml : c.maxLocals = 6 := hml0
  have hown : s.vm.findClass "com/example/castellan/castellan/ProgressTracker$Bounds" = some m.cls := findClass_of_methodNamed Bd.named
  have hnm := (name_of_methodNamed Bd.named Bd.method).1
  have X0 : Stand p l e ({ frames := 2, cells := 0, slots := 0, locals := 30 } : Room) s m #[(.double vd0), (.double vd1)] below meth c s₁ [] 0 0 := Stand.of_body Bd
  have e0 : s₁.heap = h0 := by rw [← hh, Bd.state]; rfl
  have N0 := Fr.nil n0
  have pre0 : ∀ t, Steps p.tables e below (s₁.setTop (mkF m 0 #[.val (.double vd0), .second, .val (.double vd1), .second, .unset, .unset] [])) t → Steps p.tables e below (s₁.setTop (entryFrame m #[(.double vd0), (.double vd1)] 6)) t := fun t k => castTop (ef_7_f m vd0 vd1) k
  obtain ⟨_, _, ⟨T1, L1, k1, n1⟩, -, X1, ⟨Lc1, hQ1, l1, y1, z1⟩, st1⟩ := Jvm.LawKit.callS X0 hx (y := (⟨"com/example/castellan/castellan/ProgressTracker$Bounds", "sumError", "(DDD)D"⟩ : MethodName)) hown (mvT hZ (wd_32 hw)) (mvT hZ (wd_33 hw)) (mvT hZ (wd_7 hw)) (mvT hZ (wd_34 hw)) (by decide) (backOf (W := 0) (rm6 l Z a0 hw [] vd0 vd1 (FP.dadd vd0 vd1) h0 n0 Z0 c9_hn3 c9_hn10 c9_hn16 c9_hn20 c9_hn21) hZ (wd_34 hw) (wd_7 hw) (by decide) (by decide)) (g := (mkF m 9 #[.val (.double vd0), .second, .val (.double vd1), .second, .val (.double (FP.dadd vd0 vd1)), .second] [(.double (FP.dadd vd0 vd1)), (.double vd1), (.double vd0)])) rfl (by rw [hml]; rfl) (argsL := [(.double vd0), (.double vd1), (.double (FP.dadd vd0 vd1))]) (rest := []) (lenOf pd_4 rfl) rfl (by show 2 * 0 + _ ≤ _; exact Nat.le_of_eq rfl) (hb hby d7_9) (fun _ _ => ⟨rfl, e0, (by decide : 0 + 0 ≤ _), (by decide : 0 + 0 ≤ _)⟩)
  dsimp only [Pt.U, Pt.locs, Pt.cells, Pt.slots] at X1 l1 y1 z1 st1 hQ1
  subst l1 y1 z1
  obtain ⟨rfl, N1q, p1_0⟩ := hQ1
  have N1 := Fr.app N0 N1q
  have e1 : T1.heap = h0 := p1_0
  obtain ⟨_, _, ⟨T2, L2, k2, n2⟩, -, X2, ⟨Lc2, hQ2, l2, y2, z2⟩, st2⟩ := Jvm.LawKit.callS X1 hx (y := (⟨"java/lang/Math", "nextUp", "(D)D"⟩ : MethodName)) hown (mvT hZ (wd_57 hw)) (mvT hZ (wd_58 hw)) (mvT hZ (wd_59 hw)) (mvT hZ (wd_60 hw)) (by decide) (backOf (W := 0) (rm12 l Z a0 hw [] (FP.dadd vd0 vd1) h0 n0 Z0 c19_hc5 c19_hn10 c19_hc19 c19_hv30) hZ (wd_60 hw) (wd_59 hw) (by decide) (by decide)) (g := (mkF m 19 #[.val (.double vd0), .second, .val (.double vd1), .second, .val (.double (FP.dadd vd0 vd1)), .second] [(.double (FP.dadd vd0 vd1))])) rfl (by rw [hml]; rfl) (argsL := [(.double (FP.dadd vd0 vd1))]) (rest := []) (lenOf pd_7 rfl) rfl (by show 2 * 0 + _ ≤ _; exact Nat.le_of_eq rfl) (hb hby d7_19) (fun _ _ => ⟨rfl, e1, (by decide : 0 + 0 ≤ _), (by decide : 0 + 0 ≤ _)⟩)
  dsimp only [Pt.U, Pt.locs, Pt.cells, Pt.slots] at X2 l2 y2 z2 st2 hQ2
  subst l2 y2 z2
  obtain ⟨rfl, N2q, p2_0⟩ := hQ2
  have N2 := Fr.app N1 N2q
  have e2 : T2.heap = h0 := p2_0
  obtain ⟨fs, hr, hrun, hended, hW, hsame⟩ := X2.leave (v := some (.double ((FP.dadd (FP.dadd vd0 vd1) FP.dconst0).toInt64 + (1 : Int64)).toUInt64)) (fun h => by rw [Bd.returns] at h; cases h)
  refine ⟨_, _, pre0 _ ?_, hrun, hended, _, _, rfl, ?_, ⟨_, rfl⟩, hW, hsame.mono (by decide) (by decide)⟩
  · show Steps p.tables e below (s₁.setTop (mkF m 0 #[.val (.double vd0), .second, .val (.double vd1), .second, .unset, .unset] [])) _
    refine XS.dloadN X0.here hx rfl (hb hby d7_0) rfl ?_
    show Steps p.tables e below (s₁.setTop (mkF m 1 #[.val (.double vd0), .second, .val (.double vd1), .second, .unset, .unset] [(.double vd0)])) _
    refine XS.dloadN X0.here hx rfl (hb hby d7_1) rfl ?_
    show Steps p.tables e below (s₁.setTop (mkF m 2 #[.val (.double vd0), .second, .val (.double vd1), .second, .unset, .unset] [(.double vd1), (.double vd0)])) _
    refine XS.daddS X0.here hx rfl (hb hby d7_2) rfl hn2 rfl ?_
    show Steps p.tables e below (s₁.setTop (mkF m 3 #[.val (.double vd0), .second, .val (.double vd1), .second, .unset, .unset] [(.double (FP.dadd vd0 vd1))])) _
    refine XS.dstore X0.here hx rfl (hb hby d7_3) rfl (l' := #[.val (.double vd0), .second, .val (.double vd1), .second, .val (.double (FP.dadd vd0 vd1)), .second]) rfl ?_
    show Steps p.tables e below (s₁.setTop (mkF m 5 #[.val (.double vd0), .second, .val (.double vd1), .second, .val (.double (FP.dadd vd0 vd1)), .second] [])) _
    refine XS.dloadN X0.here hx rfl (hb hby d7_5) rfl ?_
    show Steps p.tables e below (s₁.setTop (mkF m 6 #[.val (.double vd0), .second, .val (.double vd1), .second, .val (.double (FP.dadd vd0 vd1)), .second] [(.double vd0)])) _
    refine XS.dloadN X0.here hx rfl (hb hby d7_6) rfl ?_
    show Steps p.tables e below (s₁.setTop (mkF m 7 #[.val (.double vd0), .second, .val (.double vd1), .second, .val (.double (FP.dadd vd0 vd1)), .second] [(.double vd1), (.double vd0)])) _
    refine XS.dload X0.here hx rfl (hb hby d7_7) rfl ?_
    show Steps p.tables e below (s₁.setTop (mkF m 9 #[.val (.double vd0), .second, .val (.double vd1), .second, .val (.double (FP.dadd vd0 vd1)), .second] [(.double (FP.dadd vd0 vd1)), (.double vd1), (.double vd0)])) _
    refine st1 _ ?_
    show Steps p.tables e below (T1.setTop (mkF m 12 #[.val (.double vd0), .second, .val (.double vd1), .second, .val (.double (FP.dadd vd0 vd1)), .second] [(.double (FP.dadd (FP.dsub vd0 (FP.dsub (FP.dadd vd0 vd1) (FP.dsub (FP.dadd vd0 vd1) vd0))) (FP.dsub vd1 (FP.dsub (FP.dadd vd0 vd1) vd0))))])) _
    refine XS.dconst0 X1.here hx rfl (hb hby d7_12) (v := FP.dconst0) rfl ?_
    show Steps p.tables e below (T1.setTop (mkF m 13 #[.val (.double vd0), .second, .val (.double vd1), .second, .val (.double (FP.dadd vd0 vd1)), .second] [(.double FP.dconst0), (.double (FP.dadd (FP.dsub vd0 (FP.dsub (FP.dadd vd0 vd1) (FP.dsub (FP.dadd vd0 vd1) vd0))) (FP.dsub vd1 (FP.dsub (FP.dadd vd0 vd1) vd0))))])) _
    refine XS.dcmpS X1.here hx rfl (hb hby d7_13) rfl rfl ?_
    show Steps p.tables e below (T1.setTop (mkF m 14 #[.val (.double vd0), .second, .val (.double vd1), .second, .val (.double (FP.dadd vd0 vd1)), .second] [(.int (cmpValue (FP.dcmp (FP.dadd (FP.dsub vd0 (FP.dsub (FP.dadd vd0 vd1) (FP.dsub (FP.dadd vd0 vd1) vd0))) (FP.dsub vd1 (FP.dsub (FP.dadd vd0 vd1) vd0))) FP.dconst0) .l))])) _
    refine XS.ifNo X1.here hx rfl (hb hby d7_14) rfl ((if0 _ _).trans (tlt hc14).2.2.2) ?_
    show Steps p.tables e below (T1.setTop (mkF m 17 #[.val (.double vd0), .second, .val (.double vd1), .second, .val (.double (FP.dadd vd0 vd1)), .second] [])) _
    refine XS.dload X1.here hx rfl (hb hby d7_17) rfl ?_
    show Steps p.tables e below (T1.setTop (mkF m 19 #[.val (.double vd0), .second, .val (.double vd1), .second, .val (.double (FP.dadd vd0 vd1)), .second] [(.double (FP.dadd vd0 vd1))])) _
    refine st2 _ ?_
    show Steps p.tables e below (T2.setTop (mkF m 22 #[.val (.double vd0), .second, .val (.double vd1), .second, .val (.double (FP.dadd vd0 vd1)), .second] [(.double ((FP.dadd (FP.dadd vd0 vd1) FP.dconst0).toInt64 + (1 : Int64)).toUInt64)])) _
    refine XS.goto X2.here hx rfl (pc0 := 22) (pc' := 27) rfl (hb hby d7_22) (by decide) (by decide) ?_
    show Steps p.tables e below (T2.setTop (mkF m 27 #[.val (.double vd0), .second, .val (.double vd1), .second, .val (.double (FP.dadd vd0 vd1)), .second] [(.double ((FP.dadd (FP.dadd vd0 vd1) FP.dconst0).toInt64 + (1 : Int64)).toUInt64)])) _
    exact retOut X2 hx Bd.returns rfl (Or.inr (Or.inr (Or.inl ⟨rfl, rfl, _, rfl⟩))) (hb hby d7_27) hr
  · show Q7_f Z vd0 vd1 h0 n0 _ T2.heap _
    rw [e2]
    exact ⟨(congrArg (fun z => some (Value.double z)) (if_pos hc14).symm), N2, rfl⟩
theorem ef_7_t (m : MethodId) (x0 : UInt64) (x1 : UInt64) : entryFrame m #[(.double x0), (.double x1)] 6 = mkF m 0 #[.val (.double x0), .second, .val (.double x1), .second, .unset, .unset] [] := by first | (simp [entryFrame, mkF, argsToLocals, Value.category]; done) | rfl
def Q7_t (Z : State) (vd0 : UInt64) (vd1 : UInt64) (h0 : Heap) (n0 : Nat) (v : Option Value) (h : Heap) (L : List Loc) : Prop := v = some (.double (own_su vd0 vd1)) ∧ Fr n0 L ∧ h = h0
set_option maxRecDepth 65536 in
set_option maxHeartbeats 40000000 in
theorem rm7_t (l : Launch) (Z : State) (a0 : Array Value) (hw : ∀ d ∈ tables_1, d.before a0 Z = true) (ws : List Jvm.Cond) (vd0 : UInt64) (vd1 : UInt64) (h0 : Heap) (n0 : Nat) (Z0 : n0 ≤ h0.size) (hn2 : Jvm.Free.Fl.NoNaN64 (FP.dadd vd0 vd1)) (c9_hn3 : Jvm.Free.Fl.NoNaN64 (FP.dsub (FP.dadd vd0 vd1) vd0)) (c9_hn10 : Jvm.Free.Fl.NoNaN64 (FP.dsub (FP.dadd vd0 vd1) (FP.dsub (FP.dadd vd0 vd1) vd0))) (c9_hn16 : Jvm.Free.Fl.NoNaN64 (FP.dsub vd0 (FP.dsub (FP.dadd vd0 vd1) (FP.dsub (FP.dadd vd0 vd1) vd0)))) (c9_hn20 : Jvm.Free.Fl.NoNaN64 (FP.dsub vd1 (FP.dsub (FP.dadd vd0 vd1) vd0))) (c9_hn21 : Jvm.Free.Fl.NoNaN64 (FP.dadd (FP.dsub vd0 (FP.dsub (FP.dadd vd0 vd1) (FP.dsub (FP.dadd vd0 vd1) vd0))) (FP.dsub vd1 (FP.dsub (FP.dadd vd0 vd1) vd0)))) (hc14 : ¬ ((0 : Int32) < (cmpValue (FP.dcmp (FP.dadd (FP.dsub vd0 (FP.dsub (FP.dadd vd0 vd1) (FP.dsub (FP.dadd vd0 vd1) vd0))) (FP.dsub vd1 (FP.dsub (FP.dadd vd0 vd1) vd0))) FP.dconst0) .l))) :
    MetFree l (⟨"com/example/castellan/castellan/ProgressTracker$Bounds", "sumUp", "(DD)D"⟩ : MethodName) (head1 (Jvm.Cond.code (⟨"com/example/castellan/castellan/ProgressTracker$Bounds", "sumUp", "(DD)D"⟩ : MethodName) prog_8_method_9_code 6 (some .double) :: ws) ({ frames := 2, cells := 0, slots := 0, locals := 30 } : Room)) (fun a U => a = #[(.double vd0), (.double vd1)] ∧ Z.Warmed39 U.vm ∧ U.heap = h0) (fun _ _ _ _ _ => True) (fun _ U o U' => ∃ v L, o = .returned v ∧ Q7_t Z vd0 vd1 h0 n0 v U'.heap L ∧ FrameEnd U o U' L ({ frames := 2, cells := 0, slots := 0, locals := 30 } : Room).cells ({ frames := 2, cells := 0, slots := 0, locals := 30 } : Room).slots) := by
  refine MetFree.of_bodySF (plainFor_of_name pn_com_example_castellan_castellan_ProgressTracker_Bounds) hisR ?_
  intro p e s m args below meth c s₁ Bd hml0 hP hK
  obtain ⟨rfl, hZ, hh⟩ := hP
  have hx := Bd.exec
  have hby := Bd.bytes
  have hml : c.maxLocals = 6 := hml0
  have hown : s.vm.findClass "com/example/castellan/castellan/ProgressTracker$Bounds" = some m.cls := findClass_of_methodNamed Bd.named
  have hnm := (name_of_methodNamed Bd.named Bd.method).1
  have X0 : Stand p l e ({ frames := 2, cells := 0, slots := 0, locals := 30 } : Room) s m #[(.double vd0), (.double vd1)] below meth c s₁ [] 0 0 := Stand.of_body Bd
  have e0 : s₁.heap = h0 := by rw [← hh, Bd.state]; rfl
  have N0 := Fr.nil n0
  have pre0 : ∀ t, Steps p.tables e below (s₁.setTop (mkF m 0 #[.val (.double vd0), .second, .val (.double vd1), .second, .unset, .unset] [])) t → Steps p.tables e below (s₁.setTop (entryFrame m #[(.double vd0), (.double vd1)] 6)) t := fun t k => castTop (ef_7_t m vd0 vd1) k
  obtain ⟨_, _, ⟨T1, L1, k1, n1⟩, -, X1, ⟨Lc1, hQ1, l1, y1, z1⟩, st1⟩ := Jvm.LawKit.callS X0 hx (y := (⟨"com/example/castellan/castellan/ProgressTracker$Bounds", "sumError", "(DDD)D"⟩ : MethodName)) hown (mvT hZ (wd_32 hw)) (mvT hZ (wd_33 hw)) (mvT hZ (wd_7 hw)) (mvT hZ (wd_34 hw)) (by decide) (backOf (W := 0) (rm6 l Z a0 hw [] vd0 vd1 (FP.dadd vd0 vd1) h0 n0 Z0 c9_hn3 c9_hn10 c9_hn16 c9_hn20 c9_hn21) hZ (wd_34 hw) (wd_7 hw) (by decide) (by decide)) (g := (mkF m 9 #[.val (.double vd0), .second, .val (.double vd1), .second, .val (.double (FP.dadd vd0 vd1)), .second] [(.double (FP.dadd vd0 vd1)), (.double vd1), (.double vd0)])) rfl (by rw [hml]; rfl) (argsL := [(.double vd0), (.double vd1), (.double (FP.dadd vd0 vd1))]) (rest := []) (lenOf pd_4 rfl) rfl (by show 2 * 0 + _ ≤ _; exact Nat.le_of_eq rfl) (hb hby d7_9) (fun _ _ => ⟨rfl, e0, (by decide : 0 + 0 ≤ _), (by decide : 0 + 0 ≤ _)⟩)
  dsimp only [Pt.U, Pt.locs, Pt.cells, Pt.slots] at X1 l1 y1 z1 st1 hQ1
  subst l1 y1 z1
  obtain ⟨rfl, N1q, p1_0⟩ := hQ1
  have N1 := Fr.app N0 N1q
  have e1 : T1.heap = h0 := p1_0
  obtain ⟨fs, hr, hrun, hended, hW, hsame⟩ := X1.leave (v := some (.double (FP.dadd vd0 vd1))) (fun h => by rw [Bd.returns] at h; cases h)
  refine ⟨_, _, pre0 _ ?_, hrun, hended, _, _, rfl, ?_, ⟨_, rfl⟩, hW, hsame.mono (by decide) (by decide)⟩
  · show Steps p.tables e below (s₁.setTop (mkF m 0 #[.val (.double vd0), .second, .val (.double vd1), .second, .unset, .unset] [])) _
    refine XS.dloadN X0.here hx rfl (hb hby d7_0) rfl ?_
    show Steps p.tables e below (s₁.setTop (mkF m 1 #[.val (.double vd0), .second, .val (.double vd1), .second, .unset, .unset] [(.double vd0)])) _
    refine XS.dloadN X0.here hx rfl (hb hby d7_1) rfl ?_
    show Steps p.tables e below (s₁.setTop (mkF m 2 #[.val (.double vd0), .second, .val (.double vd1), .second, .unset, .unset] [(.double vd1), (.double vd0)])) _
    refine XS.daddS X0.here hx rfl (hb hby d7_2) rfl hn2 rfl ?_
    show Steps p.tables e below (s₁.setTop (mkF m 3 #[.val (.double vd0), .second, .val (.double vd1), .second, .unset, .unset] [(.double (FP.dadd vd0 vd1))])) _
    refine XS.dstore X0.here hx rfl (hb hby d7_3) rfl (l' := #[.val (.double vd0), .second, .val (.double vd1), .second, .val (.double (FP.dadd vd0 vd1)), .second]) rfl ?_
    show Steps p.tables e below (s₁.setTop (mkF m 5 #[.val (.double vd0), .second, .val (.double vd1), .second, .val (.double (FP.dadd vd0 vd1)), .second] [])) _
    refine XS.dloadN X0.here hx rfl (hb hby d7_5) rfl ?_
    show Steps p.tables e below (s₁.setTop (mkF m 6 #[.val (.double vd0), .second, .val (.double vd1), .second, .val (.double (FP.dadd vd0 vd1)), .second] [(.double vd0)])) _
    refine XS.dloadN X0.here hx rfl (hb hby d7_6) rfl ?_
    show Steps p.tables e below (s₁.setTop (mkF m 7 #[.val (.double vd0), .second, .val (.double vd1), .second, .val (.double (FP.dadd vd0 vd1)), .second] [(.double vd1), (.double vd0)])) _
    refine XS.dload X0.here hx rfl (hb hby d7_7) rfl ?_
    show Steps p.tables e below (s₁.setTop (mkF m 9 #[.val (.double vd0), .second, .val (.double vd1), .second, .val (.double (FP.dadd vd0 vd1)), .second] [(.double (FP.dadd vd0 vd1)), (.double vd1), (.double vd0)])) _
    refine st1 _ ?_
    show Steps p.tables e below (T1.setTop (mkF m 12 #[.val (.double vd0), .second, .val (.double vd1), .second, .val (.double (FP.dadd vd0 vd1)), .second] [(.double (FP.dadd (FP.dsub vd0 (FP.dsub (FP.dadd vd0 vd1) (FP.dsub (FP.dadd vd0 vd1) vd0))) (FP.dsub vd1 (FP.dsub (FP.dadd vd0 vd1) vd0))))])) _
    refine XS.dconst0 X1.here hx rfl (hb hby d7_12) (v := FP.dconst0) rfl ?_
    show Steps p.tables e below (T1.setTop (mkF m 13 #[.val (.double vd0), .second, .val (.double vd1), .second, .val (.double (FP.dadd vd0 vd1)), .second] [(.double FP.dconst0), (.double (FP.dadd (FP.dsub vd0 (FP.dsub (FP.dadd vd0 vd1) (FP.dsub (FP.dadd vd0 vd1) vd0))) (FP.dsub vd1 (FP.dsub (FP.dadd vd0 vd1) vd0))))])) _
    refine XS.dcmpS X1.here hx rfl (hb hby d7_13) rfl rfl ?_
    show Steps p.tables e below (T1.setTop (mkF m 14 #[.val (.double vd0), .second, .val (.double vd1), .second, .val (.double (FP.dadd vd0 vd1)), .second] [(.int (cmpValue (FP.dcmp (FP.dadd (FP.dsub vd0 (FP.dsub (FP.dadd vd0 vd1) (FP.dsub (FP.dadd vd0 vd1) vd0))) (FP.dsub vd1 (FP.dsub (FP.dadd vd0 vd1) vd0))) FP.dconst0) .l))])) _
    refine XS.ifYes X1.here hx rfl (pc0 := 14) (pc' := 25) rfl (hb hby d7_14) rfl ((if0 _ _).trans (flt hc14).2.2.2) (by decide) (by decide) ?_
    show Steps p.tables e below (T1.setTop (mkF m 25 #[.val (.double vd0), .second, .val (.double vd1), .second, .val (.double (FP.dadd vd0 vd1)), .second] [])) _
    refine XS.dload X1.here hx rfl (hb hby d7_25) rfl ?_
    show Steps p.tables e below (T1.setTop (mkF m 27 #[.val (.double vd0), .second, .val (.double vd1), .second, .val (.double (FP.dadd vd0 vd1)), .second] [(.double (FP.dadd vd0 vd1))])) _
    exact retOut X1 hx Bd.returns rfl (Or.inr (Or.inr (Or.inl ⟨rfl, rfl, _, rfl⟩))) (hb hby d7_27) hr
  · show Q7_t Z vd0 vd1 h0 n0 _ T1.heap _
    rw [e1]
    exact ⟨(congrArg (fun z => some (Value.double z)) (if_neg hc14).symm), N1, rfl⟩
def own_ok_su (vd0 vd1 : UInt64) : Prop := (Jvm.Free.Fl.NoNaN64 (FP.dadd vd0 vd1)) ∧ (Jvm.Free.Fl.NoNaN64 (FP.dsub (FP.dadd vd0 vd1) vd0)) ∧ (Jvm.Free.Fl.NoNaN64 (FP.dsub (FP.dadd vd0 vd1) (FP.dsub (FP.dadd vd0 vd1) vd0))) ∧ (Jvm.Free.Fl.NoNaN64 (FP.dsub vd0 (FP.dsub (FP.dadd vd0 vd1) (FP.dsub (FP.dadd vd0 vd1) vd0)))) ∧ (Jvm.Free.Fl.NoNaN64 (FP.dsub vd1 (FP.dsub (FP.dadd vd0 vd1) vd0))) ∧ (Jvm.Free.Fl.NoNaN64 (FP.dadd (FP.dsub vd0 (FP.dsub (FP.dadd vd0 vd1) (FP.dsub (FP.dadd vd0 vd1) vd0))) (FP.dsub vd1 (FP.dsub (FP.dadd vd0 vd1) vd0)))) ∧ (((0 : Int32) < (cmpValue (FP.dcmp (FP.dadd (FP.dsub vd0 (FP.dsub (FP.dadd vd0 vd1) (FP.dsub (FP.dadd vd0 vd1) vd0))) (FP.dsub vd1 (FP.dsub (FP.dadd vd0 vd1) vd0))) FP.dconst0) .l)) → ((cmpValue (FP.dcmp (FP.dadd vd0 vd1) (9218868437227405312 : UInt64)) .g) < (0 : Int32)) ∧ (Jvm.Free.Fl.NoNaN64 (FP.dadd (FP.dadd vd0 vd1) FP.dconst0)) ∧ (¬ ((lcmpW (FP.dadd (FP.dadd vd0 vd1) FP.dconst0).toInt64 (0 : Int64)) < (0 : Int32))) ∧ ((((FP.dadd (FP.dadd vd0 vd1) FP.dconst0).toInt64 + (1 : Int64)).toUInt64 &&& 0x7fffffffffffffff > 0x7ff0000000000000 && ((FP.dadd (FP.dadd vd0 vd1) FP.dconst0).toInt64 + (1 : Int64)).toUInt64 &&& 0x0008000000000000 == 0) = false))
def Q_su (Z : State) (vd0 : UInt64) (vd1 : UInt64) (h0 : Heap) (n0 : Nat) (v : Option Value) (h : Heap) (L : List Loc) : Prop := v = some (.double (own_su vd0 vd1)) ∧ Fr n0 L ∧ h = h0
set_option maxRecDepth 65536 in
set_option maxHeartbeats 4000000 in
theorem rm_su (l : Launch) (Z : State) (a0 : Array Value) (hw : ∀ d ∈ tables_1, d.before a0 Z = true) (ws : List Jvm.Cond) (vd0 : UInt64) (vd1 : UInt64) (h0 : Heap) (n0 : Nat) (Z0 : n0 ≤ h0.size) (hok : own_ok_su vd0 vd1) :
    MetFree l (⟨"com/example/castellan/castellan/ProgressTracker$Bounds", "sumUp", "(DD)D"⟩ : MethodName) (head1 (Jvm.Cond.code (⟨"com/example/castellan/castellan/ProgressTracker$Bounds", "sumUp", "(DD)D"⟩ : MethodName) prog_8_method_9_code 6 (some .double) :: ws) ({ frames := 2, cells := 0, slots := 0, locals := 30 } : Room)) (fun a U => a = #[(.double vd0), (.double vd1)] ∧ Z.Warmed39 U.vm ∧ U.heap = h0) (fun _ _ _ _ _ => True) (fun _ U o U' => ∃ v L, o = .returned v ∧ Q_su Z vd0 vd1 h0 n0 v U'.heap L ∧ FrameEnd U o U' L ({ frames := 2, cells := 0, slots := 0, locals := 30 } : Room).cells ({ frames := 2, cells := 0, slots := 0, locals := 30 } : Room).slots) := by
  obtain ⟨hn2, c9_hn3, c9_hn10, c9_hn16, c9_hn20, c9_hn21, hE⟩ := hok
  by_cases hc14 : (0 : Int32) < (cmpValue (FP.dcmp (FP.dadd (FP.dsub vd0 (FP.dsub (FP.dadd vd0 vd1) (FP.dsub (FP.dadd vd0 vd1) vd0))) (FP.dsub vd1 (FP.dsub (FP.dadd vd0 vd1) vd0))) FP.dconst0) .l)
  · obtain ⟨c19_hc5, c19_hn10, c19_hc19, c19_hv30⟩ := hE hc14
    exact rm7_f l Z a0 hw ws vd0 vd1 h0 n0 Z0 hn2 c9_hn3 c9_hn10 c9_hn16 c9_hn20 c9_hn21 hc14 c19_hc5 c19_hn10 c19_hc19 c19_hv30
  · exact rm7_t l Z a0 hw ws vd0 vd1 h0 n0 Z0 hn2 c9_hn3 c9_hn10 c9_hn16 c9_hn20 c9_hn21 hc14
theorem d8_0 : decode method_2_code 0 = .ok (.lload_n 0, 1) := by decide +kernel
theorem d8_1 : decode method_2_code 1 = .ok (.ldc2_w 9, 3) := by decide +kernel
theorem wd_43 {Z : State} {a0 : Array Value} (hw : ∀ d ∈ tables_1, d.before a0 Z = true) : ((Jvm.Cond.constantLong "com/example/castellan/castellan/BoundsPlusPinLaw" (9 : Nat) (9007199254740992 : Int64))).before a0 Z = true := hw _ (List.mem_of_getElem? (i := 43) rfl)
theorem d8_4 : decode method_2_code 4 = .ok (.lcmp, 1) := by decide +kernel
theorem d8_5 : decode method_2_code 5 = .ok (.ifCond .ge 5, 3) := by decide +kernel
theorem d8_8 : decode method_2_code 8 = .ok (.lload_n 0, 1) := by decide +kernel
theorem d8_9 : decode method_2_code 9 = .ok (.lreturn, 1) := by decide +kernel
theorem d8_10 : decode method_2_code 10 = .ok (.lload_n 0, 1) := by decide +kernel
theorem d8_11 : decode method_2_code 11 = .ok (.lconst 1, 1) := by decide +kernel
theorem d8_12 : decode method_2_code 12 = .ok (.land, 1) := by decide +kernel
theorem d8_13 : decode method_2_code 13 = .ok (.lconst 0, 1) := by decide +kernel
theorem d8_14 : decode method_2_code 14 = .ok (.lcmp, 1) := by decide +kernel
theorem d8_15 : decode method_2_code 15 = .ok (.ifCond .ne 5, 3) := by decide +kernel
theorem d8_18 : decode method_2_code 18 = .ok (.lload_n 0, 1) := by decide +kernel
theorem d8_19 : decode method_2_code 19 = .ok (.lreturn, 1) := by decide +kernel
theorem d8_20 : decode method_2_code 20 = .ok (.lload_n 0, 1) := by decide +kernel
theorem d8_21 : decode method_2_code 21 = .ok (.lconst 1, 1) := by decide +kernel
theorem d8_22 : decode method_2_code 22 = .ok (.lsub, 1) := by decide +kernel
theorem d8_23 : decode method_2_code 23 = .ok (.lreturn, 1) := by decide +kernel
def own_down (vj0 : Int64) : Int64 := if (lcmpW vj0 (9007199254740992 : Int64)) < (0 : Int32) then vj0 else if (lcmpW (vj0 &&& (1 : Int64)) (0 : Int64)) = (0 : Int32) then vj0 else (vj0 - (1 : Int64))
theorem pn_com_example_castellan_castellan_BoundsPlusPinLaw : plainName "com/example/castellan/castellan/BoundsPlusPinLaw" = true := by first | (simp [plainName, overriddenIn]; done) | decide +kernel
theorem ef_8_downf (m : MethodId) (x0 : Int64) : entryFrame m #[(.long x0)] 2 = mkF m 0 #[.val (.long x0), .second] [] := by first | (simp [entryFrame, mkF, argsToLocals, Value.category]; done) | rfl
def Q8_downf (Z : State) (vj0 : Int64) (h0 : Heap) (n0 : Nat) (v : Option Value) (h : Heap) (L : List Loc) : Prop := v = some (.long (own_down vj0)) ∧ Fr n0 L ∧ h = h0
set_option maxRecDepth 65536 in
set_option maxHeartbeats 40000000 in
theorem rm8_downf (l : Launch) (Z : State) (a0 : Array Value) (hw : ∀ d ∈ tables_1, d.before a0 Z = true) (ws : List Jvm.Cond) (vj0 : Int64) (h0 : Heap) (n0 : Nat) (Z0 : n0 ≤ h0.size) (hc5 : (lcmpW vj0 (9007199254740992 : Int64)) < (0 : Int32)) :
    MetFree l (⟨"com/example/castellan/castellan/BoundsPlusPinLaw", "down", "(J)J"⟩ : MethodName) (head1 (Jvm.Cond.code (⟨"com/example/castellan/castellan/BoundsPlusPinLaw", "down", "(J)J"⟩ : MethodName) method_2_code 2 (some .long) :: ws) ({ frames := 0, cells := 0, slots := 0, locals := 0 } : Room)) (fun a U => a = #[(.long vj0)] ∧ Z.Warmed39 U.vm ∧ U.heap = h0) (fun _ _ _ _ _ => True) (fun _ U o U' => ∃ v L, o = .returned v ∧ Q8_downf Z vj0 h0 n0 v U'.heap L ∧ FrameEnd U o U' L ({ frames := 0, cells := 0, slots := 0, locals := 0 } : Room).cells ({ frames := 0, cells := 0, slots := 0, locals := 0 } : Room).slots) := by
  refine MetFree.of_bodySF (plainFor_of_name pn_com_example_castellan_castellan_BoundsPlusPinLaw) hisR ?_
  intro p e s m args below meth c s₁ Bd hml0 hP hK
  obtain ⟨rfl, hZ, hh⟩ := hP
  have hx := Bd.exec
  have hby := Bd.bytes
  have hml : c.maxLocals = 2 := hml0
  have hown : s.vm.findClass "com/example/castellan/castellan/BoundsPlusPinLaw" = some m.cls := findClass_of_methodNamed Bd.named
  have hnm := (name_of_methodNamed Bd.named Bd.method).1
  have X0 : Stand p l e ({ frames := 0, cells := 0, slots := 0, locals := 0 } : Room) s m #[(.long vj0)] below meth c s₁ [] 0 0 := Stand.of_body Bd
  have e0 : s₁.heap = h0 := by rw [← hh, Bd.state]; rfl
  have N0 := Fr.nil n0
  have pre0 : ∀ t, Steps p.tables e below (s₁.setTop (mkF m 0 #[.val (.long vj0), .second] [])) t → Steps p.tables e below (s₁.setTop (entryFrame m #[(.long vj0)] 2)) t := fun t k => castTop (ef_8_downf m vj0) k
  obtain ⟨fs, hr, hrun, hended, hW, hsame⟩ := X0.leave (v := some (.long vj0)) (fun h => by rw [Bd.returns] at h; cases h)
  refine ⟨_, _, pre0 _ ?_, hrun, hended, _, _, rfl, ?_, ⟨_, rfl⟩, hW, hsame.mono (by decide) (by decide)⟩
  · show Steps p.tables e below (s₁.setTop (mkF m 0 #[.val (.long vj0), .second] [])) _
    refine XS.lloadN X0.here hx rfl (hb hby d8_0) rfl ?_
    show Steps p.tables e below (s₁.setTop (mkF m 1 #[.val (.long vj0), .second] [(.long vj0)])) _
    refine X0.ldc2Long hx hown (mvT hZ (wd_43 hw)) (g := (mkF m 1 #[.val (.long vj0), .second] [(.long vj0)])) rfl (hb hby d8_1) _ ?_
    show Steps p.tables e below (s₁.setTop (mkF m 4 #[.val (.long vj0), .second] [(.long (9007199254740992 : Int64)), (.long vj0)])) _
    refine XS.lcmp X0.here hx rfl (hb hby d8_4) rfl ?_
    show Steps p.tables e below (s₁.setTop (mkF m 5 #[.val (.long vj0), .second] [(.int (lcmpW vj0 (9007199254740992 : Int64)))])) _
    refine XS.ifNo X0.here hx rfl (hb hby d8_5) rfl ((if0 _ _).trans (tlt hc5).2.1) ?_
    show Steps p.tables e below (s₁.setTop (mkF m 8 #[.val (.long vj0), .second] [])) _
    refine XS.lloadN X0.here hx rfl (hb hby d8_8) rfl ?_
    show Steps p.tables e below (s₁.setTop (mkF m 9 #[.val (.long vj0), .second] [(.long vj0)])) _
    jvm_step X0.here [X0.here.top, hx, (hb hby d8_9), X0.method', Bd.returns, narrow]
    first | (intro acts; rw [hr _ acts rfl rfl rfl]) | rw [hr _ _ rfl rfl rfl]
    exact Steps.refl _
  · show Q8_downf Z vj0 h0 n0 _ s₁.heap _
    rw [e0]
    exact ⟨(congrArg (fun z => some (Value.long z)) (if_pos hc5).symm), N0, rfl⟩
theorem ef_8_downtf (m : MethodId) (x0 : Int64) : entryFrame m #[(.long x0)] 2 = mkF m 0 #[.val (.long x0), .second] [] := by first | (simp [entryFrame, mkF, argsToLocals, Value.category]; done) | rfl
def Q8_downtf (Z : State) (vj0 : Int64) (h0 : Heap) (n0 : Nat) (v : Option Value) (h : Heap) (L : List Loc) : Prop := v = some (.long (own_down vj0)) ∧ Fr n0 L ∧ h = h0
set_option maxRecDepth 65536 in
set_option maxHeartbeats 40000000 in
theorem rm8_downtf (l : Launch) (Z : State) (a0 : Array Value) (hw : ∀ d ∈ tables_1, d.before a0 Z = true) (ws : List Jvm.Cond) (vj0 : Int64) (h0 : Heap) (n0 : Nat) (Z0 : n0 ≤ h0.size) (hc5 : ¬ ((lcmpW vj0 (9007199254740992 : Int64)) < (0 : Int32))) (hc15 : (lcmpW (vj0 &&& (1 : Int64)) (0 : Int64)) = (0 : Int32)) :
    MetFree l (⟨"com/example/castellan/castellan/BoundsPlusPinLaw", "down", "(J)J"⟩ : MethodName) (head1 (Jvm.Cond.code (⟨"com/example/castellan/castellan/BoundsPlusPinLaw", "down", "(J)J"⟩ : MethodName) method_2_code 2 (some .long) :: ws) ({ frames := 0, cells := 0, slots := 0, locals := 0 } : Room)) (fun a U => a = #[(.long vj0)] ∧ Z.Warmed39 U.vm ∧ U.heap = h0) (fun _ _ _ _ _ => True) (fun _ U o U' => ∃ v L, o = .returned v ∧ Q8_downtf Z vj0 h0 n0 v U'.heap L ∧ FrameEnd U o U' L ({ frames := 0, cells := 0, slots := 0, locals := 0 } : Room).cells ({ frames := 0, cells := 0, slots := 0, locals := 0 } : Room).slots) := by
  refine MetFree.of_bodySF (plainFor_of_name pn_com_example_castellan_castellan_BoundsPlusPinLaw) hisR ?_
  intro p e s m args below meth c s₁ Bd hml0 hP hK
  obtain ⟨rfl, hZ, hh⟩ := hP
  have hx := Bd.exec
  have hby := Bd.bytes
  have hml : c.maxLocals = 2 := hml0
  have hown : s.vm.findClass "com/example/castellan/castellan/BoundsPlusPinLaw" = some m.cls := findClass_of_methodNamed Bd.named
  have hnm := (name_of_methodNamed Bd.named Bd.method).1
  have X0 : Stand p l e ({ frames := 0, cells := 0, slots := 0, locals := 0 } : Room) s m #[(.long vj0)] below meth c s₁ [] 0 0 := Stand.of_body Bd
  have e0 : s₁.heap = h0 := by rw [← hh, Bd.state]; rfl
  have N0 := Fr.nil n0
  have pre0 : ∀ t, Steps p.tables e below (s₁.setTop (mkF m 0 #[.val (.long vj0), .second] [])) t → Steps p.tables e below (s₁.setTop (entryFrame m #[(.long vj0)] 2)) t := fun t k => castTop (ef_8_downtf m vj0) k
  obtain ⟨fs, hr, hrun, hended, hW, hsame⟩ := X0.leave (v := some (.long vj0)) (fun h => by rw [Bd.returns] at h; cases h)
  refine ⟨_, _, pre0 _ ?_, hrun, hended, _, _, rfl, ?_, ⟨_, rfl⟩, hW, hsame.mono (by decide) (by decide)⟩
  · show Steps p.tables e below (s₁.setTop (mkF m 0 #[.val (.long vj0), .second] [])) _
    refine XS.lloadN X0.here hx rfl (hb hby d8_0) rfl ?_
    show Steps p.tables e below (s₁.setTop (mkF m 1 #[.val (.long vj0), .second] [(.long vj0)])) _
    refine X0.ldc2Long hx hown (mvT hZ (wd_43 hw)) (g := (mkF m 1 #[.val (.long vj0), .second] [(.long vj0)])) rfl (hb hby d8_1) _ ?_
    show Steps p.tables e below (s₁.setTop (mkF m 4 #[.val (.long vj0), .second] [(.long (9007199254740992 : Int64)), (.long vj0)])) _
    refine XS.lcmp X0.here hx rfl (hb hby d8_4) rfl ?_
    show Steps p.tables e below (s₁.setTop (mkF m 5 #[.val (.long vj0), .second] [(.int (lcmpW vj0 (9007199254740992 : Int64)))])) _
    refine XS.ifYes X0.here hx rfl (pc0 := 5) (pc' := 10) rfl (hb hby d8_5) rfl ((if0 _ _).trans (flt hc5).2.1) (by decide) (by decide) ?_
    show Steps p.tables e below (s₁.setTop (mkF m 10 #[.val (.long vj0), .second] [])) _
    refine XS.lloadN X0.here hx rfl (hb hby d8_10) rfl ?_
    show Steps p.tables e below (s₁.setTop (mkF m 11 #[.val (.long vj0), .second] [(.long vj0)])) _
    refine XS.lconst X0.here hx rfl (hb hby d8_11) ?_
    show Steps p.tables e below (s₁.setTop (mkF m 12 #[.val (.long vj0), .second] [(.long (1 : Int64)), (.long vj0)])) _
    refine XS.land X0.here hx rfl (hb hby d8_12) rfl ?_
    show Steps p.tables e below (s₁.setTop (mkF m 13 #[.val (.long vj0), .second] [(.long (vj0 &&& (1 : Int64)))])) _
    refine XS.lconst X0.here hx rfl (hb hby d8_13) ?_
    show Steps p.tables e below (s₁.setTop (mkF m 14 #[.val (.long vj0), .second] [(.long (0 : Int64)), (.long (vj0 &&& (1 : Int64)))])) _
    refine XS.lcmp X0.here hx rfl (hb hby d8_14) rfl ?_
    show Steps p.tables e below (s₁.setTop (mkF m 15 #[.val (.long vj0), .second] [(.int (lcmpW (vj0 &&& (1 : Int64)) (0 : Int64)))])) _
    refine XS.ifNo X0.here hx rfl (hb hby d8_15) rfl ((if0 _ _).trans (teq hc15).2) ?_
    show Steps p.tables e below (s₁.setTop (mkF m 18 #[.val (.long vj0), .second] [])) _
    refine XS.lloadN X0.here hx rfl (hb hby d8_18) rfl ?_
    show Steps p.tables e below (s₁.setTop (mkF m 19 #[.val (.long vj0), .second] [(.long vj0)])) _
    jvm_step X0.here [X0.here.top, hx, (hb hby d8_19), X0.method', Bd.returns, narrow]
    first | (intro acts; rw [hr _ acts rfl rfl rfl]) | rw [hr _ _ rfl rfl rfl]
    exact Steps.refl _
  · show Q8_downtf Z vj0 h0 n0 _ s₁.heap _
    rw [e0]
    exact ⟨(congrArg (fun z => some (Value.long z)) ((if_neg hc5).trans (if_pos hc15)).symm), N0, rfl⟩
theorem ef_8_downtt (m : MethodId) (x0 : Int64) : entryFrame m #[(.long x0)] 2 = mkF m 0 #[.val (.long x0), .second] [] := by first | (simp [entryFrame, mkF, argsToLocals, Value.category]; done) | rfl
def Q8_downtt (Z : State) (vj0 : Int64) (h0 : Heap) (n0 : Nat) (v : Option Value) (h : Heap) (L : List Loc) : Prop := v = some (.long (own_down vj0)) ∧ Fr n0 L ∧ h = h0
set_option maxRecDepth 65536 in
set_option maxHeartbeats 40000000 in
theorem rm8_downtt (l : Launch) (Z : State) (a0 : Array Value) (hw : ∀ d ∈ tables_1, d.before a0 Z = true) (ws : List Jvm.Cond) (vj0 : Int64) (h0 : Heap) (n0 : Nat) (Z0 : n0 ≤ h0.size) (hc5 : ¬ ((lcmpW vj0 (9007199254740992 : Int64)) < (0 : Int32))) (hc15 : ¬ ((lcmpW (vj0 &&& (1 : Int64)) (0 : Int64)) = (0 : Int32))) :
    MetFree l (⟨"com/example/castellan/castellan/BoundsPlusPinLaw", "down", "(J)J"⟩ : MethodName) (head1 (Jvm.Cond.code (⟨"com/example/castellan/castellan/BoundsPlusPinLaw", "down", "(J)J"⟩ : MethodName) method_2_code 2 (some .long) :: ws) ({ frames := 0, cells := 0, slots := 0, locals := 0 } : Room)) (fun a U => a = #[(.long vj0)] ∧ Z.Warmed39 U.vm ∧ U.heap = h0) (fun _ _ _ _ _ => True) (fun _ U o U' => ∃ v L, o = .returned v ∧ Q8_downtt Z vj0 h0 n0 v U'.heap L ∧ FrameEnd U o U' L ({ frames := 0, cells := 0, slots := 0, locals := 0 } : Room).cells ({ frames := 0, cells := 0, slots := 0, locals := 0 } : Room).slots) := by
  refine MetFree.of_bodySF (plainFor_of_name pn_com_example_castellan_castellan_BoundsPlusPinLaw) hisR ?_
  intro p e s m args below meth c s₁ Bd hml0 hP hK
  obtain ⟨rfl, hZ, hh⟩ := hP
  have hx := Bd.exec
  have hby := Bd.bytes
  have hml : c.maxLocals = 2 := hml0
  have hown : s.vm.findClass "com/example/castellan/castellan/BoundsPlusPinLaw" = some m.cls := findClass_of_methodNamed Bd.named
  have hnm := (name_of_methodNamed Bd.named Bd.method).1
  have X0 : Stand p l e ({ frames := 0, cells := 0, slots := 0, locals := 0 } : Room) s m #[(.long vj0)] below meth c s₁ [] 0 0 := Stand.of_body Bd
  have e0 : s₁.heap = h0 := by rw [← hh, Bd.state]; rfl
  have N0 := Fr.nil n0
  have pre0 : ∀ t, Steps p.tables e below (s₁.setTop (mkF m 0 #[.val (.long vj0), .second] [])) t → Steps p.tables e below (s₁.setTop (entryFrame m #[(.long vj0)] 2)) t := fun t k => castTop (ef_8_downtt m vj0) k
  obtain ⟨fs, hr, hrun, hended, hW, hsame⟩ := X0.leave (v := some (.long (vj0 - (1 : Int64)))) (fun h => by rw [Bd.returns] at h; cases h)
  refine ⟨_, _, pre0 _ ?_, hrun, hended, _, _, rfl, ?_, ⟨_, rfl⟩, hW, hsame.mono (by decide) (by decide)⟩
  · show Steps p.tables e below (s₁.setTop (mkF m 0 #[.val (.long vj0), .second] [])) _
    refine XS.lloadN X0.here hx rfl (hb hby d8_0) rfl ?_
    show Steps p.tables e below (s₁.setTop (mkF m 1 #[.val (.long vj0), .second] [(.long vj0)])) _
    refine X0.ldc2Long hx hown (mvT hZ (wd_43 hw)) (g := (mkF m 1 #[.val (.long vj0), .second] [(.long vj0)])) rfl (hb hby d8_1) _ ?_
    show Steps p.tables e below (s₁.setTop (mkF m 4 #[.val (.long vj0), .second] [(.long (9007199254740992 : Int64)), (.long vj0)])) _
    refine XS.lcmp X0.here hx rfl (hb hby d8_4) rfl ?_
    show Steps p.tables e below (s₁.setTop (mkF m 5 #[.val (.long vj0), .second] [(.int (lcmpW vj0 (9007199254740992 : Int64)))])) _
    refine XS.ifYes X0.here hx rfl (pc0 := 5) (pc' := 10) rfl (hb hby d8_5) rfl ((if0 _ _).trans (flt hc5).2.1) (by decide) (by decide) ?_
    show Steps p.tables e below (s₁.setTop (mkF m 10 #[.val (.long vj0), .second] [])) _
    refine XS.lloadN X0.here hx rfl (hb hby d8_10) rfl ?_
    show Steps p.tables e below (s₁.setTop (mkF m 11 #[.val (.long vj0), .second] [(.long vj0)])) _
    refine XS.lconst X0.here hx rfl (hb hby d8_11) ?_
    show Steps p.tables e below (s₁.setTop (mkF m 12 #[.val (.long vj0), .second] [(.long (1 : Int64)), (.long vj0)])) _
    refine XS.land X0.here hx rfl (hb hby d8_12) rfl ?_
    show Steps p.tables e below (s₁.setTop (mkF m 13 #[.val (.long vj0), .second] [(.long (vj0 &&& (1 : Int64)))])) _
    refine XS.lconst X0.here hx rfl (hb hby d8_13) ?_
    show Steps p.tables e below (s₁.setTop (mkF m 14 #[.val (.long vj0), .second] [(.long (0 : Int64)), (.long (vj0 &&& (1 : Int64)))])) _
    refine XS.lcmp X0.here hx rfl (hb hby d8_14) rfl ?_
    show Steps p.tables e below (s₁.setTop (mkF m 15 #[.val (.long vj0), .second] [(.int (lcmpW (vj0 &&& (1 : Int64)) (0 : Int64)))])) _
    refine XS.ifYes X0.here hx rfl (pc0 := 15) (pc' := 20) rfl (hb hby d8_15) rfl ((if0 _ _).trans (feq hc15).2) (by decide) (by decide) ?_
    show Steps p.tables e below (s₁.setTop (mkF m 20 #[.val (.long vj0), .second] [])) _
    refine XS.lloadN X0.here hx rfl (hb hby d8_20) rfl ?_
    show Steps p.tables e below (s₁.setTop (mkF m 21 #[.val (.long vj0), .second] [(.long vj0)])) _
    refine XS.lconst X0.here hx rfl (hb hby d8_21) ?_
    show Steps p.tables e below (s₁.setTop (mkF m 22 #[.val (.long vj0), .second] [(.long (1 : Int64)), (.long vj0)])) _
    refine XS.lsub X0.here hx rfl (hb hby d8_22) rfl ?_
    show Steps p.tables e below (s₁.setTop (mkF m 23 #[.val (.long vj0), .second] [(.long (vj0 - (1 : Int64)))])) _
    jvm_step X0.here [X0.here.top, hx, (hb hby d8_23), X0.method', Bd.returns, narrow]
    first | (intro acts; rw [hr _ acts rfl rfl rfl]) | rw [hr _ _ rfl rfl rfl]
    exact Steps.refl _
  · show Q8_downtt Z vj0 h0 n0 _ s₁.heap _
    rw [e0]
    exact ⟨(congrArg (fun z => some (Value.long z)) ((if_neg hc5).trans (if_neg hc15)).symm), N0, rfl⟩
def Q_down (Z : State) (vj0 : Int64) (h0 : Heap) (n0 : Nat) (v : Option Value) (h : Heap) (L : List Loc) : Prop := v = some (.long (own_down vj0)) ∧ Fr n0 L ∧ h = h0
set_option maxRecDepth 65536 in
set_option maxHeartbeats 4000000 in
theorem rm_down (l : Launch) (Z : State) (a0 : Array Value) (hw : ∀ d ∈ tables_1, d.before a0 Z = true) (ws : List Jvm.Cond) (vj0 : Int64) (h0 : Heap) (n0 : Nat) (Z0 : n0 ≤ h0.size)  :
    MetFree l (⟨"com/example/castellan/castellan/BoundsPlusPinLaw", "down", "(J)J"⟩ : MethodName) (head1 (Jvm.Cond.code (⟨"com/example/castellan/castellan/BoundsPlusPinLaw", "down", "(J)J"⟩ : MethodName) method_2_code 2 (some .long) :: ws) ({ frames := 0, cells := 0, slots := 0, locals := 0 } : Room)) (fun a U => a = #[(.long vj0)] ∧ Z.Warmed39 U.vm ∧ U.heap = h0) (fun _ _ _ _ _ => True) (fun _ U o U' => ∃ v L, o = .returned v ∧ Q_down Z vj0 h0 n0 v U'.heap L ∧ FrameEnd U o U' L ({ frames := 0, cells := 0, slots := 0, locals := 0 } : Room).cells ({ frames := 0, cells := 0, slots := 0, locals := 0 } : Room).slots) := by
  by_cases hc5 : (lcmpW vj0 (9007199254740992 : Int64)) < (0 : Int32)
  · exact rm8_downf l Z a0 hw ws vj0 h0 n0 Z0 hc5
  · by_cases hc15 : (lcmpW (vj0 &&& (1 : Int64)) (0 : Int64)) = (0 : Int32)
    · exact rm8_downtf l Z a0 hw ws vj0 h0 n0 Z0 hc5 hc15
    · exact rm8_downtt l Z a0 hw ws vj0 h0 n0 Z0 hc5 hc15
theorem d9_0 : decode method_3_code 0 = .ok (.lload_n 0, 1) := by decide +kernel
theorem d9_1 : decode method_3_code 1 = .ok (.ldc2_w 9, 3) := by decide +kernel
theorem d9_4 : decode method_3_code 4 = .ok (.lcmp, 1) := by decide +kernel
theorem d9_5 : decode method_3_code 5 = .ok (.ifCond .ge 5, 3) := by decide +kernel
theorem d9_8 : decode method_3_code 8 = .ok (.lload_n 0, 1) := by decide +kernel
theorem d9_9 : decode method_3_code 9 = .ok (.lreturn, 1) := by decide +kernel
theorem d9_10 : decode method_3_code 10 = .ok (.lload_n 0, 1) := by decide +kernel
theorem d9_11 : decode method_3_code 11 = .ok (.lconst 1, 1) := by decide +kernel
theorem d9_12 : decode method_3_code 12 = .ok (.land, 1) := by decide +kernel
theorem d9_13 : decode method_3_code 13 = .ok (.lconst 0, 1) := by decide +kernel
theorem d9_14 : decode method_3_code 14 = .ok (.lcmp, 1) := by decide +kernel
theorem d9_15 : decode method_3_code 15 = .ok (.ifCond .ne 5, 3) := by decide +kernel
theorem d9_18 : decode method_3_code 18 = .ok (.lload_n 0, 1) := by decide +kernel
theorem d9_19 : decode method_3_code 19 = .ok (.lreturn, 1) := by decide +kernel
theorem d9_20 : decode method_3_code 20 = .ok (.lload_n 0, 1) := by decide +kernel
theorem d9_21 : decode method_3_code 21 = .ok (.lconst 1, 1) := by decide +kernel
theorem d9_22 : decode method_3_code 22 = .ok (.ladd, 1) := by decide +kernel
theorem d9_23 : decode method_3_code 23 = .ok (.lreturn, 1) := by decide +kernel
def own_up (vj0 : Int64) : Int64 := if (lcmpW vj0 (9007199254740992 : Int64)) < (0 : Int32) then vj0 else if (lcmpW (vj0 &&& (1 : Int64)) (0 : Int64)) = (0 : Int32) then vj0 else (vj0 + (1 : Int64))
theorem ef_9_upf (m : MethodId) (x0 : Int64) : entryFrame m #[(.long x0)] 2 = mkF m 0 #[.val (.long x0), .second] [] := by first | (simp [entryFrame, mkF, argsToLocals, Value.category]; done) | rfl
def Q9_upf (Z : State) (vj0 : Int64) (h0 : Heap) (n0 : Nat) (v : Option Value) (h : Heap) (L : List Loc) : Prop := v = some (.long (own_up vj0)) ∧ Fr n0 L ∧ h = h0
set_option maxRecDepth 65536 in
set_option maxHeartbeats 40000000 in
theorem rm9_upf (l : Launch) (Z : State) (a0 : Array Value) (hw : ∀ d ∈ tables_1, d.before a0 Z = true) (ws : List Jvm.Cond) (vj0 : Int64) (h0 : Heap) (n0 : Nat) (Z0 : n0 ≤ h0.size) (hc5 : (lcmpW vj0 (9007199254740992 : Int64)) < (0 : Int32)) :
    MetFree l (⟨"com/example/castellan/castellan/BoundsPlusPinLaw", "up", "(J)J"⟩ : MethodName) (head1 (Jvm.Cond.code (⟨"com/example/castellan/castellan/BoundsPlusPinLaw", "up", "(J)J"⟩ : MethodName) method_3_code 2 (some .long) :: ws) ({ frames := 0, cells := 0, slots := 0, locals := 0 } : Room)) (fun a U => a = #[(.long vj0)] ∧ Z.Warmed39 U.vm ∧ U.heap = h0) (fun _ _ _ _ _ => True) (fun _ U o U' => ∃ v L, o = .returned v ∧ Q9_upf Z vj0 h0 n0 v U'.heap L ∧ FrameEnd U o U' L ({ frames := 0, cells := 0, slots := 0, locals := 0 } : Room).cells ({ frames := 0, cells := 0, slots := 0, locals := 0 } : Room).slots) := by
  refine MetFree.of_bodySF (plainFor_of_name pn_com_example_castellan_castellan_BoundsPlusPinLaw) hisR ?_
  intro p e s m args below meth c s₁ Bd hml0 hP hK
  obtain ⟨rfl, hZ, hh⟩ := hP
  have hx := Bd.exec
  have hby := Bd.bytes
  have hml : c.maxLocals = 2 := hml0
  have hown : s.vm.findClass "com/example/castellan/castellan/BoundsPlusPinLaw" = some m.cls := findClass_of_methodNamed Bd.named
  have hnm := (name_of_methodNamed Bd.named Bd.method).1
  have X0 : Stand p l e ({ frames := 0, cells := 0, slots := 0, locals := 0 } : Room) s m #[(.long vj0)] below meth c s₁ [] 0 0 := Stand.of_body Bd
  have e0 : s₁.heap = h0 := by rw [← hh, Bd.state]; rfl
  have N0 := Fr.nil n0
  have pre0 : ∀ t, Steps p.tables e below (s₁.setTop (mkF m 0 #[.val (.long vj0), .second] [])) t → Steps p.tables e below (s₁.setTop (entryFrame m #[(.long vj0)] 2)) t := fun t k => castTop (ef_9_upf m vj0) k
  obtain ⟨fs, hr, hrun, hended, hW, hsame⟩ := X0.leave (v := some (.long vj0)) (fun h => by rw [Bd.returns] at h; cases h)
  refine ⟨_, _, pre0 _ ?_, hrun, hended, _, _, rfl, ?_, ⟨_, rfl⟩, hW, hsame.mono (by decide) (by decide)⟩
  · show Steps p.tables e below (s₁.setTop (mkF m 0 #[.val (.long vj0), .second] [])) _
    refine XS.lloadN X0.here hx rfl (hb hby d9_0) rfl ?_
    show Steps p.tables e below (s₁.setTop (mkF m 1 #[.val (.long vj0), .second] [(.long vj0)])) _
    refine X0.ldc2Long hx hown (mvT hZ (wd_43 hw)) (g := (mkF m 1 #[.val (.long vj0), .second] [(.long vj0)])) rfl (hb hby d9_1) _ ?_
    show Steps p.tables e below (s₁.setTop (mkF m 4 #[.val (.long vj0), .second] [(.long (9007199254740992 : Int64)), (.long vj0)])) _
    refine XS.lcmp X0.here hx rfl (hb hby d9_4) rfl ?_
    show Steps p.tables e below (s₁.setTop (mkF m 5 #[.val (.long vj0), .second] [(.int (lcmpW vj0 (9007199254740992 : Int64)))])) _
    refine XS.ifNo X0.here hx rfl (hb hby d9_5) rfl ((if0 _ _).trans (tlt hc5).2.1) ?_
    show Steps p.tables e below (s₁.setTop (mkF m 8 #[.val (.long vj0), .second] [])) _
    refine XS.lloadN X0.here hx rfl (hb hby d9_8) rfl ?_
    show Steps p.tables e below (s₁.setTop (mkF m 9 #[.val (.long vj0), .second] [(.long vj0)])) _
    jvm_step X0.here [X0.here.top, hx, (hb hby d9_9), X0.method', Bd.returns, narrow]
    first | (intro acts; rw [hr _ acts rfl rfl rfl]) | rw [hr _ _ rfl rfl rfl]
    exact Steps.refl _
  · show Q9_upf Z vj0 h0 n0 _ s₁.heap _
    rw [e0]
    exact ⟨(congrArg (fun z => some (Value.long z)) (if_pos hc5).symm), N0, rfl⟩
theorem ef_9_uptf (m : MethodId) (x0 : Int64) : entryFrame m #[(.long x0)] 2 = mkF m 0 #[.val (.long x0), .second] [] := by first | (simp [entryFrame, mkF, argsToLocals, Value.category]; done) | rfl
def Q9_uptf (Z : State) (vj0 : Int64) (h0 : Heap) (n0 : Nat) (v : Option Value) (h : Heap) (L : List Loc) : Prop := v = some (.long (own_up vj0)) ∧ Fr n0 L ∧ h = h0
set_option maxRecDepth 65536 in
set_option maxHeartbeats 40000000 in
theorem rm9_uptf (l : Launch) (Z : State) (a0 : Array Value) (hw : ∀ d ∈ tables_1, d.before a0 Z = true) (ws : List Jvm.Cond) (vj0 : Int64) (h0 : Heap) (n0 : Nat) (Z0 : n0 ≤ h0.size) (hc5 : ¬ ((lcmpW vj0 (9007199254740992 : Int64)) < (0 : Int32))) (hc15 : (lcmpW (vj0 &&& (1 : Int64)) (0 : Int64)) = (0 : Int32)) :
    MetFree l (⟨"com/example/castellan/castellan/BoundsPlusPinLaw", "up", "(J)J"⟩ : MethodName) (head1 (Jvm.Cond.code (⟨"com/example/castellan/castellan/BoundsPlusPinLaw", "up", "(J)J"⟩ : MethodName) method_3_code 2 (some .long) :: ws) ({ frames := 0, cells := 0, slots := 0, locals := 0 } : Room)) (fun a U => a = #[(.long vj0)] ∧ Z.Warmed39 U.vm ∧ U.heap = h0) (fun _ _ _ _ _ => True) (fun _ U o U' => ∃ v L, o = .returned v ∧ Q9_uptf Z vj0 h0 n0 v U'.heap L ∧ FrameEnd U o U' L ({ frames := 0, cells := 0, slots := 0, locals := 0 } : Room).cells ({ frames := 0, cells := 0, slots := 0, locals := 0 } : Room).slots) := by
  refine MetFree.of_bodySF (plainFor_of_name pn_com_example_castellan_castellan_BoundsPlusPinLaw) hisR ?_
  intro p e s m args below meth c s₁ Bd hml0 hP hK
  obtain ⟨rfl, hZ, hh⟩ := hP
  have hx := Bd.exec
  have hby := Bd.bytes
  have hml : c.maxLocals = 2 := hml0
  have hown : s.vm.findClass "com/example/castellan/castellan/BoundsPlusPinLaw" = some m.cls := findClass_of_methodNamed Bd.named
  have hnm := (name_of_methodNamed Bd.named Bd.method).1
  have X0 : Stand p l e ({ frames := 0, cells := 0, slots := 0, locals := 0 } : Room) s m #[(.long vj0)] below meth c s₁ [] 0 0 := Stand.of_body Bd
  have e0 : s₁.heap = h0 := by rw [← hh, Bd.state]; rfl
  have N0 := Fr.nil n0
  have pre0 : ∀ t, Steps p.tables e below (s₁.setTop (mkF m 0 #[.val (.long vj0), .second] [])) t → Steps p.tables e below (s₁.setTop (entryFrame m #[(.long vj0)] 2)) t := fun t k => castTop (ef_9_uptf m vj0) k
  obtain ⟨fs, hr, hrun, hended, hW, hsame⟩ := X0.leave (v := some (.long vj0)) (fun h => by rw [Bd.returns] at h; cases h)
  refine ⟨_, _, pre0 _ ?_, hrun, hended, _, _, rfl, ?_, ⟨_, rfl⟩, hW, hsame.mono (by decide) (by decide)⟩
  · show Steps p.tables e below (s₁.setTop (mkF m 0 #[.val (.long vj0), .second] [])) _
    refine XS.lloadN X0.here hx rfl (hb hby d9_0) rfl ?_
    show Steps p.tables e below (s₁.setTop (mkF m 1 #[.val (.long vj0), .second] [(.long vj0)])) _
    refine X0.ldc2Long hx hown (mvT hZ (wd_43 hw)) (g := (mkF m 1 #[.val (.long vj0), .second] [(.long vj0)])) rfl (hb hby d9_1) _ ?_
    show Steps p.tables e below (s₁.setTop (mkF m 4 #[.val (.long vj0), .second] [(.long (9007199254740992 : Int64)), (.long vj0)])) _
    refine XS.lcmp X0.here hx rfl (hb hby d9_4) rfl ?_
    show Steps p.tables e below (s₁.setTop (mkF m 5 #[.val (.long vj0), .second] [(.int (lcmpW vj0 (9007199254740992 : Int64)))])) _
    refine XS.ifYes X0.here hx rfl (pc0 := 5) (pc' := 10) rfl (hb hby d9_5) rfl ((if0 _ _).trans (flt hc5).2.1) (by decide) (by decide) ?_
    show Steps p.tables e below (s₁.setTop (mkF m 10 #[.val (.long vj0), .second] [])) _
    refine XS.lloadN X0.here hx rfl (hb hby d9_10) rfl ?_
    show Steps p.tables e below (s₁.setTop (mkF m 11 #[.val (.long vj0), .second] [(.long vj0)])) _
    refine XS.lconst X0.here hx rfl (hb hby d9_11) ?_
    show Steps p.tables e below (s₁.setTop (mkF m 12 #[.val (.long vj0), .second] [(.long (1 : Int64)), (.long vj0)])) _
    refine XS.land X0.here hx rfl (hb hby d9_12) rfl ?_
    show Steps p.tables e below (s₁.setTop (mkF m 13 #[.val (.long vj0), .second] [(.long (vj0 &&& (1 : Int64)))])) _
    refine XS.lconst X0.here hx rfl (hb hby d9_13) ?_
    show Steps p.tables e below (s₁.setTop (mkF m 14 #[.val (.long vj0), .second] [(.long (0 : Int64)), (.long (vj0 &&& (1 : Int64)))])) _
    refine XS.lcmp X0.here hx rfl (hb hby d9_14) rfl ?_
    show Steps p.tables e below (s₁.setTop (mkF m 15 #[.val (.long vj0), .second] [(.int (lcmpW (vj0 &&& (1 : Int64)) (0 : Int64)))])) _
    refine XS.ifNo X0.here hx rfl (hb hby d9_15) rfl ((if0 _ _).trans (teq hc15).2) ?_
    show Steps p.tables e below (s₁.setTop (mkF m 18 #[.val (.long vj0), .second] [])) _
    refine XS.lloadN X0.here hx rfl (hb hby d9_18) rfl ?_
    show Steps p.tables e below (s₁.setTop (mkF m 19 #[.val (.long vj0), .second] [(.long vj0)])) _
    jvm_step X0.here [X0.here.top, hx, (hb hby d9_19), X0.method', Bd.returns, narrow]
    first | (intro acts; rw [hr _ acts rfl rfl rfl]) | rw [hr _ _ rfl rfl rfl]
    exact Steps.refl _
  · show Q9_uptf Z vj0 h0 n0 _ s₁.heap _
    rw [e0]
    exact ⟨(congrArg (fun z => some (Value.long z)) ((if_neg hc5).trans (if_pos hc15)).symm), N0, rfl⟩
theorem ef_9_uptt (m : MethodId) (x0 : Int64) : entryFrame m #[(.long x0)] 2 = mkF m 0 #[.val (.long x0), .second] [] := by first | (simp [entryFrame, mkF, argsToLocals, Value.category]; done) | rfl
def Q9_uptt (Z : State) (vj0 : Int64) (h0 : Heap) (n0 : Nat) (v : Option Value) (h : Heap) (L : List Loc) : Prop := v = some (.long (own_up vj0)) ∧ Fr n0 L ∧ h = h0
set_option maxRecDepth 65536 in
set_option maxHeartbeats 40000000 in
theorem rm9_uptt (l : Launch) (Z : State) (a0 : Array Value) (hw : ∀ d ∈ tables_1, d.before a0 Z = true) (ws : List Jvm.Cond) (vj0 : Int64) (h0 : Heap) (n0 : Nat) (Z0 : n0 ≤ h0.size) (hc5 : ¬ ((lcmpW vj0 (9007199254740992 : Int64)) < (0 : Int32))) (hc15 : ¬ ((lcmpW (vj0 &&& (1 : Int64)) (0 : Int64)) = (0 : Int32))) :
    MetFree l (⟨"com/example/castellan/castellan/BoundsPlusPinLaw", "up", "(J)J"⟩ : MethodName) (head1 (Jvm.Cond.code (⟨"com/example/castellan/castellan/BoundsPlusPinLaw", "up", "(J)J"⟩ : MethodName) method_3_code 2 (some .long) :: ws) ({ frames := 0, cells := 0, slots := 0, locals := 0 } : Room)) (fun a U => a = #[(.long vj0)] ∧ Z.Warmed39 U.vm ∧ U.heap = h0) (fun _ _ _ _ _ => True) (fun _ U o U' => ∃ v L, o = .returned v ∧ Q9_uptt Z vj0 h0 n0 v U'.heap L ∧ FrameEnd U o U' L ({ frames := 0, cells := 0, slots := 0, locals := 0 } : Room).cells ({ frames := 0, cells := 0, slots := 0, locals := 0 } : Room).slots) := by
  refine MetFree.of_bodySF (plainFor_of_name pn_com_example_castellan_castellan_BoundsPlusPinLaw) hisR ?_
  intro p e s m args below meth c s₁ Bd hml0 hP hK
  obtain ⟨rfl, hZ, hh⟩ := hP
  have hx := Bd.exec
  have hby := Bd.bytes
  have hml : c.maxLocals = 2 := hml0
  have hown : s.vm.findClass "com/example/castellan/castellan/BoundsPlusPinLaw" = some m.cls := findClass_of_methodNamed Bd.named
  have hnm := (name_of_methodNamed Bd.named Bd.method).1
  have X0 : Stand p l e ({ frames := 0, cells := 0, slots := 0, locals := 0 } : Room) s m #[(.long vj0)] below meth c s₁ [] 0 0 := Stand.of_body Bd
  have e0 : s₁.heap = h0 := by rw [← hh, Bd.state]; rfl
  have N0 := Fr.nil n0
  have pre0 : ∀ t, Steps p.tables e below (s₁.setTop (mkF m 0 #[.val (.long vj0), .second] [])) t → Steps p.tables e below (s₁.setTop (entryFrame m #[(.long vj0)] 2)) t := fun t k => castTop (ef_9_uptt m vj0) k
  obtain ⟨fs, hr, hrun, hended, hW, hsame⟩ := X0.leave (v := some (.long (vj0 + (1 : Int64)))) (fun h => by rw [Bd.returns] at h; cases h)
  refine ⟨_, _, pre0 _ ?_, hrun, hended, _, _, rfl, ?_, ⟨_, rfl⟩, hW, hsame.mono (by decide) (by decide)⟩
  · show Steps p.tables e below (s₁.setTop (mkF m 0 #[.val (.long vj0), .second] [])) _
    refine XS.lloadN X0.here hx rfl (hb hby d9_0) rfl ?_
    show Steps p.tables e below (s₁.setTop (mkF m 1 #[.val (.long vj0), .second] [(.long vj0)])) _
    refine X0.ldc2Long hx hown (mvT hZ (wd_43 hw)) (g := (mkF m 1 #[.val (.long vj0), .second] [(.long vj0)])) rfl (hb hby d9_1) _ ?_
    show Steps p.tables e below (s₁.setTop (mkF m 4 #[.val (.long vj0), .second] [(.long (9007199254740992 : Int64)), (.long vj0)])) _
    refine XS.lcmp X0.here hx rfl (hb hby d9_4) rfl ?_
    show Steps p.tables e below (s₁.setTop (mkF m 5 #[.val (.long vj0), .second] [(.int (lcmpW vj0 (9007199254740992 : Int64)))])) _
    refine XS.ifYes X0.here hx rfl (pc0 := 5) (pc' := 10) rfl (hb hby d9_5) rfl ((if0 _ _).trans (flt hc5).2.1) (by decide) (by decide) ?_
    show Steps p.tables e below (s₁.setTop (mkF m 10 #[.val (.long vj0), .second] [])) _
    refine XS.lloadN X0.here hx rfl (hb hby d9_10) rfl ?_
    show Steps p.tables e below (s₁.setTop (mkF m 11 #[.val (.long vj0), .second] [(.long vj0)])) _
    refine XS.lconst X0.here hx rfl (hb hby d9_11) ?_
    show Steps p.tables e below (s₁.setTop (mkF m 12 #[.val (.long vj0), .second] [(.long (1 : Int64)), (.long vj0)])) _
    refine XS.land X0.here hx rfl (hb hby d9_12) rfl ?_
    show Steps p.tables e below (s₁.setTop (mkF m 13 #[.val (.long vj0), .second] [(.long (vj0 &&& (1 : Int64)))])) _
    refine XS.lconst X0.here hx rfl (hb hby d9_13) ?_
    show Steps p.tables e below (s₁.setTop (mkF m 14 #[.val (.long vj0), .second] [(.long (0 : Int64)), (.long (vj0 &&& (1 : Int64)))])) _
    refine XS.lcmp X0.here hx rfl (hb hby d9_14) rfl ?_
    show Steps p.tables e below (s₁.setTop (mkF m 15 #[.val (.long vj0), .second] [(.int (lcmpW (vj0 &&& (1 : Int64)) (0 : Int64)))])) _
    refine XS.ifYes X0.here hx rfl (pc0 := 15) (pc' := 20) rfl (hb hby d9_15) rfl ((if0 _ _).trans (feq hc15).2) (by decide) (by decide) ?_
    show Steps p.tables e below (s₁.setTop (mkF m 20 #[.val (.long vj0), .second] [])) _
    refine XS.lloadN X0.here hx rfl (hb hby d9_20) rfl ?_
    show Steps p.tables e below (s₁.setTop (mkF m 21 #[.val (.long vj0), .second] [(.long vj0)])) _
    refine XS.lconst X0.here hx rfl (hb hby d9_21) ?_
    show Steps p.tables e below (s₁.setTop (mkF m 22 #[.val (.long vj0), .second] [(.long (1 : Int64)), (.long vj0)])) _
    refine XS.ladd X0.here hx rfl (hb hby d9_22) rfl ?_
    show Steps p.tables e below (s₁.setTop (mkF m 23 #[.val (.long vj0), .second] [(.long (vj0 + (1 : Int64)))])) _
    jvm_step X0.here [X0.here.top, hx, (hb hby d9_23), X0.method', Bd.returns, narrow]
    first | (intro acts; rw [hr _ acts rfl rfl rfl]) | rw [hr _ _ rfl rfl rfl]
    exact Steps.refl _
  · show Q9_uptt Z vj0 h0 n0 _ s₁.heap _
    rw [e0]
    exact ⟨(congrArg (fun z => some (Value.long z)) ((if_neg hc5).trans (if_neg hc15)).symm), N0, rfl⟩
def Q_up (Z : State) (vj0 : Int64) (h0 : Heap) (n0 : Nat) (v : Option Value) (h : Heap) (L : List Loc) : Prop := v = some (.long (own_up vj0)) ∧ Fr n0 L ∧ h = h0
set_option maxRecDepth 65536 in
set_option maxHeartbeats 4000000 in
theorem rm_up (l : Launch) (Z : State) (a0 : Array Value) (hw : ∀ d ∈ tables_1, d.before a0 Z = true) (ws : List Jvm.Cond) (vj0 : Int64) (h0 : Heap) (n0 : Nat) (Z0 : n0 ≤ h0.size)  :
    MetFree l (⟨"com/example/castellan/castellan/BoundsPlusPinLaw", "up", "(J)J"⟩ : MethodName) (head1 (Jvm.Cond.code (⟨"com/example/castellan/castellan/BoundsPlusPinLaw", "up", "(J)J"⟩ : MethodName) method_3_code 2 (some .long) :: ws) ({ frames := 0, cells := 0, slots := 0, locals := 0 } : Room)) (fun a U => a = #[(.long vj0)] ∧ Z.Warmed39 U.vm ∧ U.heap = h0) (fun _ _ _ _ _ => True) (fun _ U o U' => ∃ v L, o = .returned v ∧ Q_up Z vj0 h0 n0 v U'.heap L ∧ FrameEnd U o U' L ({ frames := 0, cells := 0, slots := 0, locals := 0 } : Room).cells ({ frames := 0, cells := 0, slots := 0, locals := 0 } : Room).slots) := by
  by_cases hc5 : (lcmpW vj0 (9007199254740992 : Int64)) < (0 : Int32)
  · exact rm9_upf l Z a0 hw ws vj0 h0 n0 Z0 hc5
  · by_cases hc15 : (lcmpW (vj0 &&& (1 : Int64)) (0 : Int64)) = (0 : Int32)
    · exact rm9_uptf l Z a0 hw ws vj0 h0 n0 Z0 hc5 hc15
    · exact rm9_uptt l Z a0 hw ws vj0 h0 n0 Z0 hc5 hc15
theorem d4_0 : decode prog_8_method_2_code 0 = .ok (.new 8, 3) := by decide +kernel
theorem wd_28 {Z : State} {a0 : Array Value} (hw : ∀ d ∈ tables_1, d.before a0 Z = true) : ((Jvm.Cond.classLink "com/example/castellan/castellan/ProgressTracker$Bounds" (8 : Nat) "com/example/castellan/castellan/ProgressTracker$Bounds")).before a0 Z = true := hw _ (List.mem_of_getElem? (i := 28) rfl)
theorem d4_3 : decode prog_8_method_2_code 3 = .ok (.dup, 1) := by decide +kernel
theorem d4_4 : decode prog_8_method_2_code 4 = .ok (.aload_n 0, 1) := by decide +kernel
theorem d4_5 : decode prog_8_method_2_code 5 = .ok (.getfield 7, 3) := by decide +kernel
theorem d4_8 : decode prog_8_method_2_code 8 = .ok (.aload_n 1, 1) := by decide +kernel
theorem d4_9 : decode prog_8_method_2_code 9 = .ok (.getfield 7, 3) := by decide +kernel
theorem d4_12 : decode prog_8_method_2_code 12 = .ok (.invokestatic 16, 3) := by decide +kernel
theorem wd_29 {Z : State} {a0 : Array Value} (hw : ∀ d ∈ tables_1, d.before a0 Z = true) : ((Jvm.Cond.methodLink "com/example/castellan/castellan/ProgressTracker$Bounds" (16 : Nat) ({ cls := "com/example/castellan/castellan/ProgressTracker$Bounds", name := "sumDown", desc := "(DD)D" } : Jvm.MethodName))).before a0 Z = true := hw _ (List.mem_of_getElem? (i := 29) rfl)
theorem wd_31 {Z : State} {a0 : Array Value} (hw : ∀ d ∈ tables_1, d.before a0 Z = true) : ((Jvm.Cond.code ({ cls := "com/example/castellan/castellan/ProgressTracker$Bounds", name := "sumDown", desc := "(DD)D" } : Jvm.MethodName) prog_8_method_8_code (6 : Nat) (Option.some Jvm.ClassFile.FieldType.double))).before a0 Z = true := hw _ (List.mem_of_getElem? (i := 31) rfl)
theorem pd_3 : parseMethodDescriptor "(DD)D" = some ⟨[.double, .double], some .double⟩ := by decide +kernel
theorem wd_30 {Z : State} {a0 : Array Value} (hw : ∀ d ∈ tables_1, d.before a0 Z = true) : ((Jvm.Cond.static ({ cls := "com/example/castellan/castellan/ProgressTracker$Bounds", name := "sumDown", desc := "(DD)D" } : Jvm.MethodName))).before a0 Z = true := hw _ (List.mem_of_getElem? (i := 30) rfl)
theorem d4_15 : decode prog_8_method_2_code 15 = .ok (.aload_n 0, 1) := by decide +kernel
theorem d4_16 : decode prog_8_method_2_code 16 = .ok (.getfield 13, 3) := by decide +kernel
theorem d4_19 : decode prog_8_method_2_code 19 = .ok (.aload_n 1, 1) := by decide +kernel
theorem d4_20 : decode prog_8_method_2_code 20 = .ok (.getfield 13, 3) := by decide +kernel
theorem d4_23 : decode prog_8_method_2_code 23 = .ok (.invokestatic 20, 3) := by decide +kernel
theorem wd_35 {Z : State} {a0 : Array Value} (hw : ∀ d ∈ tables_1, d.before a0 Z = true) : ((Jvm.Cond.methodLink "com/example/castellan/castellan/ProgressTracker$Bounds" (20 : Nat) ({ cls := "com/example/castellan/castellan/ProgressTracker$Bounds", name := "sumUp", desc := "(DD)D" } : Jvm.MethodName))).before a0 Z = true := hw _ (List.mem_of_getElem? (i := 35) rfl)
theorem wd_37 {Z : State} {a0 : Array Value} (hw : ∀ d ∈ tables_1, d.before a0 Z = true) : ((Jvm.Cond.code ({ cls := "com/example/castellan/castellan/ProgressTracker$Bounds", name := "sumUp", desc := "(DD)D" } : Jvm.MethodName) prog_8_method_9_code (6 : Nat) (Option.some Jvm.ClassFile.FieldType.double))).before a0 Z = true := hw _ (List.mem_of_getElem? (i := 37) rfl)
theorem wd_36 {Z : State} {a0 : Array Value} (hw : ∀ d ∈ tables_1, d.before a0 Z = true) : ((Jvm.Cond.static ({ cls := "com/example/castellan/castellan/ProgressTracker$Bounds", name := "sumUp", desc := "(DD)D" } : Jvm.MethodName))).before a0 Z = true := hw _ (List.mem_of_getElem? (i := 36) rfl)
theorem d4_26 : decode prog_8_method_2_code 26 = .ok (.invokespecial 23, 3) := by decide +kernel
theorem wd_38 {Z : State} {a0 : Array Value} (hw : ∀ d ∈ tables_1, d.before a0 Z = true) : ((Jvm.Cond.methodLink "com/example/castellan/castellan/ProgressTracker$Bounds" (23 : Nat) ({ cls := "com/example/castellan/castellan/ProgressTracker$Bounds", name := "<init>", desc := "(DD)V" } : Jvm.MethodName))).before a0 Z = true := hw _ (List.mem_of_getElem? (i := 38) rfl)
theorem wd_10 {Z : State} {a0 : Array Value} (hw : ∀ d ∈ tables_1, d.before a0 Z = true) : ((Jvm.Cond.code ({ cls := "com/example/castellan/castellan/ProgressTracker$Bounds", name := "<init>", desc := "(DD)V" } : Jvm.MethodName) prog_8_method_1_code (5 : Nat) (Option.none : Option Jvm.ClassFile.FieldType))).before a0 Z = true := hw _ (List.mem_of_getElem? (i := 10) rfl)
theorem pd_0 : parseMethodDescriptor "(DD)V" = some ⟨[.double, .double], none⟩ := by decide +kernel
theorem wd_9 {Z : State} {a0 : Array Value} (hw : ∀ d ∈ tables_1, d.before a0 Z = true) : ((Jvm.Cond.instanceMethod ({ cls := "com/example/castellan/castellan/ProgressTracker$Bounds", name := "<init>", desc := "(DD)V" } : Jvm.MethodName))).before a0 Z = true := hw _ (List.mem_of_getElem? (i := 9) rfl)
theorem d4_29 : decode prog_8_method_2_code 29 = .ok (.areturn, 1) := by decide +kernel
theorem ef_4 (m : MethodId) (x0 : Addr) (x1 : Addr) : entryFrame m #[(.ref x0), (.ref x1)] 2 = mkF m 0 #[.val (.ref x0), .val (.ref x1)] [] := by first | (simp [entryFrame, mkF, argsToLocals, Value.category]; done) | rfl
def Q4 (Z : State) (vr0 : Addr) (vr1 : Addr) (w_low_vr0 : UInt64) (w_low_vr1 : UInt64) (w_high_vr0 : UInt64) (w_high_vr1 : UInt64) (h0 : Heap) (n0 : Nat) (v : Option Value) (h : Heap) (L : List Loc) : Prop := ∃ r : Addr, v = some (.ref r) ∧ Fr n0 L ∧ Keep h0 h [] ∧ h0.size ≤ r ∧ Exa Z h r "com/example/castellan/castellan/ProgressTracker$Bounds" ∧ Fld Z h r "com/example/castellan/castellan/ProgressTracker$Bounds" "low" "D" (.double (own_sd w_low_vr0 w_low_vr1)) ∧ Fld Z h r "com/example/castellan/castellan/ProgressTracker$Bounds" "high" "D" (.double (own_su w_high_vr0 w_high_vr1))
set_option maxRecDepth 65536 in
set_option maxHeartbeats 40000000 in
theorem rm4 (l : Launch) (Z : State) (a0 : Array Value) (hw : ∀ d ∈ tables_1, d.before a0 Z = true) (ws : List Jvm.Cond) (vr0 : Addr) (vr1 : Addr) (w_low_vr0 : UInt64) (w_low_vr1 : UInt64) (w_high_vr0 : UInt64) (w_high_vr1 : UInt64) (h0 : Heap) (n0 : Nat) (Z0 : n0 ≤ h0.size) (F_low_vr0 : Fld Z h0 vr0 "com/example/castellan/castellan/ProgressTracker$Bounds" "low" "D" (.double w_low_vr0)) (F_low_vr1 : Fld Z h0 vr1 "com/example/castellan/castellan/ProgressTracker$Bounds" "low" "D" (.double w_low_vr1)) (hok : own_ok_sd w_low_vr0 w_low_vr1) (F_high_vr0 : Fld Z h0 vr0 "com/example/castellan/castellan/ProgressTracker$Bounds" "high" "D" (.double w_high_vr0)) (F_high_vr1 : Fld Z h0 vr1 "com/example/castellan/castellan/ProgressTracker$Bounds" "high" "D" (.double w_high_vr1)) (c23_hok : own_ok_su w_high_vr0 w_high_vr1) :
    MetFree l (⟨"com/example/castellan/castellan/ProgressTracker$Bounds", "plus", "(Lcom/example/castellan/castellan/ProgressTracker$Bounds;)Lcom/example/castellan/castellan/ProgressTracker$Bounds;"⟩ : MethodName) (head1 (Jvm.Cond.code (⟨"com/example/castellan/castellan/ProgressTracker$Bounds", "plus", "(Lcom/example/castellan/castellan/ProgressTracker$Bounds;)Lcom/example/castellan/castellan/ProgressTracker$Bounds;"⟩ : MethodName) prog_8_method_2_code 2 (some (.object "com/example/castellan/castellan/ProgressTracker$Bounds")) :: ws) ({ frames := 3, cells := 1, slots := 2, locals := 51 } : Room)) (fun a U => a = #[(.ref vr0), (.ref vr1)] ∧ Z.Warmed39 U.vm ∧ U.heap = h0) (fun _ _ _ _ _ => True) (fun _ U o U' => ∃ v L, o = .returned v ∧ Q4 Z vr0 vr1 w_low_vr0 w_low_vr1 w_high_vr0 w_high_vr1 h0 n0 v U'.heap L ∧ FrameEnd U o U' L ({ frames := 3, cells := 1, slots := 2, locals := 51 } : Room).cells ({ frames := 3, cells := 1, slots := 2, locals := 51 } : Room).slots) := by
  refine MetFree.of_bodySF (plainFor_of_name pn_com_example_castellan_castellan_ProgressTracker_Bounds) hisR ?_
  intro p e s m args below meth c s₁ Bd hml0 hP hK
  obtain ⟨rfl, hZ, hh⟩ := hP
  have hx := Bd.exec
  have hby := Bd.bytes
  have hml : c.maxLocals = 2 := hml0
  have hown : s.vm.findClass "com/example/castellan/castellan/ProgressTracker$Bounds" = some m.cls := findClass_of_methodNamed Bd.named
  have hnm := (name_of_methodNamed Bd.named Bd.method).1
  have X0 : Stand p l e ({ frames := 3, cells := 1, slots := 2, locals := 51 } : Room) s m #[(.ref vr0), (.ref vr1)] below meth c s₁ [] 0 0 := Stand.of_body Bd
  have e0 : s₁.heap = h0 := by rw [← hh, Bd.state]; rfl
  have N0 := Fr.nil n0
  have pre0 : ∀ t, Steps p.tables e below (s₁.setTop (mkF m 0 #[.val (.ref vr0), .val (.ref vr1)] [])) t → Steps p.tables e below (s₁.setTop (entryFrame m #[(.ref vr0), (.ref vr1)] 2)) t := fun t k => castTop (ef_4 m vr0 vr1) k
  obtain ⟨T1, h1, X1, e1, E1, A1, D1, -, st1⟩ := newO X0 hx hZ hown (wd_28 hw) (wd_6 hw) (wd_7 hw) e0 (g := (mkF m 0 #[.val (.ref vr0), .val (.ref vr1)] [])) rfl (hb hby d4_0) (by decide) (by decide)
  obtain ⟨b1, g1⟩ : ∃ z, z = h0.size := ⟨_, rfl⟩
  rw [← g1] at A1 D1 st1
  have g_b1 : n0 ≤ b1 := Nat.le_trans Z0 (Nat.le_of_eq g1.symm)
  have sz_b1 : h0.size ≤ b1 := Nat.le_trans (Keep.refl h0 []).1 (Nat.le_of_eq g1.symm)
  have K1 : Keep h0 h1 [] := (Keep.refl h0 []).ext E1
  have F_low_b1 : Fld Z h1 b1 "com/example/castellan/castellan/ProgressTracker$Bounds" "low" "D" (.double (0 : UInt64)) := D1 (Or.inr (wd_20 hw)) (ty := .double) (by decide)
  have F_high_b1 : Fld Z h1 b1 "com/example/castellan/castellan/ProgressTracker$Bounds" "high" "D" (.double (0 : UInt64)) := D1 (Or.inr (wd_22 hw)) (ty := .double) (by decide)
  obtain ⟨T2, X2, e2, st2⟩ := getF X1 hx hZ hown (host := "") (Or.inl (wd_19 hw)) Via.refl e1 (F_low_vr0.ext E1) (g := (mkF m 5 #[.val (.ref vr0), .val (.ref vr1)] [(.ref vr0), (.ref b1), (.ref b1)])) rfl rfl (hb hby d4_5)
  obtain ⟨T3, X3, e3, st3⟩ := getF X2 hx hZ hown (host := "") (Or.inl (wd_19 hw)) Via.refl e2 (F_low_vr1.ext E1) (g := (mkF m 9 #[.val (.ref vr0), .val (.ref vr1)] [(.ref vr1), (.double w_low_vr0), (.ref b1), (.ref b1)])) rfl rfl (hb hby d4_9)
  obtain ⟨_, _, ⟨T4, L4, k4, n4⟩, -, X4, ⟨Lc4, hQ4, l4, y4, z4⟩, st4⟩ := Jvm.LawKit.callS X3 hx (y := (⟨"com/example/castellan/castellan/ProgressTracker$Bounds", "sumDown", "(DD)D"⟩ : MethodName)) hown (mvT hZ (wd_29 hw)) (mvT hZ (wd_30 hw)) (mvT hZ (wd_7 hw)) (mvT hZ (wd_31 hw)) (by decide) (backOf (W := 2) (rm_sd l Z a0 hw [] w_low_vr0 w_low_vr1 h1 n0 (Nat.le_trans Z0 E1.1) hok) hZ (wd_31 hw) (wd_7 hw) (by decide) (by decide)) (g := (mkF m 12 #[.val (.ref vr0), .val (.ref vr1)] [(.double w_low_vr1), (.double w_low_vr0), (.ref b1), (.ref b1)])) rfl (by rw [hml]; rfl) (argsL := [(.double w_low_vr0), (.double w_low_vr1)]) (rest := [(.ref b1), (.ref b1)]) (lenOf pd_3 rfl) rfl (by show 2 * 0 + _ ≤ _; exact Nat.le_of_eq rfl) (hb hby d4_12) (fun _ _ => ⟨rfl, e3, (by decide : 1 + 0 ≤ _), (by decide : 2 + 0 ≤ _)⟩)
  dsimp only [Pt.U, Pt.locs, Pt.cells, Pt.slots] at X4 l4 y4 z4 st4 hQ4
  subst l4 y4 z4
  obtain ⟨rfl, N4q, p4_0⟩ := hQ4
  have N4 := Fr.app N0 N4q
  have e4 : T4.heap = h1 := p4_0
  obtain ⟨T5, X5, e5, st5⟩ := getF X4 hx hZ hown (host := "") (Or.inl (wd_21 hw)) Via.refl e4 (F_high_vr0.ext E1) (g := (mkF m 16 #[.val (.ref vr0), .val (.ref vr1)] [(.ref vr0), (.double (own_sd w_low_vr0 w_low_vr1)), (.ref b1), (.ref b1)])) rfl rfl (hb hby d4_16)
  obtain ⟨T6, X6, e6, st6⟩ := getF X5 hx hZ hown (host := "") (Or.inl (wd_21 hw)) Via.refl e5 (F_high_vr1.ext E1) (g := (mkF m 20 #[.val (.ref vr0), .val (.ref vr1)] [(.ref vr1), (.double w_high_vr0), (.double (own_sd w_low_vr0 w_low_vr1)), (.ref b1), (.ref b1)])) rfl rfl (hb hby d4_20)
  obtain ⟨_, _, ⟨T7, L7, k7, n7⟩, -, X7, ⟨Lc7, hQ7, l7, y7, z7⟩, st7⟩ := Jvm.LawKit.callS X6 hx (y := (⟨"com/example/castellan/castellan/ProgressTracker$Bounds", "sumUp", "(DD)D"⟩ : MethodName)) hown (mvT hZ (wd_35 hw)) (mvT hZ (wd_36 hw)) (mvT hZ (wd_7 hw)) (mvT hZ (wd_37 hw)) (by decide) (backOf (W := 4) (rm_su l Z a0 hw [] w_high_vr0 w_high_vr1 h1 n0 (Nat.le_trans Z0 E1.1) c23_hok) hZ (wd_37 hw) (wd_7 hw) (by decide) (by decide)) (g := (mkF m 23 #[.val (.ref vr0), .val (.ref vr1)] [(.double w_high_vr1), (.double w_high_vr0), (.double (own_sd w_low_vr0 w_low_vr1)), (.ref b1), (.ref b1)])) rfl (by rw [hml]; rfl) (argsL := [(.double w_high_vr0), (.double w_high_vr1)]) (rest := [(.double (own_sd w_low_vr0 w_low_vr1)), (.ref b1), (.ref b1)]) (lenOf pd_3 rfl) rfl (by show 2 * 0 + _ ≤ _; exact Nat.le_of_eq rfl) (hb hby d4_23) (fun _ _ => ⟨rfl, e6, (by decide : 1 + 0 ≤ _), (by decide : 2 + 0 ≤ _)⟩)
  dsimp only [Pt.U, Pt.locs, Pt.cells, Pt.slots] at X7 l7 y7 z7 st7 hQ7
  subst l7 y7 z7
  obtain ⟨rfl, N7q, p7_0⟩ := hQ7
  have N7 := Fr.app N4 N7q
  have e7 : T7.heap = h1 := p7_0
  obtain ⟨_, _, ⟨T8, L8, k8, n8⟩, -, X8, ⟨Lc8, hQ8, l8, y8, z8⟩, st8⟩ := X7.specialBack hx (y := (⟨"com/example/castellan/castellan/ProgressTracker$Bounds", "<init>", "(DD)V"⟩ : MethodName)) rfl hown (mvT hZ (wd_38 hw)) (mvT hZ (wd_9 hw)) (mvT hZ (wd_10 hw)) (by decide) (backOf (W := 1) (rm1 l Z a0 hw [] b1 (own_sd w_low_vr0 w_low_vr1) (own_su w_high_vr0 w_high_vr1) (.double (0 : UInt64)) (.double (0 : UInt64)) h1 n0 (Nat.le_trans Z0 E1.1) A1 F_low_b1 g_b1 F_high_b1) hZ (wd_10 hw) (wd_7 hw) (by decide) (by decide)) (g := (mkF m 26 #[.val (.ref vr0), .val (.ref vr1)] [(.double (own_su w_high_vr0 w_high_vr1)), (.double (own_sd w_low_vr0 w_low_vr1)), (.ref b1), (.ref b1)])) rfl (by rw [hml]; rfl) (Steps.refl _) (a := b1) (argsL := [(.double (own_sd w_low_vr0 w_low_vr1)), (.double (own_su w_high_vr0 w_high_vr1))]) (rest := [(.ref b1)]) (lenOf pd_0 rfl) rfl (by show 2 * 0 + _ ≤ _; exact Nat.le_of_eq rfl) (hb hby d4_26) (fun _ _ => ⟨rfl, e7, (by decide : 1 + 0 ≤ _), (by decide : 2 + 0 ≤ _)⟩)
  dsimp only [Pt.U, Pt.locs, Pt.cells, Pt.slots] at X8 l8 y8 z8 st8 hQ8
  subst l8 y8 z8
  obtain ⟨rfl, N8q, p8_0, p8_1, p8_2⟩ := hQ8
  have N8 := Fr.app N7 N8q
  have K8 : Keep h0 T8.heap [] := K1.trans p8_0 (allS (Or.inr sz_b1) all0)
  obtain ⟨fs, hr, hrun, hended, hW, hsame⟩ := X8.leave (v := some (.ref b1)) (fun h => by rw [Bd.returns] at h; cases h)
  refine ⟨_, _, pre0 _ ?_, hrun, hended, _, _, rfl, ?_, ⟨_, rfl⟩, hW, hsame.mono (by decide) (by decide)⟩
  · show Steps p.tables e below (s₁.setTop (mkF m 0 #[.val (.ref vr0), .val (.ref vr1)] [])) _
    refine st1 _ ?_
    show Steps p.tables e below (T1.setTop (mkF m 3 #[.val (.ref vr0), .val (.ref vr1)] [(.ref b1)])) _
    refine XS.dup X1.here hx rfl (hb hby d4_3) rfl rfl ?_
    show Steps p.tables e below (T1.setTop (mkF m 4 #[.val (.ref vr0), .val (.ref vr1)] [(.ref b1), (.ref b1)])) _
    refine XS.aloadN X1.here hx rfl (hb hby d4_4) rfl rfl ?_
    show Steps p.tables e below (T1.setTop (mkF m 5 #[.val (.ref vr0), .val (.ref vr1)] [(.ref vr0), (.ref b1), (.ref b1)])) _
    refine st2 _ ?_
    show Steps p.tables e below (T2.setTop (mkF m 8 #[.val (.ref vr0), .val (.ref vr1)] [(.double w_low_vr0), (.ref b1), (.ref b1)])) _
    refine XS.aloadN X2.here hx rfl (hb hby d4_8) rfl rfl ?_
    show Steps p.tables e below (T2.setTop (mkF m 9 #[.val (.ref vr0), .val (.ref vr1)] [(.ref vr1), (.double w_low_vr0), (.ref b1), (.ref b1)])) _
    refine st3 _ ?_
    show Steps p.tables e below (T3.setTop (mkF m 12 #[.val (.ref vr0), .val (.ref vr1)] [(.double w_low_vr1), (.double w_low_vr0), (.ref b1), (.ref b1)])) _
    refine st4 _ ?_
    show Steps p.tables e below (T4.setTop (mkF m 15 #[.val (.ref vr0), .val (.ref vr1)] [(.double (own_sd w_low_vr0 w_low_vr1)), (.ref b1), (.ref b1)])) _
    refine XS.aloadN X4.here hx rfl (hb hby d4_15) rfl rfl ?_
    show Steps p.tables e below (T4.setTop (mkF m 16 #[.val (.ref vr0), .val (.ref vr1)] [(.ref vr0), (.double (own_sd w_low_vr0 w_low_vr1)), (.ref b1), (.ref b1)])) _
    refine st5 _ ?_
    show Steps p.tables e below (T5.setTop (mkF m 19 #[.val (.ref vr0), .val (.ref vr1)] [(.double w_high_vr0), (.double (own_sd w_low_vr0 w_low_vr1)), (.ref b1), (.ref b1)])) _
    refine XS.aloadN X5.here hx rfl (hb hby d4_19) rfl rfl ?_
    show Steps p.tables e below (T5.setTop (mkF m 20 #[.val (.ref vr0), .val (.ref vr1)] [(.ref vr1), (.double w_high_vr0), (.double (own_sd w_low_vr0 w_low_vr1)), (.ref b1), (.ref b1)])) _
    refine st6 _ ?_
    show Steps p.tables e below (T6.setTop (mkF m 23 #[.val (.ref vr0), .val (.ref vr1)] [(.double w_high_vr1), (.double w_high_vr0), (.double (own_sd w_low_vr0 w_low_vr1)), (.ref b1), (.ref b1)])) _
    refine st7 _ ?_
    show Steps p.tables e below (T7.setTop (mkF m 26 #[.val (.ref vr0), .val (.ref vr1)] [(.double (own_su w_high_vr0 w_high_vr1)), (.double (own_sd w_low_vr0 w_low_vr1)), (.ref b1), (.ref b1)])) _
    refine st8.trans ?_
    show Steps p.tables e below (T8.setTop (mkF m 29 #[.val (.ref vr0), .val (.ref vr1)] [(.ref b1)])) _
    jvm_step X8.here [X8.here.top, hx, (hb hby d4_29), X8.method', Bd.returns, Value.isRef, FieldType.isReference]
    first | (intro acts; rw [hr _ acts rfl rfl rfl]) | rw [hr _ _ rfl rfl rfl]
    exact Steps.refl _
  · show Q4 Z vr0 vr1 w_low_vr0 w_low_vr1 w_high_vr0 w_high_vr1 h0 n0 _ T8.heap _
    exact ⟨b1, rfl, N8, K8, sz_b1, (A1.keep p8_0), p8_1, p8_2⟩
theorem d10_0 : decode prog_8_method_18_code 0 = .ok (.aload_n 0, 1) := by decide +kernel
theorem d10_1 : decode prog_8_method_18_code 1 = .ok (.getfield 7, 3) := by decide +kernel
theorem d10_4 : decode prog_8_method_18_code 4 = .ok (.dreturn, 1) := by decide +kernel
theorem ef_10 (m : MethodId) (x0 : Addr) : entryFrame m #[(.ref x0)] 1 = mkF m 0 #[.val (.ref x0)] [] := by first | (simp [entryFrame, mkF, argsToLocals, Value.category]; done) | rfl
def Q10 (Z : State) (vr0 : Addr) (w_low_vr0 : UInt64) (h0 : Heap) (n0 : Nat) (v : Option Value) (h : Heap) (L : List Loc) : Prop := v = some (.double w_low_vr0) ∧ Fr n0 L ∧ h = h0
set_option maxRecDepth 65536 in
set_option maxHeartbeats 40000000 in
theorem rm10 (l : Launch) (Z : State) (a0 : Array Value) (hw : ∀ d ∈ tables_1, d.before a0 Z = true) (ws : List Jvm.Cond) (vr0 : Addr) (w_low_vr0 : UInt64) (h0 : Heap) (n0 : Nat) (Z0 : n0 ≤ h0.size) (F_low_vr0 : Fld Z h0 vr0 "com/example/castellan/castellan/ProgressTracker$Bounds" "low" "D" (.double w_low_vr0)) :
    MetFree l (⟨"com/example/castellan/castellan/ProgressTracker$Bounds", "low", "()D"⟩ : MethodName) (head1 (Jvm.Cond.code (⟨"com/example/castellan/castellan/ProgressTracker$Bounds", "low", "()D"⟩ : MethodName) prog_8_method_18_code 1 (some .double) :: ws) ({ frames := 0, cells := 0, slots := 0, locals := 0 } : Room)) (fun a U => a = #[(.ref vr0)] ∧ Z.Warmed39 U.vm ∧ U.heap = h0) (fun _ _ _ _ _ => True) (fun _ U o U' => ∃ v L, o = .returned v ∧ Q10 Z vr0 w_low_vr0 h0 n0 v U'.heap L ∧ FrameEnd U o U' L ({ frames := 0, cells := 0, slots := 0, locals := 0 } : Room).cells ({ frames := 0, cells := 0, slots := 0, locals := 0 } : Room).slots) := by
  refine MetFree.of_bodySF (plainFor_of_name pn_com_example_castellan_castellan_ProgressTracker_Bounds) hisR ?_
  intro p e s m args below meth c s₁ Bd hml0 hP hK
  obtain ⟨rfl, hZ, hh⟩ := hP
  have hx := Bd.exec
  have hby := Bd.bytes
  have hml : c.maxLocals = 1 := hml0
  have hown : s.vm.findClass "com/example/castellan/castellan/ProgressTracker$Bounds" = some m.cls := findClass_of_methodNamed Bd.named
  have hnm := (name_of_methodNamed Bd.named Bd.method).1
  have X0 : Stand p l e ({ frames := 0, cells := 0, slots := 0, locals := 0 } : Room) s m #[(.ref vr0)] below meth c s₁ [] 0 0 := Stand.of_body Bd
  have e0 : s₁.heap = h0 := by rw [← hh, Bd.state]; rfl
  have N0 := Fr.nil n0
  have pre0 : ∀ t, Steps p.tables e below (s₁.setTop (mkF m 0 #[.val (.ref vr0)] [])) t → Steps p.tables e below (s₁.setTop (entryFrame m #[(.ref vr0)] 1)) t := fun t k => castTop (ef_10 m vr0) k
  obtain ⟨T1, X1, e1, st1⟩ := getF X0 hx hZ hown (host := "") (Or.inl (wd_19 hw)) Via.refl e0 F_low_vr0 (g := (mkF m 1 #[.val (.ref vr0)] [(.ref vr0)])) rfl rfl (hb hby d10_1)
  obtain ⟨fs, hr, hrun, hended, hW, hsame⟩ := X1.leave (v := some (.double w_low_vr0)) (fun h => by rw [Bd.returns] at h; cases h)
  refine ⟨_, _, pre0 _ ?_, hrun, hended, _, _, rfl, ?_, ⟨_, rfl⟩, hW, hsame.mono (by decide) (by decide)⟩
  · show Steps p.tables e below (s₁.setTop (mkF m 0 #[.val (.ref vr0)] [])) _
    refine XS.aloadN X0.here hx rfl (hb hby d10_0) rfl rfl ?_
    show Steps p.tables e below (s₁.setTop (mkF m 1 #[.val (.ref vr0)] [(.ref vr0)])) _
    refine st1 _ ?_
    show Steps p.tables e below (T1.setTop (mkF m 4 #[.val (.ref vr0)] [(.double w_low_vr0)])) _
    exact retOut X1 hx Bd.returns rfl (Or.inr (Or.inr (Or.inl ⟨rfl, rfl, _, rfl⟩))) (hb hby d10_4) hr
  · show Q10 Z vr0 w_low_vr0 h0 n0 _ T1.heap _
    rw [e1]
    exact ⟨rfl, N0, rfl⟩
theorem d11_0 : decode prog_8_method_19_code 0 = .ok (.aload_n 0, 1) := by decide +kernel
theorem d11_1 : decode prog_8_method_19_code 1 = .ok (.getfield 13, 3) := by decide +kernel
theorem d11_4 : decode prog_8_method_19_code 4 = .ok (.dreturn, 1) := by decide +kernel
theorem ef_11 (m : MethodId) (x0 : Addr) : entryFrame m #[(.ref x0)] 1 = mkF m 0 #[.val (.ref x0)] [] := by first | (simp [entryFrame, mkF, argsToLocals, Value.category]; done) | rfl
def Q11 (Z : State) (vr0 : Addr) (w_high_vr0 : UInt64) (h0 : Heap) (n0 : Nat) (v : Option Value) (h : Heap) (L : List Loc) : Prop := v = some (.double w_high_vr0) ∧ Fr n0 L ∧ h = h0
set_option maxRecDepth 65536 in
set_option maxHeartbeats 40000000 in
theorem rm11 (l : Launch) (Z : State) (a0 : Array Value) (hw : ∀ d ∈ tables_1, d.before a0 Z = true) (ws : List Jvm.Cond) (vr0 : Addr) (w_high_vr0 : UInt64) (h0 : Heap) (n0 : Nat) (Z0 : n0 ≤ h0.size) (F_high_vr0 : Fld Z h0 vr0 "com/example/castellan/castellan/ProgressTracker$Bounds" "high" "D" (.double w_high_vr0)) :
    MetFree l (⟨"com/example/castellan/castellan/ProgressTracker$Bounds", "high", "()D"⟩ : MethodName) (head1 (Jvm.Cond.code (⟨"com/example/castellan/castellan/ProgressTracker$Bounds", "high", "()D"⟩ : MethodName) prog_8_method_19_code 1 (some .double) :: ws) ({ frames := 0, cells := 0, slots := 0, locals := 0 } : Room)) (fun a U => a = #[(.ref vr0)] ∧ Z.Warmed39 U.vm ∧ U.heap = h0) (fun _ _ _ _ _ => True) (fun _ U o U' => ∃ v L, o = .returned v ∧ Q11 Z vr0 w_high_vr0 h0 n0 v U'.heap L ∧ FrameEnd U o U' L ({ frames := 0, cells := 0, slots := 0, locals := 0 } : Room).cells ({ frames := 0, cells := 0, slots := 0, locals := 0 } : Room).slots) := by
  refine MetFree.of_bodySF (plainFor_of_name pn_com_example_castellan_castellan_ProgressTracker_Bounds) hisR ?_
  intro p e s m args below meth c s₁ Bd hml0 hP hK
  obtain ⟨rfl, hZ, hh⟩ := hP
  have hx := Bd.exec
  have hby := Bd.bytes
  have hml : c.maxLocals = 1 := hml0
  have hown : s.vm.findClass "com/example/castellan/castellan/ProgressTracker$Bounds" = some m.cls := findClass_of_methodNamed Bd.named
  have hnm := (name_of_methodNamed Bd.named Bd.method).1
  have X0 : Stand p l e ({ frames := 0, cells := 0, slots := 0, locals := 0 } : Room) s m #[(.ref vr0)] below meth c s₁ [] 0 0 := Stand.of_body Bd
  have e0 : s₁.heap = h0 := by rw [← hh, Bd.state]; rfl
  have N0 := Fr.nil n0
  have pre0 : ∀ t, Steps p.tables e below (s₁.setTop (mkF m 0 #[.val (.ref vr0)] [])) t → Steps p.tables e below (s₁.setTop (entryFrame m #[(.ref vr0)] 1)) t := fun t k => castTop (ef_11 m vr0) k
  obtain ⟨T1, X1, e1, st1⟩ := getF X0 hx hZ hown (host := "") (Or.inl (wd_21 hw)) Via.refl e0 F_high_vr0 (g := (mkF m 1 #[.val (.ref vr0)] [(.ref vr0)])) rfl rfl (hb hby d11_1)
  obtain ⟨fs, hr, hrun, hended, hW, hsame⟩ := X1.leave (v := some (.double w_high_vr0)) (fun h => by rw [Bd.returns] at h; cases h)
  refine ⟨_, _, pre0 _ ?_, hrun, hended, _, _, rfl, ?_, ⟨_, rfl⟩, hW, hsame.mono (by decide) (by decide)⟩
  · show Steps p.tables e below (s₁.setTop (mkF m 0 #[.val (.ref vr0)] [])) _
    refine XS.aloadN X0.here hx rfl (hb hby d11_0) rfl rfl ?_
    show Steps p.tables e below (s₁.setTop (mkF m 1 #[.val (.ref vr0)] [(.ref vr0)])) _
    refine st1 _ ?_
    show Steps p.tables e below (T1.setTop (mkF m 4 #[.val (.ref vr0)] [(.double w_high_vr0)])) _
    exact retOut X1 hx Bd.returns rfl (Or.inr (Or.inr (Or.inl ⟨rfl, rfl, _, rfl⟩))) (hb hby d11_4) hr
  · show Q11 Z vr0 w_high_vr0 h0 n0 _ T1.heap _
    rw [e1]
    exact ⟨rfl, N0, rfl⟩
theorem wd_0 {Z : State} {a0 : Array Value} (hw : ∀ d ∈ tables_1, d.before a0 Z = true) : ((Jvm.Cond.constantLong "com/example/castellan/castellan/BoundsPlusPinLaw" (11 : Nat) (4503599627370496 : Int64))).before a0 Z = true := hw _ (List.mem_of_getElem? (i := 0) rfl)
theorem wd_1 {Z : State} {a0 : Array Value} (hw : ∀ d ∈ tables_1, d.before a0 Z = true) : ((Jvm.Cond.constantLong "com/example/castellan/castellan/BoundsPlusPinLaw" (13 : Nat) (2251799813685247 : Int64))).before a0 Z = true := hw _ (List.mem_of_getElem? (i := 1) rfl)
theorem wd_2 {Z : State} {a0 : Array Value} (hw : ∀ d ∈ tables_1, d.before a0 Z = true) : ((Jvm.Cond.constantLong "com/example/castellan/castellan/BoundsPlusPinLaw" (15 : Nat) (1125899906842623 : Int64))).before a0 Z = true := hw _ (List.mem_of_getElem? (i := 2) rfl)
theorem wd_3 {Z : State} {a0 : Array Value} (hw : ∀ d ∈ tables_1, d.before a0 Z = true) : ((Jvm.Cond.constantLong "com/example/castellan/castellan/BoundsPlusPinLaw" (17 : Nat) (4503599627370495 : Int64))).before a0 Z = true := hw _ (List.mem_of_getElem? (i := 3) rfl)
theorem wd_4 {Z : State} {a0 : Array Value} (hw : ∀ d ∈ tables_1, d.before a0 Z = true) : ((Jvm.Cond.constant "com/example/castellan/castellan/BoundsPlusPinLaw" (19 : Nat) (2147483647 : Int32))).before a0 Z = true := hw _ (List.mem_of_getElem? (i := 4) rfl)
theorem wd_5 {Z : State} {a0 : Array Value} (hw : ∀ d ∈ tables_1, d.before a0 Z = true) : ((Jvm.Cond.classLink "com/example/castellan/castellan/BoundsPlusPinLaw" (20 : Nat) "com/example/castellan/castellan/ProgressTracker$Bounds")).before a0 Z = true := hw _ (List.mem_of_getElem? (i := 5) rfl)
theorem wd_8 {Z : State} {a0 : Array Value} (hw : ∀ d ∈ tables_1, d.before a0 Z = true) : ((Jvm.Cond.methodLink "com/example/castellan/castellan/BoundsPlusPinLaw" (22 : Nat) ({ cls := "com/example/castellan/castellan/ProgressTracker$Bounds", name := "<init>", desc := "(DD)V" } : Jvm.MethodName))).before a0 Z = true := hw _ (List.mem_of_getElem? (i := 8) rfl)
theorem wd_23 {Z : State} {a0 : Array Value} (hw : ∀ d ∈ tables_1, d.before a0 Z = true) : ((Jvm.Cond.methodLink "com/example/castellan/castellan/BoundsPlusPinLaw" (25 : Nat) ({ cls := "com/example/castellan/castellan/ProgressTracker$Bounds", name := "plus", desc := "(Lcom/example/castellan/castellan/ProgressTracker$Bounds;)Lcom/example/castellan/castellan/ProgressTracker$Bounds;" } : Jvm.MethodName))).before a0 Z = true := hw _ (List.mem_of_getElem? (i := 23) rfl)
theorem wd_27 {Z : State} {a0 : Array Value} (hw : ∀ d ∈ tables_1, d.before a0 Z = true) : ((Jvm.Cond.code ({ cls := "com/example/castellan/castellan/ProgressTracker$Bounds", name := "plus", desc := "(Lcom/example/castellan/castellan/ProgressTracker$Bounds;)Lcom/example/castellan/castellan/ProgressTracker$Bounds;" } : Jvm.MethodName) prog_8_method_2_code (2 : Nat) (Option.some (Jvm.ClassFile.FieldType.object "com/example/castellan/castellan/ProgressTracker$Bounds")))).before a0 Z = true := hw _ (List.mem_of_getElem? (i := 27) rfl)
theorem pd_2 : parseMethodDescriptor "(Lcom/example/castellan/castellan/ProgressTracker$Bounds;)Lcom/example/castellan/castellan/ProgressTracker$Bounds;" = some ⟨[(.object "com/example/castellan/castellan/ProgressTracker$Bounds")], some (.object "com/example/castellan/castellan/ProgressTracker$Bounds")⟩ := by decide +kernel
theorem wd_26 {Z : State} {a0 : Array Value} (hw : ∀ d ∈ tables_1, d.before a0 Z = true) : ((Jvm.Cond.selects "com/example/castellan/castellan/ProgressTracker$Bounds" ({ cls := "com/example/castellan/castellan/ProgressTracker$Bounds", name := "plus", desc := "(Lcom/example/castellan/castellan/ProgressTracker$Bounds;)Lcom/example/castellan/castellan/ProgressTracker$Bounds;" } : Jvm.MethodName) ({ cls := "com/example/castellan/castellan/ProgressTracker$Bounds", name := "plus", desc := "(Lcom/example/castellan/castellan/ProgressTracker$Bounds;)Lcom/example/castellan/castellan/ProgressTracker$Bounds;" } : Jvm.MethodName))).before a0 Z = true := hw _ (List.mem_of_getElem? (i := 26) rfl)
theorem wd_24 {Z : State} {a0 : Array Value} (hw : ∀ d ∈ tables_1, d.before a0 Z = true) : ((Jvm.Cond.declares ({ cls := "com/example/castellan/castellan/ProgressTracker$Bounds", name := "plus", desc := "(Lcom/example/castellan/castellan/ProgressTracker$Bounds;)Lcom/example/castellan/castellan/ProgressTracker$Bounds;" } : Jvm.MethodName))).before a0 Z = true := hw _ (List.mem_of_getElem? (i := 24) rfl)
theorem wd_25 {Z : State} {a0 : Array Value} (hw : ∀ d ∈ tables_1, d.before a0 Z = true) : ((Jvm.Cond.instanceMethod ({ cls := "com/example/castellan/castellan/ProgressTracker$Bounds", name := "plus", desc := "(Lcom/example/castellan/castellan/ProgressTracker$Bounds;)Lcom/example/castellan/castellan/ProgressTracker$Bounds;" } : Jvm.MethodName))).before a0 Z = true := hw _ (List.mem_of_getElem? (i := 25) rfl)
theorem wd_39 {Z : State} {a0 : Array Value} (hw : ∀ d ∈ tables_1, d.before a0 Z = true) : ((Jvm.Cond.methodLink "com/example/castellan/castellan/BoundsPlusPinLaw" (29 : Nat) ({ cls := "com/example/castellan/castellan/BoundsPlusPinLaw", name := "down", desc := "(J)J" } : Jvm.MethodName))).before a0 Z = true := hw _ (List.mem_of_getElem? (i := 39) rfl)
theorem wd_42 {Z : State} {a0 : Array Value} (hw : ∀ d ∈ tables_1, d.before a0 Z = true) : ((Jvm.Cond.code ({ cls := "com/example/castellan/castellan/BoundsPlusPinLaw", name := "down", desc := "(J)J" } : Jvm.MethodName) method_2_code (2 : Nat) (Option.some Jvm.ClassFile.FieldType.long))).before a0 Z = true := hw _ (List.mem_of_getElem? (i := 42) rfl)
theorem wd_41 {Z : State} {a0 : Array Value} (hw : ∀ d ∈ tables_1, d.before a0 Z = true) : ((Jvm.Cond.initialized "com/example/castellan/castellan/BoundsPlusPinLaw")).before a0 Z = true := hw _ (List.mem_of_getElem? (i := 41) rfl)
theorem pd_5 : parseMethodDescriptor "(J)J" = some ⟨[.long], some .long⟩ := by decide +kernel
theorem wd_40 {Z : State} {a0 : Array Value} (hw : ∀ d ∈ tables_1, d.before a0 Z = true) : ((Jvm.Cond.static ({ cls := "com/example/castellan/castellan/BoundsPlusPinLaw", name := "down", desc := "(J)J" } : Jvm.MethodName))).before a0 Z = true := hw _ (List.mem_of_getElem? (i := 40) rfl)
theorem wd_44 {Z : State} {a0 : Array Value} (hw : ∀ d ∈ tables_1, d.before a0 Z = true) : ((Jvm.Cond.methodLink "com/example/castellan/castellan/BoundsPlusPinLaw" (33 : Nat) ({ cls := "com/example/castellan/castellan/BoundsPlusPinLaw", name := "up", desc := "(J)J" } : Jvm.MethodName))).before a0 Z = true := hw _ (List.mem_of_getElem? (i := 44) rfl)
theorem wd_46 {Z : State} {a0 : Array Value} (hw : ∀ d ∈ tables_1, d.before a0 Z = true) : ((Jvm.Cond.code ({ cls := "com/example/castellan/castellan/BoundsPlusPinLaw", name := "up", desc := "(J)J" } : Jvm.MethodName) method_3_code (2 : Nat) (Option.some Jvm.ClassFile.FieldType.long))).before a0 Z = true := hw _ (List.mem_of_getElem? (i := 46) rfl)
theorem wd_45 {Z : State} {a0 : Array Value} (hw : ∀ d ∈ tables_1, d.before a0 Z = true) : ((Jvm.Cond.static ({ cls := "com/example/castellan/castellan/BoundsPlusPinLaw", name := "up", desc := "(J)J" } : Jvm.MethodName))).before a0 Z = true := hw _ (List.mem_of_getElem? (i := 45) rfl)
theorem wd_47 {Z : State} {a0 : Array Value} (hw : ∀ d ∈ tables_1, d.before a0 Z = true) : ((Jvm.Cond.methodLink "com/example/castellan/castellan/BoundsPlusPinLaw" (36 : Nat) ({ cls := "com/example/castellan/castellan/ProgressTracker$Bounds", name := "low", desc := "()D" } : Jvm.MethodName))).before a0 Z = true := hw _ (List.mem_of_getElem? (i := 47) rfl)
theorem wd_51 {Z : State} {a0 : Array Value} (hw : ∀ d ∈ tables_1, d.before a0 Z = true) : ((Jvm.Cond.code ({ cls := "com/example/castellan/castellan/ProgressTracker$Bounds", name := "low", desc := "()D" } : Jvm.MethodName) prog_8_method_18_code (1 : Nat) (Option.some Jvm.ClassFile.FieldType.double))).before a0 Z = true := hw _ (List.mem_of_getElem? (i := 51) rfl)
theorem pd_6 : parseMethodDescriptor "()D" = some ⟨[], some .double⟩ := by decide +kernel
theorem wd_50 {Z : State} {a0 : Array Value} (hw : ∀ d ∈ tables_1, d.before a0 Z = true) : ((Jvm.Cond.selects "com/example/castellan/castellan/ProgressTracker$Bounds" ({ cls := "com/example/castellan/castellan/ProgressTracker$Bounds", name := "low", desc := "()D" } : Jvm.MethodName) ({ cls := "com/example/castellan/castellan/ProgressTracker$Bounds", name := "low", desc := "()D" } : Jvm.MethodName))).before a0 Z = true := hw _ (List.mem_of_getElem? (i := 50) rfl)
theorem wd_48 {Z : State} {a0 : Array Value} (hw : ∀ d ∈ tables_1, d.before a0 Z = true) : ((Jvm.Cond.declares ({ cls := "com/example/castellan/castellan/ProgressTracker$Bounds", name := "low", desc := "()D" } : Jvm.MethodName))).before a0 Z = true := hw _ (List.mem_of_getElem? (i := 48) rfl)
theorem wd_49 {Z : State} {a0 : Array Value} (hw : ∀ d ∈ tables_1, d.before a0 Z = true) : ((Jvm.Cond.instanceMethod ({ cls := "com/example/castellan/castellan/ProgressTracker$Bounds", name := "low", desc := "()D" } : Jvm.MethodName))).before a0 Z = true := hw _ (List.mem_of_getElem? (i := 49) rfl)
theorem wd_52 {Z : State} {a0 : Array Value} (hw : ∀ d ∈ tables_1, d.before a0 Z = true) : ((Jvm.Cond.methodLink "com/example/castellan/castellan/BoundsPlusPinLaw" (40 : Nat) ({ cls := "com/example/castellan/castellan/ProgressTracker$Bounds", name := "high", desc := "()D" } : Jvm.MethodName))).before a0 Z = true := hw _ (List.mem_of_getElem? (i := 52) rfl)
theorem wd_56 {Z : State} {a0 : Array Value} (hw : ∀ d ∈ tables_1, d.before a0 Z = true) : ((Jvm.Cond.code ({ cls := "com/example/castellan/castellan/ProgressTracker$Bounds", name := "high", desc := "()D" } : Jvm.MethodName) prog_8_method_19_code (1 : Nat) (Option.some Jvm.ClassFile.FieldType.double))).before a0 Z = true := hw _ (List.mem_of_getElem? (i := 56) rfl)
theorem wd_55 {Z : State} {a0 : Array Value} (hw : ∀ d ∈ tables_1, d.before a0 Z = true) : ((Jvm.Cond.selects "com/example/castellan/castellan/ProgressTracker$Bounds" ({ cls := "com/example/castellan/castellan/ProgressTracker$Bounds", name := "high", desc := "()D" } : Jvm.MethodName) ({ cls := "com/example/castellan/castellan/ProgressTracker$Bounds", name := "high", desc := "()D" } : Jvm.MethodName))).before a0 Z = true := hw _ (List.mem_of_getElem? (i := 55) rfl)
theorem wd_53 {Z : State} {a0 : Array Value} (hw : ∀ d ∈ tables_1, d.before a0 Z = true) : ((Jvm.Cond.declares ({ cls := "com/example/castellan/castellan/ProgressTracker$Bounds", name := "high", desc := "()D" } : Jvm.MethodName))).before a0 Z = true := hw _ (List.mem_of_getElem? (i := 53) rfl)
theorem wd_54 {Z : State} {a0 : Array Value} (hw : ∀ d ∈ tables_1, d.before a0 Z = true) : ((Jvm.Cond.instanceMethod ({ cls := "com/example/castellan/castellan/ProgressTracker$Bounds", name := "high", desc := "()D" } : Jvm.MethodName))).before a0 Z = true := hw _ (List.mem_of_getElem? (i := 54) rfl)
theorem ef_0 (m : MethodId) (x0 : Int64) (x1 : Int64) (x2 : Int64) (x3 : Int64) (x4 : Int32) : entryFrame m #[(.long x0), (.long x1), (.long x2), (.long x3), (.int x4)] maxLocals = mkF m 0 #[.val (.long x0), .second, .val (.long x1), .second, .val (.long x2), .second, .val (.long x3), .second, .val (.int x4), .unset, .unset, .unset, .unset, .unset, .unset, .unset, .unset, .unset, .unset, .unset, .unset, .unset, .unset, .unset, .unset, .unset, .unset, .unset, .unset, .unset, .unset] [] := by first | (simp [entryFrame, mkF, argsToLocals, Value.category, maxLocals]; done) | rfl
def Q0 (Z : State) (vj0 : Int64) (vj1 : Int64) (vj2 : Int64) (vj3 : Int64) (vi4 : Int32) (h0 : Heap) (n0 : Nat) (v : Option Value) (h : Heap) (L : List Loc) : Prop := v = some (.int (1 : Int32)) ∧ Fr n0 L
set_option maxRecDepth 65536 in
set_option maxHeartbeats 40000000 in
theorem rm0 (l : Launch) (Z : State) (a0 : Array Value) (hw : ∀ d ∈ tables_1, d.before a0 Z = true) (ws : List Jvm.Cond) (vj0 : Int64) (vj1 : Int64) (vj2 : Int64) (vj3 : Int64) (vi4 : Int32) (h0 : Heap) (n0 : Nat) (Z0 : n0 ≤ h0.size) (hn56 : Jvm.Free.Fl.NoNaN64 (FP.ddiv FP.dconst1 (FP.l2d ((1 : Int64) <<< (((vi4 &&& (2147483647 : Int32)) % (63 : Int32)) &&& 0x3f).toInt64)))) (hn68 : Jvm.Free.Fl.NoNaN64 (FP.dmul (FP.l2d ((4503599627370496 : Int64) + (vj0 &&& (2251799813685247 : Int64)))) (FP.ddiv FP.dconst1 (FP.l2d ((1 : Int64) <<< (((vi4 &&& (2147483647 : Int32)) % (63 : Int32)) &&& 0x3f).toInt64))))) (hn74 : Jvm.Free.Fl.NoNaN64 (FP.dmul (FP.l2d (((4503599627370496 : Int64) + (vj0 &&& (2251799813685247 : Int64))) + (vj1 &&& (1125899906842623 : Int64)))) (FP.ddiv FP.dconst1 (FP.l2d ((1 : Int64) <<< (((vi4 &&& (2147483647 : Int32)) % (63 : Int32)) &&& 0x3f).toInt64))))) (hn89 : Jvm.Free.Fl.NoNaN64 (FP.dmul (FP.l2d (vj2 &&& (4503599627370495 : Int64))) (FP.ddiv FP.dconst1 (FP.l2d ((1 : Int64) <<< (((vi4 &&& (2147483647 : Int32)) % (63 : Int32)) &&& 0x3f).toInt64))))) (hn95 : Jvm.Free.Fl.NoNaN64 (FP.dmul (FP.l2d ((vj2 &&& (4503599627370495 : Int64)) + (vj3 &&& (1125899906842623 : Int64)))) (FP.ddiv FP.dconst1 (FP.l2d ((1 : Int64) <<< (((vi4 &&& (2147483647 : Int32)) % (63 : Int32)) &&& 0x3f).toInt64))))) (hok : own_ok_sd (FP.dmul (FP.l2d ((4503599627370496 : Int64) + (vj0 &&& (2251799813685247 : Int64)))) (FP.ddiv FP.dconst1 (FP.l2d ((1 : Int64) <<< (((vi4 &&& (2147483647 : Int32)) % (63 : Int32)) &&& 0x3f).toInt64)))) (FP.dmul (FP.l2d (vj2 &&& (4503599627370495 : Int64))) (FP.ddiv FP.dconst1 (FP.l2d ((1 : Int64) <<< (((vi4 &&& (2147483647 : Int32)) % (63 : Int32)) &&& 0x3f).toInt64))))) (c105_c23_hok : own_ok_su (FP.dmul (FP.l2d (((4503599627370496 : Int64) + (vj0 &&& (2251799813685247 : Int64))) + (vj1 &&& (1125899906842623 : Int64)))) (FP.ddiv FP.dconst1 (FP.l2d ((1 : Int64) <<< (((vi4 &&& (2147483647 : Int32)) % (63 : Int32)) &&& 0x3f).toInt64)))) (FP.dmul (FP.l2d ((vj2 &&& (4503599627370495 : Int64)) + (vj3 &&& (1125899906842623 : Int64)))) (FP.ddiv FP.dconst1 (FP.l2d ((1 : Int64) <<< (((vi4 &&& (2147483647 : Int32)) % (63 : Int32)) &&& 0x3f).toInt64))))) (hn132 : Jvm.Free.Fl.NoNaN64 (FP.dmul (FP.l2d (own_down (((4503599627370496 : Int64) + (vj0 &&& (2251799813685247 : Int64))) + (vj2 &&& (4503599627370495 : Int64))))) (FP.ddiv FP.dconst1 (FP.l2d ((1 : Int64) <<< (((vi4 &&& (2147483647 : Int32)) % (63 : Int32)) &&& 0x3f).toInt64))))) (hn143 : Jvm.Free.Fl.NoNaN64 (FP.dmul (FP.l2d (own_up ((((4503599627370496 : Int64) + (vj0 &&& (2251799813685247 : Int64))) + (vj1 &&& (1125899906842623 : Int64))) + ((vj2 &&& (4503599627370495 : Int64)) + (vj3 &&& (1125899906842623 : Int64)))))) (FP.ddiv FP.dconst1 (FP.l2d ((1 : Int64) <<< (((vi4 &&& (2147483647 : Int32)) % (63 : Int32)) &&& 0x3f).toInt64))))) (hc154 : (cmpValue (FP.dcmp (own_sd (FP.dmul (FP.l2d ((4503599627370496 : Int64) + (vj0 &&& (2251799813685247 : Int64)))) (FP.ddiv FP.dconst1 (FP.l2d ((1 : Int64) <<< (((vi4 &&& (2147483647 : Int32)) % (63 : Int32)) &&& 0x3f).toInt64)))) (FP.dmul (FP.l2d (vj2 &&& (4503599627370495 : Int64))) (FP.ddiv FP.dconst1 (FP.l2d ((1 : Int64) <<< (((vi4 &&& (2147483647 : Int32)) % (63 : Int32)) &&& 0x3f).toInt64))))) (FP.dmul (FP.l2d (own_down (((4503599627370496 : Int64) + (vj0 &&& (2251799813685247 : Int64))) + (vj2 &&& (4503599627370495 : Int64))))) (FP.ddiv FP.dconst1 (FP.l2d ((1 : Int64) <<< (((vi4 &&& (2147483647 : Int32)) % (63 : Int32)) &&& 0x3f).toInt64))))) .l) = (0 : Int32)) (hc165 : (cmpValue (FP.dcmp (own_su (FP.dmul (FP.l2d (((4503599627370496 : Int64) + (vj0 &&& (2251799813685247 : Int64))) + (vj1 &&& (1125899906842623 : Int64)))) (FP.ddiv FP.dconst1 (FP.l2d ((1 : Int64) <<< (((vi4 &&& (2147483647 : Int32)) % (63 : Int32)) &&& 0x3f).toInt64)))) (FP.dmul (FP.l2d ((vj2 &&& (4503599627370495 : Int64)) + (vj3 &&& (1125899906842623 : Int64)))) (FP.ddiv FP.dconst1 (FP.l2d ((1 : Int64) <<< (((vi4 &&& (2147483647 : Int32)) % (63 : Int32)) &&& 0x3f).toInt64))))) (FP.dmul (FP.l2d (own_up ((((4503599627370496 : Int64) + (vj0 &&& (2251799813685247 : Int64))) + (vj1 &&& (1125899906842623 : Int64))) + ((vj2 &&& (4503599627370495 : Int64)) + (vj3 &&& (1125899906842623 : Int64)))))) (FP.ddiv FP.dconst1 (FP.l2d ((1 : Int64) <<< (((vi4 &&& (2147483647 : Int32)) % (63 : Int32)) &&& 0x3f).toInt64))))) .l) = (0 : Int32)) :
    MetFree l x (head1 (Jvm.Cond.code x code maxLocals ret :: ws) room_1) (fun a U => a = #[(.long vj0), (.long vj1), (.long vj2), (.long vj3), (.int vi4)] ∧ Z.Warmed39 U.vm ∧ U.heap = h0) (fun _ _ _ _ _ => True) (fun _ U o U' => ∃ v L, o = .returned v ∧ Q0 Z vj0 vj1 vj2 vj3 vi4 h0 n0 v U'.heap L ∧ FrameEnd U o U' L room_1.cells room_1.slots) := by
  refine MetFree.of_bodySF (plainFor_of_name pn_com_example_castellan_castellan_BoundsPlusPinLaw) hisR ?_
  intro p e s m args below meth c s₁ Bd hml0 hP hK
  obtain ⟨rfl, hZ, hh⟩ := hP
  have hx := Bd.exec
  have hby := Bd.bytes
  have hml : c.maxLocals = 31 := hml0
  have hown : s.vm.findClass "com/example/castellan/castellan/BoundsPlusPinLaw" = some m.cls := findClass_of_methodNamed Bd.named
  have hnm := (name_of_methodNamed Bd.named Bd.method).1
  have X0 : Stand p l e room_1 s m #[(.long vj0), (.long vj1), (.long vj2), (.long vj3), (.int vi4)] below meth c s₁ [] 0 0 := Stand.of_body Bd
  have e0 : s₁.heap = h0 := by rw [← hh, Bd.state]; rfl
  have N0 := Fr.nil n0
  have pre0 : ∀ t, Steps p.tables e below (s₁.setTop (mkF m 0 #[.val (.long vj0), .second, .val (.long vj1), .second, .val (.long vj2), .second, .val (.long vj3), .second, .val (.int vi4), .unset, .unset, .unset, .unset, .unset, .unset, .unset, .unset, .unset, .unset, .unset, .unset, .unset, .unset, .unset, .unset, .unset, .unset, .unset, .unset, .unset, .unset] [])) t → Steps p.tables e below (s₁.setTop (entryFrame m #[(.long vj0), (.long vj1), (.long vj2), (.long vj3), (.int vi4)] maxLocals)) t := fun t k => castTop (ef_0 m vj0 vj1 vj2 vj3 vi4) k
  obtain ⟨T1, h1, X1, e1, E1, A1, D1, -, st1⟩ := newO X0 hx hZ hown (wd_5 hw) (wd_6 hw) (wd_7 hw) e0 (g := (mkF m 59 #[.val (.long vj0), .second, .val (.long vj1), .second, .val (.long vj2), .second, .val (.long vj3), .second, .val (.int vi4), .val (.long ((4503599627370496 : Int64) + (vj0 &&& (2251799813685247 : Int64)))), .second, .val (.long (((4503599627370496 : Int64) + (vj0 &&& (2251799813685247 : Int64))) + (vj1 &&& (1125899906842623 : Int64)))), .second, .val (.long (vj2 &&& (4503599627370495 : Int64))), .second, .val (.long ((vj2 &&& (4503599627370495 : Int64)) + (vj3 &&& (1125899906842623 : Int64)))), .second, .val (.int ((vi4 &&& (2147483647 : Int32)) % (63 : Int32))), .val (.double (FP.ddiv FP.dconst1 (FP.l2d ((1 : Int64) <<< (((vi4 &&& (2147483647 : Int32)) % (63 : Int32)) &&& 0x3f).toInt64)))), .second, .unset, .unset, .unset, .unset, .unset, .unset, .unset, .unset, .unset, .unset, .unset] [])) rfl (hb hby at_59) (by decide) (by decide)
  obtain ⟨b1, g1⟩ : ∃ z, z = h0.size := ⟨_, rfl⟩
  rw [← g1] at A1 D1 st1
  have g_b1 : n0 ≤ b1 := Nat.le_trans Z0 (Nat.le_of_eq g1.symm)
  have sz_b1 : h0.size ≤ b1 := Nat.le_trans (Keep.refl h0 []).1 (Nat.le_of_eq g1.symm)
  have K1 : Keep h0 h1 [] := (Keep.refl h0 []).ext E1
  have F_low_b1 : Fld Z h1 b1 "com/example/castellan/castellan/ProgressTracker$Bounds" "low" "D" (.double (0 : UInt64)) := D1 (Or.inr (wd_20 hw)) (ty := .double) (by decide)
  have F_high_b1 : Fld Z h1 b1 "com/example/castellan/castellan/ProgressTracker$Bounds" "high" "D" (.double (0 : UInt64)) := D1 (Or.inr (wd_22 hw)) (ty := .double) (by decide)
  obtain ⟨_, _, ⟨T2, L2, k2, n2⟩, -, X2, ⟨Lc2, hQ2, l2, y2, z2⟩, st2⟩ := X1.specialBack hx (y := (⟨"com/example/castellan/castellan/ProgressTracker$Bounds", "<init>", "(DD)V"⟩ : MethodName)) rfl hown (mvT hZ (wd_8 hw)) (mvT hZ (wd_9 hw)) (mvT hZ (wd_10 hw)) (by decide) (backOf (W := 1) (rm1 l Z a0 hw [] b1 (FP.dmul (FP.l2d ((4503599627370496 : Int64) + (vj0 &&& (2251799813685247 : Int64)))) (FP.ddiv FP.dconst1 (FP.l2d ((1 : Int64) <<< (((vi4 &&& (2147483647 : Int32)) % (63 : Int32)) &&& 0x3f).toInt64)))) (FP.dmul (FP.l2d (((4503599627370496 : Int64) + (vj0 &&& (2251799813685247 : Int64))) + (vj1 &&& (1125899906842623 : Int64)))) (FP.ddiv FP.dconst1 (FP.l2d ((1 : Int64) <<< (((vi4 &&& (2147483647 : Int32)) % (63 : Int32)) &&& 0x3f).toInt64)))) (.double (0 : UInt64)) (.double (0 : UInt64)) h1 n0 (Nat.le_trans Z0 E1.1) A1 F_low_b1 g_b1 F_high_b1) hZ (wd_10 hw) (wd_7 hw) (by decide) (by decide)) (g := (mkF m 75 #[.val (.long vj0), .second, .val (.long vj1), .second, .val (.long vj2), .second, .val (.long vj3), .second, .val (.int vi4), .val (.long ((4503599627370496 : Int64) + (vj0 &&& (2251799813685247 : Int64)))), .second, .val (.long (((4503599627370496 : Int64) + (vj0 &&& (2251799813685247 : Int64))) + (vj1 &&& (1125899906842623 : Int64)))), .second, .val (.long (vj2 &&& (4503599627370495 : Int64))), .second, .val (.long ((vj2 &&& (4503599627370495 : Int64)) + (vj3 &&& (1125899906842623 : Int64)))), .second, .val (.int ((vi4 &&& (2147483647 : Int32)) % (63 : Int32))), .val (.double (FP.ddiv FP.dconst1 (FP.l2d ((1 : Int64) <<< (((vi4 &&& (2147483647 : Int32)) % (63 : Int32)) &&& 0x3f).toInt64)))), .second, .unset, .unset, .unset, .unset, .unset, .unset, .unset, .unset, .unset, .unset, .unset] [(.double (FP.dmul (FP.l2d (((4503599627370496 : Int64) + (vj0 &&& (2251799813685247 : Int64))) + (vj1 &&& (1125899906842623 : Int64)))) (FP.ddiv FP.dconst1 (FP.l2d ((1 : Int64) <<< (((vi4 &&& (2147483647 : Int32)) % (63 : Int32)) &&& 0x3f).toInt64))))), (.double (FP.dmul (FP.l2d ((4503599627370496 : Int64) + (vj0 &&& (2251799813685247 : Int64)))) (FP.ddiv FP.dconst1 (FP.l2d ((1 : Int64) <<< (((vi4 &&& (2147483647 : Int32)) % (63 : Int32)) &&& 0x3f).toInt64))))), (.ref b1), (.ref b1)])) rfl (by rw [hml]; rfl) (Steps.refl _) (a := b1) (argsL := [(.double (FP.dmul (FP.l2d ((4503599627370496 : Int64) + (vj0 &&& (2251799813685247 : Int64)))) (FP.ddiv FP.dconst1 (FP.l2d ((1 : Int64) <<< (((vi4 &&& (2147483647 : Int32)) % (63 : Int32)) &&& 0x3f).toInt64))))), (.double (FP.dmul (FP.l2d (((4503599627370496 : Int64) + (vj0 &&& (2251799813685247 : Int64))) + (vj1 &&& (1125899906842623 : Int64)))) (FP.ddiv FP.dconst1 (FP.l2d ((1 : Int64) <<< (((vi4 &&& (2147483647 : Int32)) % (63 : Int32)) &&& 0x3f).toInt64)))))]) (rest := [(.ref b1)]) (lenOf pd_0 rfl) rfl (by show 2 * 0 + _ ≤ _; exact Nat.le_of_eq rfl) (hb hby at_75) (fun _ _ => ⟨rfl, e1, (by decide : 1 + 0 ≤ _), (by decide : 2 + 0 ≤ _)⟩)
  dsimp only [Pt.U, Pt.locs, Pt.cells, Pt.slots] at X2 l2 y2 z2 st2 hQ2
  subst l2 y2 z2
  obtain ⟨rfl, N2q, p2_0, p2_1, p2_2⟩ := hQ2
  have N2 := Fr.app N0 N2q
  have K2 : Keep h0 T2.heap [] := K1.trans p2_0 (allS (Or.inr sz_b1) all0)
  obtain ⟨T3, h3, X3, e3, E3, A3, D3, -, st3⟩ := newO X2 hx hZ hown (wd_5 hw) (wd_6 hw) (wd_7 hw) rfl (g := (mkF m 80 #[.val (.long vj0), .second, .val (.long vj1), .second, .val (.long vj2), .second, .val (.long vj3), .second, .val (.int vi4), .val (.long ((4503599627370496 : Int64) + (vj0 &&& (2251799813685247 : Int64)))), .second, .val (.long (((4503599627370496 : Int64) + (vj0 &&& (2251799813685247 : Int64))) + (vj1 &&& (1125899906842623 : Int64)))), .second, .val (.long (vj2 &&& (4503599627370495 : Int64))), .second, .val (.long ((vj2 &&& (4503599627370495 : Int64)) + (vj3 &&& (1125899906842623 : Int64)))), .second, .val (.int ((vi4 &&& (2147483647 : Int32)) % (63 : Int32))), .val (.double (FP.ddiv FP.dconst1 (FP.l2d ((1 : Int64) <<< (((vi4 &&& (2147483647 : Int32)) % (63 : Int32)) &&& 0x3f).toInt64)))), .second, .val (.ref b1), .unset, .unset, .unset, .unset, .unset, .unset, .unset, .unset, .unset, .unset] [])) rfl (hb hby at_80) (by decide) (by decide)
  obtain ⟨b3, g3⟩ : ∃ z, z = T2.heap.size := ⟨_, rfl⟩
  rw [← g3] at A3 D3 st3
  have g_b3 : n0 ≤ b3 := Nat.le_trans (Nat.le_trans (Nat.le_trans Z0 E1.1) p2_0.1) (Nat.le_of_eq g3.symm)
  have sz_b3 : h0.size ≤ b3 := Nat.le_trans K2.1 (Nat.le_of_eq g3.symm)
  have K3 : Keep h0 h3 [] := K2.ext E3
  have F_low_b3 : Fld Z h3 b3 "com/example/castellan/castellan/ProgressTracker$Bounds" "low" "D" (.double (0 : UInt64)) := D3 (Or.inr (wd_20 hw)) (ty := .double) (by decide)
  have F_high_b3 : Fld Z h3 b3 "com/example/castellan/castellan/ProgressTracker$Bounds" "high" "D" (.double (0 : UInt64)) := D3 (Or.inr (wd_22 hw)) (ty := .double) (by decide)
  obtain ⟨_, _, ⟨T4, L4, k4, n4⟩, -, X4, ⟨Lc4, hQ4, l4, y4, z4⟩, st4⟩ := X3.specialBack hx (y := (⟨"com/example/castellan/castellan/ProgressTracker$Bounds", "<init>", "(DD)V"⟩ : MethodName)) rfl hown (mvT hZ (wd_8 hw)) (mvT hZ (wd_9 hw)) (mvT hZ (wd_10 hw)) (by decide) (backOf (W := 1) (rm1 l Z a0 hw [] b3 (FP.dmul (FP.l2d (vj2 &&& (4503599627370495 : Int64))) (FP.ddiv FP.dconst1 (FP.l2d ((1 : Int64) <<< (((vi4 &&& (2147483647 : Int32)) % (63 : Int32)) &&& 0x3f).toInt64)))) (FP.dmul (FP.l2d ((vj2 &&& (4503599627370495 : Int64)) + (vj3 &&& (1125899906842623 : Int64)))) (FP.ddiv FP.dconst1 (FP.l2d ((1 : Int64) <<< (((vi4 &&& (2147483647 : Int32)) % (63 : Int32)) &&& 0x3f).toInt64)))) (.double (0 : UInt64)) (.double (0 : UInt64)) h3 n0 (Nat.le_trans (Nat.le_trans (Nat.le_trans Z0 E1.1) p2_0.1) E3.1) A3 F_low_b3 g_b3 F_high_b3) hZ (wd_10 hw) (wd_7 hw) (by decide) (by decide)) (g := (mkF m 96 #[.val (.long vj0), .second, .val (.long vj1), .second, .val (.long vj2), .second, .val (.long vj3), .second, .val (.int vi4), .val (.long ((4503599627370496 : Int64) + (vj0 &&& (2251799813685247 : Int64)))), .second, .val (.long (((4503599627370496 : Int64) + (vj0 &&& (2251799813685247 : Int64))) + (vj1 &&& (1125899906842623 : Int64)))), .second, .val (.long (vj2 &&& (4503599627370495 : Int64))), .second, .val (.long ((vj2 &&& (4503599627370495 : Int64)) + (vj3 &&& (1125899906842623 : Int64)))), .second, .val (.int ((vi4 &&& (2147483647 : Int32)) % (63 : Int32))), .val (.double (FP.ddiv FP.dconst1 (FP.l2d ((1 : Int64) <<< (((vi4 &&& (2147483647 : Int32)) % (63 : Int32)) &&& 0x3f).toInt64)))), .second, .val (.ref b1), .unset, .unset, .unset, .unset, .unset, .unset, .unset, .unset, .unset, .unset] [(.double (FP.dmul (FP.l2d ((vj2 &&& (4503599627370495 : Int64)) + (vj3 &&& (1125899906842623 : Int64)))) (FP.ddiv FP.dconst1 (FP.l2d ((1 : Int64) <<< (((vi4 &&& (2147483647 : Int32)) % (63 : Int32)) &&& 0x3f).toInt64))))), (.double (FP.dmul (FP.l2d (vj2 &&& (4503599627370495 : Int64))) (FP.ddiv FP.dconst1 (FP.l2d ((1 : Int64) <<< (((vi4 &&& (2147483647 : Int32)) % (63 : Int32)) &&& 0x3f).toInt64))))), (.ref b3), (.ref b3)])) rfl (by rw [hml]; rfl) (Steps.refl _) (a := b3) (argsL := [(.double (FP.dmul (FP.l2d (vj2 &&& (4503599627370495 : Int64))) (FP.ddiv FP.dconst1 (FP.l2d ((1 : Int64) <<< (((vi4 &&& (2147483647 : Int32)) % (63 : Int32)) &&& 0x3f).toInt64))))), (.double (FP.dmul (FP.l2d ((vj2 &&& (4503599627370495 : Int64)) + (vj3 &&& (1125899906842623 : Int64)))) (FP.ddiv FP.dconst1 (FP.l2d ((1 : Int64) <<< (((vi4 &&& (2147483647 : Int32)) % (63 : Int32)) &&& 0x3f).toInt64)))))]) (rest := [(.ref b3)]) (lenOf pd_0 rfl) rfl (by show 2 * 0 + _ ≤ _; exact Nat.le_of_eq rfl) (hb hby at_96) (fun _ _ => ⟨rfl, e3, (by decide : 2 + 0 ≤ _), (by decide : 4 + 0 ≤ _)⟩)
  dsimp only [Pt.U, Pt.locs, Pt.cells, Pt.slots] at X4 l4 y4 z4 st4 hQ4
  subst l4 y4 z4
  obtain ⟨rfl, N4q, p4_0, p4_1, p4_2⟩ := hQ4
  have N4 := Fr.app N2 N4q
  have K4 : Keep h0 T4.heap [] := K3.trans p4_0 (allS (Or.inr sz_b3) all0)
  obtain ⟨cq5, kq5, q5a, q5b, q5c⟩ := isOf hZ rfl (((A1.keep p2_0).ext E3).keep p4_0)
  obtain ⟨_, _, ⟨T5, L5, k5, n5⟩, -, X5, ⟨Lc5, hQ5, l5, y5, z5⟩, st5⟩ := X4.virtualBack hx (y := (⟨"com/example/castellan/castellan/ProgressTracker$Bounds", "plus", "(Lcom/example/castellan/castellan/ProgressTracker$Bounds;)Lcom/example/castellan/castellan/ProgressTracker$Bounds;"⟩ : MethodName)) (z := (⟨"com/example/castellan/castellan/ProgressTracker$Bounds", "plus", "(Lcom/example/castellan/castellan/ProgressTracker$Bounds;)Lcom/example/castellan/castellan/ProgressTracker$Bounds;"⟩ : MethodName)) hown (mvT hZ (wd_23 hw)) (mvT hZ (wd_24 hw)) (notFace_of_selects (args := #[]) (mvT hZ (wd_26 hw))) (mvT hZ (wd_26 hw)) (mvT hZ (wd_25 hw)) (by decide) (backOf (W := 0) (rm4 l Z a0 hw [] b1 b3 (FP.dmul (FP.l2d ((4503599627370496 : Int64) + (vj0 &&& (2251799813685247 : Int64)))) (FP.ddiv FP.dconst1 (FP.l2d ((1 : Int64) <<< (((vi4 &&& (2147483647 : Int32)) % (63 : Int32)) &&& 0x3f).toInt64)))) (FP.dmul (FP.l2d (vj2 &&& (4503599627370495 : Int64))) (FP.ddiv FP.dconst1 (FP.l2d ((1 : Int64) <<< (((vi4 &&& (2147483647 : Int32)) % (63 : Int32)) &&& 0x3f).toInt64)))) (FP.dmul (FP.l2d (((4503599627370496 : Int64) + (vj0 &&& (2251799813685247 : Int64))) + (vj1 &&& (1125899906842623 : Int64)))) (FP.ddiv FP.dconst1 (FP.l2d ((1 : Int64) <<< (((vi4 &&& (2147483647 : Int32)) % (63 : Int32)) &&& 0x3f).toInt64)))) (FP.dmul (FP.l2d ((vj2 &&& (4503599627370495 : Int64)) + (vj3 &&& (1125899906842623 : Int64)))) (FP.ddiv FP.dconst1 (FP.l2d ((1 : Int64) <<< (((vi4 &&& (2147483647 : Int32)) % (63 : Int32)) &&& 0x3f).toInt64)))) T4.heap n0 (Nat.le_trans (Nat.le_trans (Nat.le_trans (Nat.le_trans Z0 E1.1) p2_0.1) E3.1) p4_0.1) ((p2_1.ext E3).keep p4_0 (ninS (Nat.ne_of_lt (Nat.lt_of_lt_of_le (A1.keep p2_0).lt (Nat.le_of_eq g3.symm))) nin0)) p4_1 hok ((p2_2.ext E3).keep p4_0 (ninS (Nat.ne_of_lt (Nat.lt_of_lt_of_le (A1.keep p2_0).lt (Nat.le_of_eq g3.symm))) nin0)) p4_2 c105_c23_hok) hZ (wd_27 hw) (wd_7 hw) (by decide) (by decide)) q5a q5c (g := (mkF m 105 #[.val (.long vj0), .second, .val (.long vj1), .second, .val (.long vj2), .second, .val (.long vj3), .second, .val (.int vi4), .val (.long ((4503599627370496 : Int64) + (vj0 &&& (2251799813685247 : Int64)))), .second, .val (.long (((4503599627370496 : Int64) + (vj0 &&& (2251799813685247 : Int64))) + (vj1 &&& (1125899906842623 : Int64)))), .second, .val (.long (vj2 &&& (4503599627370495 : Int64))), .second, .val (.long ((vj2 &&& (4503599627370495 : Int64)) + (vj3 &&& (1125899906842623 : Int64)))), .second, .val (.int ((vi4 &&& (2147483647 : Int32)) % (63 : Int32))), .val (.double (FP.ddiv FP.dconst1 (FP.l2d ((1 : Int64) <<< (((vi4 &&& (2147483647 : Int32)) % (63 : Int32)) &&& 0x3f).toInt64)))), .second, .val (.ref b1), .val (.ref b3), .unset, .unset, .unset, .unset, .unset, .unset, .unset, .unset, .unset] [(.ref b3), (.ref b1)])) rfl (by rw [hml]; rfl) (Steps.refl _) (argsL := [(.ref b3)]) (rest := []) (lenOf pd_2 rfl) rfl (by show 2 * 0 + _ ≤ _; exact Nat.le_of_eq rfl) (hb hby at_105) (fun _ _ => ⟨rfl, rfl, (by decide : 2 + 1 ≤ _), (by decide : 4 + 2 ≤ _)⟩)
  dsimp only [Pt.U, Pt.locs, Pt.cells, Pt.slots] at X5 l5 y5 z5 st5 hQ5
  subst l5 y5 z5
  obtain ⟨r5, rfl, N5q, p5_0, p5_1, p5_2, p5_3, p5_4⟩ := hQ5
  have N5 := Fr.app N4 N5q
  have g_r5 : n0 ≤ r5 := Nat.le_trans (Nat.le_trans (Nat.le_trans (Nat.le_trans (Nat.le_trans Z0 E1.1) p2_0.1) E3.1) p4_0.1) p5_1
  have sz_r5 : h0.size ≤ r5 := Nat.le_trans K4.1 p5_1
  have K5 : Keep h0 T5.heap [] := K4.trans p5_0 all0
  obtain ⟨_, _, ⟨T6, L6, k6, n6⟩, -, X6, ⟨Lc6, hQ6, l6, y6, z6⟩, st6⟩ := Jvm.LawKit.callS X5 hx (y := (⟨"com/example/castellan/castellan/BoundsPlusPinLaw", "down", "(J)J"⟩ : MethodName)) hown (mvT hZ (wd_39 hw)) (mvT hZ (wd_40 hw)) (mvT hZ (wd_41 hw)) (mvT hZ (wd_42 hw)) (by decide) (backOf (W := 0) (rm_down l Z a0 hw [] (((4503599627370496 : Int64) + (vj0 &&& (2251799813685247 : Int64))) + (vj2 &&& (4503599627370495 : Int64))) T5.heap n0 (Nat.le_trans (Nat.le_trans (Nat.le_trans (Nat.le_trans (Nat.le_trans Z0 E1.1) p2_0.1) E3.1) p4_0.1) p5_0.1) ) hZ (wd_42 hw) (wd_41 hw) (by decide) (by decide)) (g := (mkF m 126 #[.val (.long vj0), .second, .val (.long vj1), .second, .val (.long vj2), .second, .val (.long vj3), .second, .val (.int vi4), .val (.long ((4503599627370496 : Int64) + (vj0 &&& (2251799813685247 : Int64)))), .second, .val (.long (((4503599627370496 : Int64) + (vj0 &&& (2251799813685247 : Int64))) + (vj1 &&& (1125899906842623 : Int64)))), .second, .val (.long (vj2 &&& (4503599627370495 : Int64))), .second, .val (.long ((vj2 &&& (4503599627370495 : Int64)) + (vj3 &&& (1125899906842623 : Int64)))), .second, .val (.int ((vi4 &&& (2147483647 : Int32)) % (63 : Int32))), .val (.double (FP.ddiv FP.dconst1 (FP.l2d ((1 : Int64) <<< (((vi4 &&& (2147483647 : Int32)) % (63 : Int32)) &&& 0x3f).toInt64)))), .second, .val (.ref b1), .val (.ref b3), .val (.ref r5), .val (.long (((4503599627370496 : Int64) + (vj0 &&& (2251799813685247 : Int64))) + (vj2 &&& (4503599627370495 : Int64)))), .second, .val (.long ((((4503599627370496 : Int64) + (vj0 &&& (2251799813685247 : Int64))) + (vj1 &&& (1125899906842623 : Int64))) + ((vj2 &&& (4503599627370495 : Int64)) + (vj3 &&& (1125899906842623 : Int64))))), .second, .unset, .unset, .unset, .unset] [(.long (((4503599627370496 : Int64) + (vj0 &&& (2251799813685247 : Int64))) + (vj2 &&& (4503599627370495 : Int64))))])) rfl (by rw [hml]; rfl) (argsL := [(.long (((4503599627370496 : Int64) + (vj0 &&& (2251799813685247 : Int64))) + (vj2 &&& (4503599627370495 : Int64))))]) (rest := []) (lenOf pd_5 rfl) rfl (by show 2 * 0 + _ ≤ _; exact Nat.le_of_eq rfl) (hb hby at_126) (fun _ _ => ⟨rfl, rfl, (by decide : 3 + 0 ≤ _), (by decide : 6 + 0 ≤ _)⟩)
  dsimp only [Pt.U, Pt.locs, Pt.cells, Pt.slots] at X6 l6 y6 z6 st6 hQ6
  subst l6 y6 z6
  obtain ⟨rfl, N6q, p6_0⟩ := hQ6
  have N6 := Fr.app N5 N6q
  have e6 : T6.heap = T5.heap := p6_0
  obtain ⟨_, _, ⟨T7, L7, k7, n7⟩, -, X7, ⟨Lc7, hQ7, l7, y7, z7⟩, st7⟩ := Jvm.LawKit.callS X6 hx (y := (⟨"com/example/castellan/castellan/BoundsPlusPinLaw", "up", "(J)J"⟩ : MethodName)) hown (mvT hZ (wd_44 hw)) (mvT hZ (wd_45 hw)) (mvT hZ (wd_41 hw)) (mvT hZ (wd_46 hw)) (by decide) (backOf (W := 0) (rm_up l Z a0 hw [] ((((4503599627370496 : Int64) + (vj0 &&& (2251799813685247 : Int64))) + (vj1 &&& (1125899906842623 : Int64))) + ((vj2 &&& (4503599627370495 : Int64)) + (vj3 &&& (1125899906842623 : Int64)))) T5.heap n0 (Nat.le_trans (Nat.le_trans (Nat.le_trans (Nat.le_trans (Nat.le_trans Z0 E1.1) p2_0.1) E3.1) p4_0.1) p5_0.1) ) hZ (wd_46 hw) (wd_41 hw) (by decide) (by decide)) (g := (mkF m 137 #[.val (.long vj0), .second, .val (.long vj1), .second, .val (.long vj2), .second, .val (.long vj3), .second, .val (.int vi4), .val (.long ((4503599627370496 : Int64) + (vj0 &&& (2251799813685247 : Int64)))), .second, .val (.long (((4503599627370496 : Int64) + (vj0 &&& (2251799813685247 : Int64))) + (vj1 &&& (1125899906842623 : Int64)))), .second, .val (.long (vj2 &&& (4503599627370495 : Int64))), .second, .val (.long ((vj2 &&& (4503599627370495 : Int64)) + (vj3 &&& (1125899906842623 : Int64)))), .second, .val (.int ((vi4 &&& (2147483647 : Int32)) % (63 : Int32))), .val (.double (FP.ddiv FP.dconst1 (FP.l2d ((1 : Int64) <<< (((vi4 &&& (2147483647 : Int32)) % (63 : Int32)) &&& 0x3f).toInt64)))), .second, .val (.ref b1), .val (.ref b3), .val (.ref r5), .val (.long (((4503599627370496 : Int64) + (vj0 &&& (2251799813685247 : Int64))) + (vj2 &&& (4503599627370495 : Int64)))), .second, .val (.long ((((4503599627370496 : Int64) + (vj0 &&& (2251799813685247 : Int64))) + (vj1 &&& (1125899906842623 : Int64))) + ((vj2 &&& (4503599627370495 : Int64)) + (vj3 &&& (1125899906842623 : Int64))))), .second, .val (.double (FP.dmul (FP.l2d (own_down (((4503599627370496 : Int64) + (vj0 &&& (2251799813685247 : Int64))) + (vj2 &&& (4503599627370495 : Int64))))) (FP.ddiv FP.dconst1 (FP.l2d ((1 : Int64) <<< (((vi4 &&& (2147483647 : Int32)) % (63 : Int32)) &&& 0x3f).toInt64))))), .second, .unset, .unset] [(.long ((((4503599627370496 : Int64) + (vj0 &&& (2251799813685247 : Int64))) + (vj1 &&& (1125899906842623 : Int64))) + ((vj2 &&& (4503599627370495 : Int64)) + (vj3 &&& (1125899906842623 : Int64)))))])) rfl (by rw [hml]; rfl) (argsL := [(.long ((((4503599627370496 : Int64) + (vj0 &&& (2251799813685247 : Int64))) + (vj1 &&& (1125899906842623 : Int64))) + ((vj2 &&& (4503599627370495 : Int64)) + (vj3 &&& (1125899906842623 : Int64)))))]) (rest := []) (lenOf pd_5 rfl) rfl (by show 2 * 0 + _ ≤ _; exact Nat.le_of_eq rfl) (hb hby at_137) (fun _ _ => ⟨rfl, e6, (by decide : 3 + 0 ≤ _), (by decide : 6 + 0 ≤ _)⟩)
  dsimp only [Pt.U, Pt.locs, Pt.cells, Pt.slots] at X7 l7 y7 z7 st7 hQ7
  subst l7 y7 z7
  obtain ⟨rfl, N7q, p7_0⟩ := hQ7
  have N7 := Fr.app N6 N7q
  have e7 : T7.heap = T5.heap := p7_0
  obtain ⟨cq8, kq8, q8a, q8b, q8c⟩ := isOf hZ e7 p5_2
  obtain ⟨_, _, ⟨T8, L8, k8, n8⟩, -, X8, ⟨Lc8, hQ8, l8, y8, z8⟩, st8⟩ := X7.virtualBack hx (y := (⟨"com/example/castellan/castellan/ProgressTracker$Bounds", "low", "()D"⟩ : MethodName)) (z := (⟨"com/example/castellan/castellan/ProgressTracker$Bounds", "low", "()D"⟩ : MethodName)) hown (mvT hZ (wd_47 hw)) (mvT hZ (wd_48 hw)) (notFace_of_selects (args := #[]) (mvT hZ (wd_50 hw))) (mvT hZ (wd_50 hw)) (mvT hZ (wd_49 hw)) (by decide) (backOf (W := 0) (rm10 l Z a0 hw [] r5 (own_sd (FP.dmul (FP.l2d ((4503599627370496 : Int64) + (vj0 &&& (2251799813685247 : Int64)))) (FP.ddiv FP.dconst1 (FP.l2d ((1 : Int64) <<< (((vi4 &&& (2147483647 : Int32)) % (63 : Int32)) &&& 0x3f).toInt64)))) (FP.dmul (FP.l2d (vj2 &&& (4503599627370495 : Int64))) (FP.ddiv FP.dconst1 (FP.l2d ((1 : Int64) <<< (((vi4 &&& (2147483647 : Int32)) % (63 : Int32)) &&& 0x3f).toInt64))))) T5.heap n0 (Nat.le_trans (Nat.le_trans (Nat.le_trans (Nat.le_trans (Nat.le_trans Z0 E1.1) p2_0.1) E3.1) p4_0.1) p5_0.1) p5_3) hZ (wd_51 hw) (wd_7 hw) (by decide) (by decide)) q8a q8c (g := (mkF m 148 #[.val (.long vj0), .second, .val (.long vj1), .second, .val (.long vj2), .second, .val (.long vj3), .second, .val (.int vi4), .val (.long ((4503599627370496 : Int64) + (vj0 &&& (2251799813685247 : Int64)))), .second, .val (.long (((4503599627370496 : Int64) + (vj0 &&& (2251799813685247 : Int64))) + (vj1 &&& (1125899906842623 : Int64)))), .second, .val (.long (vj2 &&& (4503599627370495 : Int64))), .second, .val (.long ((vj2 &&& (4503599627370495 : Int64)) + (vj3 &&& (1125899906842623 : Int64)))), .second, .val (.int ((vi4 &&& (2147483647 : Int32)) % (63 : Int32))), .val (.double (FP.ddiv FP.dconst1 (FP.l2d ((1 : Int64) <<< (((vi4 &&& (2147483647 : Int32)) % (63 : Int32)) &&& 0x3f).toInt64)))), .second, .val (.ref b1), .val (.ref b3), .val (.ref r5), .val (.long (((4503599627370496 : Int64) + (vj0 &&& (2251799813685247 : Int64))) + (vj2 &&& (4503599627370495 : Int64)))), .second, .val (.long ((((4503599627370496 : Int64) + (vj0 &&& (2251799813685247 : Int64))) + (vj1 &&& (1125899906842623 : Int64))) + ((vj2 &&& (4503599627370495 : Int64)) + (vj3 &&& (1125899906842623 : Int64))))), .second, .val (.double (FP.dmul (FP.l2d (own_down (((4503599627370496 : Int64) + (vj0 &&& (2251799813685247 : Int64))) + (vj2 &&& (4503599627370495 : Int64))))) (FP.ddiv FP.dconst1 (FP.l2d ((1 : Int64) <<< (((vi4 &&& (2147483647 : Int32)) % (63 : Int32)) &&& 0x3f).toInt64))))), .second, .val (.double (FP.dmul (FP.l2d (own_up ((((4503599627370496 : Int64) + (vj0 &&& (2251799813685247 : Int64))) + (vj1 &&& (1125899906842623 : Int64))) + ((vj2 &&& (4503599627370495 : Int64)) + (vj3 &&& (1125899906842623 : Int64)))))) (FP.ddiv FP.dconst1 (FP.l2d ((1 : Int64) <<< (((vi4 &&& (2147483647 : Int32)) % (63 : Int32)) &&& 0x3f).toInt64))))), .second] [(.ref r5)])) rfl (by rw [hml]; rfl) (Steps.refl _) (argsL := []) (rest := []) (lenOf pd_6 rfl) rfl (by show 2 * 0 + _ ≤ _; exact Nat.le_of_eq rfl) (hb hby at_148) (fun _ _ => ⟨rfl, e7, (by decide : 3 + 0 ≤ _), (by decide : 6 + 0 ≤ _)⟩)
  dsimp only [Pt.U, Pt.locs, Pt.cells, Pt.slots] at X8 l8 y8 z8 st8 hQ8
  subst l8 y8 z8
  obtain ⟨rfl, N8q, p8_0⟩ := hQ8
  have N8 := Fr.app N7 N8q
  have e8 : T8.heap = T5.heap := p8_0
  obtain ⟨cq9, kq9, q9a, q9b, q9c⟩ := isOf hZ e8 p5_2
  obtain ⟨_, _, ⟨T9, L9, k9, n9⟩, -, X9, ⟨Lc9, hQ9, l9, y9, z9⟩, st9⟩ := X8.virtualBack hx (y := (⟨"com/example/castellan/castellan/ProgressTracker$Bounds", "high", "()D"⟩ : MethodName)) (z := (⟨"com/example/castellan/castellan/ProgressTracker$Bounds", "high", "()D"⟩ : MethodName)) hown (mvT hZ (wd_52 hw)) (mvT hZ (wd_53 hw)) (notFace_of_selects (args := #[]) (mvT hZ (wd_55 hw))) (mvT hZ (wd_55 hw)) (mvT hZ (wd_54 hw)) (by decide) (backOf (W := 0) (rm11 l Z a0 hw [] r5 (own_su (FP.dmul (FP.l2d (((4503599627370496 : Int64) + (vj0 &&& (2251799813685247 : Int64))) + (vj1 &&& (1125899906842623 : Int64)))) (FP.ddiv FP.dconst1 (FP.l2d ((1 : Int64) <<< (((vi4 &&& (2147483647 : Int32)) % (63 : Int32)) &&& 0x3f).toInt64)))) (FP.dmul (FP.l2d ((vj2 &&& (4503599627370495 : Int64)) + (vj3 &&& (1125899906842623 : Int64)))) (FP.ddiv FP.dconst1 (FP.l2d ((1 : Int64) <<< (((vi4 &&& (2147483647 : Int32)) % (63 : Int32)) &&& 0x3f).toInt64))))) T5.heap n0 (Nat.le_trans (Nat.le_trans (Nat.le_trans (Nat.le_trans (Nat.le_trans Z0 E1.1) p2_0.1) E3.1) p4_0.1) p5_0.1) p5_4) hZ (wd_56 hw) (wd_7 hw) (by decide) (by decide)) q9a q9c (g := (mkF m 159 #[.val (.long vj0), .second, .val (.long vj1), .second, .val (.long vj2), .second, .val (.long vj3), .second, .val (.int vi4), .val (.long ((4503599627370496 : Int64) + (vj0 &&& (2251799813685247 : Int64)))), .second, .val (.long (((4503599627370496 : Int64) + (vj0 &&& (2251799813685247 : Int64))) + (vj1 &&& (1125899906842623 : Int64)))), .second, .val (.long (vj2 &&& (4503599627370495 : Int64))), .second, .val (.long ((vj2 &&& (4503599627370495 : Int64)) + (vj3 &&& (1125899906842623 : Int64)))), .second, .val (.int ((vi4 &&& (2147483647 : Int32)) % (63 : Int32))), .val (.double (FP.ddiv FP.dconst1 (FP.l2d ((1 : Int64) <<< (((vi4 &&& (2147483647 : Int32)) % (63 : Int32)) &&& 0x3f).toInt64)))), .second, .val (.ref b1), .val (.ref b3), .val (.ref r5), .val (.long (((4503599627370496 : Int64) + (vj0 &&& (2251799813685247 : Int64))) + (vj2 &&& (4503599627370495 : Int64)))), .second, .val (.long ((((4503599627370496 : Int64) + (vj0 &&& (2251799813685247 : Int64))) + (vj1 &&& (1125899906842623 : Int64))) + ((vj2 &&& (4503599627370495 : Int64)) + (vj3 &&& (1125899906842623 : Int64))))), .second, .val (.double (FP.dmul (FP.l2d (own_down (((4503599627370496 : Int64) + (vj0 &&& (2251799813685247 : Int64))) + (vj2 &&& (4503599627370495 : Int64))))) (FP.ddiv FP.dconst1 (FP.l2d ((1 : Int64) <<< (((vi4 &&& (2147483647 : Int32)) % (63 : Int32)) &&& 0x3f).toInt64))))), .second, .val (.double (FP.dmul (FP.l2d (own_up ((((4503599627370496 : Int64) + (vj0 &&& (2251799813685247 : Int64))) + (vj1 &&& (1125899906842623 : Int64))) + ((vj2 &&& (4503599627370495 : Int64)) + (vj3 &&& (1125899906842623 : Int64)))))) (FP.ddiv FP.dconst1 (FP.l2d ((1 : Int64) <<< (((vi4 &&& (2147483647 : Int32)) % (63 : Int32)) &&& 0x3f).toInt64))))), .second] [(.ref r5)])) rfl (by rw [hml]; rfl) (Steps.refl _) (argsL := []) (rest := []) (lenOf pd_6 rfl) rfl (by show 2 * 0 + _ ≤ _; exact Nat.le_of_eq rfl) (hb hby at_159) (fun _ _ => ⟨rfl, e8, (by decide : 3 + 0 ≤ _), (by decide : 6 + 0 ≤ _)⟩)
  dsimp only [Pt.U, Pt.locs, Pt.cells, Pt.slots] at X9 l9 y9 z9 st9 hQ9
  subst l9 y9 z9
  obtain ⟨rfl, N9q, p9_0⟩ := hQ9
  have N9 := Fr.app N8 N9q
  have e9 : T9.heap = T5.heap := p9_0
  obtain ⟨fs, hr, hrun, hended, hW, hsame⟩ := X9.leave (v := some (.int (1 : Int32))) (fun h => by rw [Bd.returns] at h; cases h)
  refine ⟨_, _, pre0 _ ?_, hrun, hended, _, _, rfl, ?_, ⟨_, rfl⟩, hW, hsame.mono (by decide) (by decide)⟩
  · show Steps p.tables e below (s₁.setTop (mkF m 0 #[.val (.long vj0), .second, .val (.long vj1), .second, .val (.long vj2), .second, .val (.long vj3), .second, .val (.int vi4), .unset, .unset, .unset, .unset, .unset, .unset, .unset, .unset, .unset, .unset, .unset, .unset, .unset, .unset, .unset, .unset, .unset, .unset, .unset, .unset, .unset, .unset] [])) _
    refine X0.ldc2Long hx hown (mvT hZ (wd_0 hw)) (g := (mkF m 0 #[.val (.long vj0), .second, .val (.long vj1), .second, .val (.long vj2), .second, .val (.long vj3), .second, .val (.int vi4), .unset, .unset, .unset, .unset, .unset, .unset, .unset, .unset, .unset, .unset, .unset, .unset, .unset, .unset, .unset, .unset, .unset, .unset, .unset, .unset, .unset, .unset] [])) rfl (hb hby at_0) _ ?_
    show Steps p.tables e below (s₁.setTop (mkF m 3 #[.val (.long vj0), .second, .val (.long vj1), .second, .val (.long vj2), .second, .val (.long vj3), .second, .val (.int vi4), .unset, .unset, .unset, .unset, .unset, .unset, .unset, .unset, .unset, .unset, .unset, .unset, .unset, .unset, .unset, .unset, .unset, .unset, .unset, .unset, .unset, .unset] [(.long (4503599627370496 : Int64))])) _
    refine XS.lloadN X0.here hx rfl (hb hby at_3) rfl ?_
    show Steps p.tables e below (s₁.setTop (mkF m 4 #[.val (.long vj0), .second, .val (.long vj1), .second, .val (.long vj2), .second, .val (.long vj3), .second, .val (.int vi4), .unset, .unset, .unset, .unset, .unset, .unset, .unset, .unset, .unset, .unset, .unset, .unset, .unset, .unset, .unset, .unset, .unset, .unset, .unset, .unset, .unset, .unset] [(.long vj0), (.long (4503599627370496 : Int64))])) _
    refine X0.ldc2Long hx hown (mvT hZ (wd_1 hw)) (g := (mkF m 4 #[.val (.long vj0), .second, .val (.long vj1), .second, .val (.long vj2), .second, .val (.long vj3), .second, .val (.int vi4), .unset, .unset, .unset, .unset, .unset, .unset, .unset, .unset, .unset, .unset, .unset, .unset, .unset, .unset, .unset, .unset, .unset, .unset, .unset, .unset, .unset, .unset] [(.long vj0), (.long (4503599627370496 : Int64))])) rfl (hb hby at_4) _ ?_
    show Steps p.tables e below (s₁.setTop (mkF m 7 #[.val (.long vj0), .second, .val (.long vj1), .second, .val (.long vj2), .second, .val (.long vj3), .second, .val (.int vi4), .unset, .unset, .unset, .unset, .unset, .unset, .unset, .unset, .unset, .unset, .unset, .unset, .unset, .unset, .unset, .unset, .unset, .unset, .unset, .unset, .unset, .unset] [(.long (2251799813685247 : Int64)), (.long vj0), (.long (4503599627370496 : Int64))])) _
    refine XS.land X0.here hx rfl (hb hby at_7) rfl ?_
    show Steps p.tables e below (s₁.setTop (mkF m 8 #[.val (.long vj0), .second, .val (.long vj1), .second, .val (.long vj2), .second, .val (.long vj3), .second, .val (.int vi4), .unset, .unset, .unset, .unset, .unset, .unset, .unset, .unset, .unset, .unset, .unset, .unset, .unset, .unset, .unset, .unset, .unset, .unset, .unset, .unset, .unset, .unset] [(.long (vj0 &&& (2251799813685247 : Int64))), (.long (4503599627370496 : Int64))])) _
    refine XS.ladd X0.here hx rfl (hb hby at_8) rfl ?_
    show Steps p.tables e below (s₁.setTop (mkF m 9 #[.val (.long vj0), .second, .val (.long vj1), .second, .val (.long vj2), .second, .val (.long vj3), .second, .val (.int vi4), .unset, .unset, .unset, .unset, .unset, .unset, .unset, .unset, .unset, .unset, .unset, .unset, .unset, .unset, .unset, .unset, .unset, .unset, .unset, .unset, .unset, .unset] [(.long ((4503599627370496 : Int64) + (vj0 &&& (2251799813685247 : Int64))))])) _
    refine XS.lstore X0.here hx rfl (hb hby at_9) rfl (l' := #[.val (.long vj0), .second, .val (.long vj1), .second, .val (.long vj2), .second, .val (.long vj3), .second, .val (.int vi4), .val (.long ((4503599627370496 : Int64) + (vj0 &&& (2251799813685247 : Int64)))), .second, .unset, .unset, .unset, .unset, .unset, .unset, .unset, .unset, .unset, .unset, .unset, .unset, .unset, .unset, .unset, .unset, .unset, .unset, .unset, .unset]) rfl ?_
    show Steps p.tables e below (s₁.setTop (mkF m 11 #[.val (.long vj0), .second, .val (.long vj1), .second, .val (.long vj2), .second, .val (.long vj3), .second, .val (.int vi4), .val (.long ((4503599627370496 : Int64) + (vj0 &&& (2251799813685247 : Int64)))), .second, .unset, .unset, .unset, .unset, .unset, .unset, .unset, .unset, .unset, .unset, .unset, .unset, .unset, .unset, .unset, .unset, .unset, .unset, .unset, .unset] [])) _
    refine XS.lload X0.here hx rfl (hb hby at_11) rfl ?_
    show Steps p.tables e below (s₁.setTop (mkF m 13 #[.val (.long vj0), .second, .val (.long vj1), .second, .val (.long vj2), .second, .val (.long vj3), .second, .val (.int vi4), .val (.long ((4503599627370496 : Int64) + (vj0 &&& (2251799813685247 : Int64)))), .second, .unset, .unset, .unset, .unset, .unset, .unset, .unset, .unset, .unset, .unset, .unset, .unset, .unset, .unset, .unset, .unset, .unset, .unset, .unset, .unset] [(.long ((4503599627370496 : Int64) + (vj0 &&& (2251799813685247 : Int64))))])) _
    refine XS.lloadN X0.here hx rfl (hb hby at_13) rfl ?_
    show Steps p.tables e below (s₁.setTop (mkF m 14 #[.val (.long vj0), .second, .val (.long vj1), .second, .val (.long vj2), .second, .val (.long vj3), .second, .val (.int vi4), .val (.long ((4503599627370496 : Int64) + (vj0 &&& (2251799813685247 : Int64)))), .second, .unset, .unset, .unset, .unset, .unset, .unset, .unset, .unset, .unset, .unset, .unset, .unset, .unset, .unset, .unset, .unset, .unset, .unset, .unset, .unset] [(.long vj1), (.long ((4503599627370496 : Int64) + (vj0 &&& (2251799813685247 : Int64))))])) _
    refine X0.ldc2Long hx hown (mvT hZ (wd_2 hw)) (g := (mkF m 14 #[.val (.long vj0), .second, .val (.long vj1), .second, .val (.long vj2), .second, .val (.long vj3), .second, .val (.int vi4), .val (.long ((4503599627370496 : Int64) + (vj0 &&& (2251799813685247 : Int64)))), .second, .unset, .unset, .unset, .unset, .unset, .unset, .unset, .unset, .unset, .unset, .unset, .unset, .unset, .unset, .unset, .unset, .unset, .unset, .unset, .unset] [(.long vj1), (.long ((4503599627370496 : Int64) + (vj0 &&& (2251799813685247 : Int64))))])) rfl (hb hby at_14) _ ?_
    show Steps p.tables e below (s₁.setTop (mkF m 17 #[.val (.long vj0), .second, .val (.long vj1), .second, .val (.long vj2), .second, .val (.long vj3), .second, .val (.int vi4), .val (.long ((4503599627370496 : Int64) + (vj0 &&& (2251799813685247 : Int64)))), .second, .unset, .unset, .unset, .unset, .unset, .unset, .unset, .unset, .unset, .unset, .unset, .unset, .unset, .unset, .unset, .unset, .unset, .unset, .unset, .unset] [(.long (1125899906842623 : Int64)), (.long vj1), (.long ((4503599627370496 : Int64) + (vj0 &&& (2251799813685247 : Int64))))])) _
    refine XS.land X0.here hx rfl (hb hby at_17) rfl ?_
    show Steps p.tables e below (s₁.setTop (mkF m 18 #[.val (.long vj0), .second, .val (.long vj1), .second, .val (.long vj2), .second, .val (.long vj3), .second, .val (.int vi4), .val (.long ((4503599627370496 : Int64) + (vj0 &&& (2251799813685247 : Int64)))), .second, .unset, .unset, .unset, .unset, .unset, .unset, .unset, .unset, .unset, .unset, .unset, .unset, .unset, .unset, .unset, .unset, .unset, .unset, .unset, .unset] [(.long (vj1 &&& (1125899906842623 : Int64))), (.long ((4503599627370496 : Int64) + (vj0 &&& (2251799813685247 : Int64))))])) _
    refine XS.ladd X0.here hx rfl (hb hby at_18) rfl ?_
    show Steps p.tables e below (s₁.setTop (mkF m 19 #[.val (.long vj0), .second, .val (.long vj1), .second, .val (.long vj2), .second, .val (.long vj3), .second, .val (.int vi4), .val (.long ((4503599627370496 : Int64) + (vj0 &&& (2251799813685247 : Int64)))), .second, .unset, .unset, .unset, .unset, .unset, .unset, .unset, .unset, .unset, .unset, .unset, .unset, .unset, .unset, .unset, .unset, .unset, .unset, .unset, .unset] [(.long (((4503599627370496 : Int64) + (vj0 &&& (2251799813685247 : Int64))) + (vj1 &&& (1125899906842623 : Int64))))])) _
    refine XS.lstore X0.here hx rfl (hb hby at_19) rfl (l' := #[.val (.long vj0), .second, .val (.long vj1), .second, .val (.long vj2), .second, .val (.long vj3), .second, .val (.int vi4), .val (.long ((4503599627370496 : Int64) + (vj0 &&& (2251799813685247 : Int64)))), .second, .val (.long (((4503599627370496 : Int64) + (vj0 &&& (2251799813685247 : Int64))) + (vj1 &&& (1125899906842623 : Int64)))), .second, .unset, .unset, .unset, .unset, .unset, .unset, .unset, .unset, .unset, .unset, .unset, .unset, .unset, .unset, .unset, .unset, .unset, .unset]) rfl ?_
    show Steps p.tables e below (s₁.setTop (mkF m 21 #[.val (.long vj0), .second, .val (.long vj1), .second, .val (.long vj2), .second, .val (.long vj3), .second, .val (.int vi4), .val (.long ((4503599627370496 : Int64) + (vj0 &&& (2251799813685247 : Int64)))), .second, .val (.long (((4503599627370496 : Int64) + (vj0 &&& (2251799813685247 : Int64))) + (vj1 &&& (1125899906842623 : Int64)))), .second, .unset, .unset, .unset, .unset, .unset, .unset, .unset, .unset, .unset, .unset, .unset, .unset, .unset, .unset, .unset, .unset, .unset, .unset] [])) _
    refine XS.lload X0.here hx rfl (hb hby at_21) rfl ?_
    show Steps p.tables e below (s₁.setTop (mkF m 23 #[.val (.long vj0), .second, .val (.long vj1), .second, .val (.long vj2), .second, .val (.long vj3), .second, .val (.int vi4), .val (.long ((4503599627370496 : Int64) + (vj0 &&& (2251799813685247 : Int64)))), .second, .val (.long (((4503599627370496 : Int64) + (vj0 &&& (2251799813685247 : Int64))) + (vj1 &&& (1125899906842623 : Int64)))), .second, .unset, .unset, .unset, .unset, .unset, .unset, .unset, .unset, .unset, .unset, .unset, .unset, .unset, .unset, .unset, .unset, .unset, .unset] [(.long vj2)])) _
    refine X0.ldc2Long hx hown (mvT hZ (wd_3 hw)) (g := (mkF m 23 #[.val (.long vj0), .second, .val (.long vj1), .second, .val (.long vj2), .second, .val (.long vj3), .second, .val (.int vi4), .val (.long ((4503599627370496 : Int64) + (vj0 &&& (2251799813685247 : Int64)))), .second, .val (.long (((4503599627370496 : Int64) + (vj0 &&& (2251799813685247 : Int64))) + (vj1 &&& (1125899906842623 : Int64)))), .second, .unset, .unset, .unset, .unset, .unset, .unset, .unset, .unset, .unset, .unset, .unset, .unset, .unset, .unset, .unset, .unset, .unset, .unset] [(.long vj2)])) rfl (hb hby at_23) _ ?_
    show Steps p.tables e below (s₁.setTop (mkF m 26 #[.val (.long vj0), .second, .val (.long vj1), .second, .val (.long vj2), .second, .val (.long vj3), .second, .val (.int vi4), .val (.long ((4503599627370496 : Int64) + (vj0 &&& (2251799813685247 : Int64)))), .second, .val (.long (((4503599627370496 : Int64) + (vj0 &&& (2251799813685247 : Int64))) + (vj1 &&& (1125899906842623 : Int64)))), .second, .unset, .unset, .unset, .unset, .unset, .unset, .unset, .unset, .unset, .unset, .unset, .unset, .unset, .unset, .unset, .unset, .unset, .unset] [(.long (4503599627370495 : Int64)), (.long vj2)])) _
    refine XS.land X0.here hx rfl (hb hby at_26) rfl ?_
    show Steps p.tables e below (s₁.setTop (mkF m 27 #[.val (.long vj0), .second, .val (.long vj1), .second, .val (.long vj2), .second, .val (.long vj3), .second, .val (.int vi4), .val (.long ((4503599627370496 : Int64) + (vj0 &&& (2251799813685247 : Int64)))), .second, .val (.long (((4503599627370496 : Int64) + (vj0 &&& (2251799813685247 : Int64))) + (vj1 &&& (1125899906842623 : Int64)))), .second, .unset, .unset, .unset, .unset, .unset, .unset, .unset, .unset, .unset, .unset, .unset, .unset, .unset, .unset, .unset, .unset, .unset, .unset] [(.long (vj2 &&& (4503599627370495 : Int64)))])) _
    refine XS.lstore X0.here hx rfl (hb hby at_27) rfl (l' := #[.val (.long vj0), .second, .val (.long vj1), .second, .val (.long vj2), .second, .val (.long vj3), .second, .val (.int vi4), .val (.long ((4503599627370496 : Int64) + (vj0 &&& (2251799813685247 : Int64)))), .second, .val (.long (((4503599627370496 : Int64) + (vj0 &&& (2251799813685247 : Int64))) + (vj1 &&& (1125899906842623 : Int64)))), .second, .val (.long (vj2 &&& (4503599627370495 : Int64))), .second, .unset, .unset, .unset, .unset, .unset, .unset, .unset, .unset, .unset, .unset, .unset, .unset, .unset, .unset, .unset, .unset]) rfl ?_
    show Steps p.tables e below (s₁.setTop (mkF m 29 #[.val (.long vj0), .second, .val (.long vj1), .second, .val (.long vj2), .second, .val (.long vj3), .second, .val (.int vi4), .val (.long ((4503599627370496 : Int64) + (vj0 &&& (2251799813685247 : Int64)))), .second, .val (.long (((4503599627370496 : Int64) + (vj0 &&& (2251799813685247 : Int64))) + (vj1 &&& (1125899906842623 : Int64)))), .second, .val (.long (vj2 &&& (4503599627370495 : Int64))), .second, .unset, .unset, .unset, .unset, .unset, .unset, .unset, .unset, .unset, .unset, .unset, .unset, .unset, .unset, .unset, .unset] [])) _
    refine XS.lload X0.here hx rfl (hb hby at_29) rfl ?_
    show Steps p.tables e below (s₁.setTop (mkF m 31 #[.val (.long vj0), .second, .val (.long vj1), .second, .val (.long vj2), .second, .val (.long vj3), .second, .val (.int vi4), .val (.long ((4503599627370496 : Int64) + (vj0 &&& (2251799813685247 : Int64)))), .second, .val (.long (((4503599627370496 : Int64) + (vj0 &&& (2251799813685247 : Int64))) + (vj1 &&& (1125899906842623 : Int64)))), .second, .val (.long (vj2 &&& (4503599627370495 : Int64))), .second, .unset, .unset, .unset, .unset, .unset, .unset, .unset, .unset, .unset, .unset, .unset, .unset, .unset, .unset, .unset, .unset] [(.long (vj2 &&& (4503599627370495 : Int64)))])) _
    refine XS.lload X0.here hx rfl (hb hby at_31) rfl ?_
    show Steps p.tables e below (s₁.setTop (mkF m 33 #[.val (.long vj0), .second, .val (.long vj1), .second, .val (.long vj2), .second, .val (.long vj3), .second, .val (.int vi4), .val (.long ((4503599627370496 : Int64) + (vj0 &&& (2251799813685247 : Int64)))), .second, .val (.long (((4503599627370496 : Int64) + (vj0 &&& (2251799813685247 : Int64))) + (vj1 &&& (1125899906842623 : Int64)))), .second, .val (.long (vj2 &&& (4503599627370495 : Int64))), .second, .unset, .unset, .unset, .unset, .unset, .unset, .unset, .unset, .unset, .unset, .unset, .unset, .unset, .unset, .unset, .unset] [(.long vj3), (.long (vj2 &&& (4503599627370495 : Int64)))])) _
    refine X0.ldc2Long hx hown (mvT hZ (wd_2 hw)) (g := (mkF m 33 #[.val (.long vj0), .second, .val (.long vj1), .second, .val (.long vj2), .second, .val (.long vj3), .second, .val (.int vi4), .val (.long ((4503599627370496 : Int64) + (vj0 &&& (2251799813685247 : Int64)))), .second, .val (.long (((4503599627370496 : Int64) + (vj0 &&& (2251799813685247 : Int64))) + (vj1 &&& (1125899906842623 : Int64)))), .second, .val (.long (vj2 &&& (4503599627370495 : Int64))), .second, .unset, .unset, .unset, .unset, .unset, .unset, .unset, .unset, .unset, .unset, .unset, .unset, .unset, .unset, .unset, .unset] [(.long vj3), (.long (vj2 &&& (4503599627370495 : Int64)))])) rfl (hb hby at_33) _ ?_
    show Steps p.tables e below (s₁.setTop (mkF m 36 #[.val (.long vj0), .second, .val (.long vj1), .second, .val (.long vj2), .second, .val (.long vj3), .second, .val (.int vi4), .val (.long ((4503599627370496 : Int64) + (vj0 &&& (2251799813685247 : Int64)))), .second, .val (.long (((4503599627370496 : Int64) + (vj0 &&& (2251799813685247 : Int64))) + (vj1 &&& (1125899906842623 : Int64)))), .second, .val (.long (vj2 &&& (4503599627370495 : Int64))), .second, .unset, .unset, .unset, .unset, .unset, .unset, .unset, .unset, .unset, .unset, .unset, .unset, .unset, .unset, .unset, .unset] [(.long (1125899906842623 : Int64)), (.long vj3), (.long (vj2 &&& (4503599627370495 : Int64)))])) _
    refine XS.land X0.here hx rfl (hb hby at_36) rfl ?_
    show Steps p.tables e below (s₁.setTop (mkF m 37 #[.val (.long vj0), .second, .val (.long vj1), .second, .val (.long vj2), .second, .val (.long vj3), .second, .val (.int vi4), .val (.long ((4503599627370496 : Int64) + (vj0 &&& (2251799813685247 : Int64)))), .second, .val (.long (((4503599627370496 : Int64) + (vj0 &&& (2251799813685247 : Int64))) + (vj1 &&& (1125899906842623 : Int64)))), .second, .val (.long (vj2 &&& (4503599627370495 : Int64))), .second, .unset, .unset, .unset, .unset, .unset, .unset, .unset, .unset, .unset, .unset, .unset, .unset, .unset, .unset, .unset, .unset] [(.long (vj3 &&& (1125899906842623 : Int64))), (.long (vj2 &&& (4503599627370495 : Int64)))])) _
    refine XS.ladd X0.here hx rfl (hb hby at_37) rfl ?_
    show Steps p.tables e below (s₁.setTop (mkF m 38 #[.val (.long vj0), .second, .val (.long vj1), .second, .val (.long vj2), .second, .val (.long vj3), .second, .val (.int vi4), .val (.long ((4503599627370496 : Int64) + (vj0 &&& (2251799813685247 : Int64)))), .second, .val (.long (((4503599627370496 : Int64) + (vj0 &&& (2251799813685247 : Int64))) + (vj1 &&& (1125899906842623 : Int64)))), .second, .val (.long (vj2 &&& (4503599627370495 : Int64))), .second, .unset, .unset, .unset, .unset, .unset, .unset, .unset, .unset, .unset, .unset, .unset, .unset, .unset, .unset, .unset, .unset] [(.long ((vj2 &&& (4503599627370495 : Int64)) + (vj3 &&& (1125899906842623 : Int64))))])) _
    refine XS.lstore X0.here hx rfl (hb hby at_38) rfl (l' := #[.val (.long vj0), .second, .val (.long vj1), .second, .val (.long vj2), .second, .val (.long vj3), .second, .val (.int vi4), .val (.long ((4503599627370496 : Int64) + (vj0 &&& (2251799813685247 : Int64)))), .second, .val (.long (((4503599627370496 : Int64) + (vj0 &&& (2251799813685247 : Int64))) + (vj1 &&& (1125899906842623 : Int64)))), .second, .val (.long (vj2 &&& (4503599627370495 : Int64))), .second, .val (.long ((vj2 &&& (4503599627370495 : Int64)) + (vj3 &&& (1125899906842623 : Int64)))), .second, .unset, .unset, .unset, .unset, .unset, .unset, .unset, .unset, .unset, .unset, .unset, .unset, .unset, .unset]) rfl ?_
    show Steps p.tables e below (s₁.setTop (mkF m 40 #[.val (.long vj0), .second, .val (.long vj1), .second, .val (.long vj2), .second, .val (.long vj3), .second, .val (.int vi4), .val (.long ((4503599627370496 : Int64) + (vj0 &&& (2251799813685247 : Int64)))), .second, .val (.long (((4503599627370496 : Int64) + (vj0 &&& (2251799813685247 : Int64))) + (vj1 &&& (1125899906842623 : Int64)))), .second, .val (.long (vj2 &&& (4503599627370495 : Int64))), .second, .val (.long ((vj2 &&& (4503599627370495 : Int64)) + (vj3 &&& (1125899906842623 : Int64)))), .second, .unset, .unset, .unset, .unset, .unset, .unset, .unset, .unset, .unset, .unset, .unset, .unset, .unset, .unset] [])) _
    refine XS.iload X0.here hx rfl (hb hby at_40) rfl ?_
    show Steps p.tables e below (s₁.setTop (mkF m 42 #[.val (.long vj0), .second, .val (.long vj1), .second, .val (.long vj2), .second, .val (.long vj3), .second, .val (.int vi4), .val (.long ((4503599627370496 : Int64) + (vj0 &&& (2251799813685247 : Int64)))), .second, .val (.long (((4503599627370496 : Int64) + (vj0 &&& (2251799813685247 : Int64))) + (vj1 &&& (1125899906842623 : Int64)))), .second, .val (.long (vj2 &&& (4503599627370495 : Int64))), .second, .val (.long ((vj2 &&& (4503599627370495 : Int64)) + (vj3 &&& (1125899906842623 : Int64)))), .second, .unset, .unset, .unset, .unset, .unset, .unset, .unset, .unset, .unset, .unset, .unset, .unset, .unset, .unset] [(.int vi4)])) _
    refine X0.ldcInt hx hown (mvT hZ (wd_4 hw)) (g := (mkF m 42 #[.val (.long vj0), .second, .val (.long vj1), .second, .val (.long vj2), .second, .val (.long vj3), .second, .val (.int vi4), .val (.long ((4503599627370496 : Int64) + (vj0 &&& (2251799813685247 : Int64)))), .second, .val (.long (((4503599627370496 : Int64) + (vj0 &&& (2251799813685247 : Int64))) + (vj1 &&& (1125899906842623 : Int64)))), .second, .val (.long (vj2 &&& (4503599627370495 : Int64))), .second, .val (.long ((vj2 &&& (4503599627370495 : Int64)) + (vj3 &&& (1125899906842623 : Int64)))), .second, .unset, .unset, .unset, .unset, .unset, .unset, .unset, .unset, .unset, .unset, .unset, .unset, .unset, .unset] [(.int vi4)])) rfl (hb hby at_42) _ ?_
    show Steps p.tables e below (s₁.setTop (mkF m 44 #[.val (.long vj0), .second, .val (.long vj1), .second, .val (.long vj2), .second, .val (.long vj3), .second, .val (.int vi4), .val (.long ((4503599627370496 : Int64) + (vj0 &&& (2251799813685247 : Int64)))), .second, .val (.long (((4503599627370496 : Int64) + (vj0 &&& (2251799813685247 : Int64))) + (vj1 &&& (1125899906842623 : Int64)))), .second, .val (.long (vj2 &&& (4503599627370495 : Int64))), .second, .val (.long ((vj2 &&& (4503599627370495 : Int64)) + (vj3 &&& (1125899906842623 : Int64)))), .second, .unset, .unset, .unset, .unset, .unset, .unset, .unset, .unset, .unset, .unset, .unset, .unset, .unset, .unset] [(.int (2147483647 : Int32)), (.int vi4)])) _
    refine XS.iand X0.here hx rfl (hb hby at_44) rfl ?_
    show Steps p.tables e below (s₁.setTop (mkF m 45 #[.val (.long vj0), .second, .val (.long vj1), .second, .val (.long vj2), .second, .val (.long vj3), .second, .val (.int vi4), .val (.long ((4503599627370496 : Int64) + (vj0 &&& (2251799813685247 : Int64)))), .second, .val (.long (((4503599627370496 : Int64) + (vj0 &&& (2251799813685247 : Int64))) + (vj1 &&& (1125899906842623 : Int64)))), .second, .val (.long (vj2 &&& (4503599627370495 : Int64))), .second, .val (.long ((vj2 &&& (4503599627370495 : Int64)) + (vj3 &&& (1125899906842623 : Int64)))), .second, .unset, .unset, .unset, .unset, .unset, .unset, .unset, .unset, .unset, .unset, .unset, .unset, .unset, .unset] [(.int (vi4 &&& (2147483647 : Int32)))])) _
    refine XS.bipush X0.here hx rfl (hb hby at_45) ?_
    show Steps p.tables e below (s₁.setTop (mkF m 47 #[.val (.long vj0), .second, .val (.long vj1), .second, .val (.long vj2), .second, .val (.long vj3), .second, .val (.int vi4), .val (.long ((4503599627370496 : Int64) + (vj0 &&& (2251799813685247 : Int64)))), .second, .val (.long (((4503599627370496 : Int64) + (vj0 &&& (2251799813685247 : Int64))) + (vj1 &&& (1125899906842623 : Int64)))), .second, .val (.long (vj2 &&& (4503599627370495 : Int64))), .second, .val (.long ((vj2 &&& (4503599627370495 : Int64)) + (vj3 &&& (1125899906842623 : Int64)))), .second, .unset, .unset, .unset, .unset, .unset, .unset, .unset, .unset, .unset, .unset, .unset, .unset, .unset, .unset] [(.int (63 : Int32)), (.int (vi4 &&& (2147483647 : Int32)))])) _
    refine iremM X0 hx rfl (hb hby at_47) rfl (by decide) ?_
    show Steps p.tables e below (s₁.setTop (mkF m 48 #[.val (.long vj0), .second, .val (.long vj1), .second, .val (.long vj2), .second, .val (.long vj3), .second, .val (.int vi4), .val (.long ((4503599627370496 : Int64) + (vj0 &&& (2251799813685247 : Int64)))), .second, .val (.long (((4503599627370496 : Int64) + (vj0 &&& (2251799813685247 : Int64))) + (vj1 &&& (1125899906842623 : Int64)))), .second, .val (.long (vj2 &&& (4503599627370495 : Int64))), .second, .val (.long ((vj2 &&& (4503599627370495 : Int64)) + (vj3 &&& (1125899906842623 : Int64)))), .second, .unset, .unset, .unset, .unset, .unset, .unset, .unset, .unset, .unset, .unset, .unset, .unset, .unset, .unset] [(.int ((vi4 &&& (2147483647 : Int32)) % (63 : Int32)))])) _
    refine XS.istore X0.here hx rfl (hb hby at_48) rfl (l' := #[.val (.long vj0), .second, .val (.long vj1), .second, .val (.long vj2), .second, .val (.long vj3), .second, .val (.int vi4), .val (.long ((4503599627370496 : Int64) + (vj0 &&& (2251799813685247 : Int64)))), .second, .val (.long (((4503599627370496 : Int64) + (vj0 &&& (2251799813685247 : Int64))) + (vj1 &&& (1125899906842623 : Int64)))), .second, .val (.long (vj2 &&& (4503599627370495 : Int64))), .second, .val (.long ((vj2 &&& (4503599627370495 : Int64)) + (vj3 &&& (1125899906842623 : Int64)))), .second, .val (.int ((vi4 &&& (2147483647 : Int32)) % (63 : Int32))), .unset, .unset, .unset, .unset, .unset, .unset, .unset, .unset, .unset, .unset, .unset, .unset, .unset]) rfl ?_
    show Steps p.tables e below (s₁.setTop (mkF m 50 #[.val (.long vj0), .second, .val (.long vj1), .second, .val (.long vj2), .second, .val (.long vj3), .second, .val (.int vi4), .val (.long ((4503599627370496 : Int64) + (vj0 &&& (2251799813685247 : Int64)))), .second, .val (.long (((4503599627370496 : Int64) + (vj0 &&& (2251799813685247 : Int64))) + (vj1 &&& (1125899906842623 : Int64)))), .second, .val (.long (vj2 &&& (4503599627370495 : Int64))), .second, .val (.long ((vj2 &&& (4503599627370495 : Int64)) + (vj3 &&& (1125899906842623 : Int64)))), .second, .val (.int ((vi4 &&& (2147483647 : Int32)) % (63 : Int32))), .unset, .unset, .unset, .unset, .unset, .unset, .unset, .unset, .unset, .unset, .unset, .unset, .unset] [])) _
    refine XS.dconst1 X0.here hx rfl (hb hby at_50) (v := FP.dconst1) rfl ?_
    show Steps p.tables e below (s₁.setTop (mkF m 51 #[.val (.long vj0), .second, .val (.long vj1), .second, .val (.long vj2), .second, .val (.long vj3), .second, .val (.int vi4), .val (.long ((4503599627370496 : Int64) + (vj0 &&& (2251799813685247 : Int64)))), .second, .val (.long (((4503599627370496 : Int64) + (vj0 &&& (2251799813685247 : Int64))) + (vj1 &&& (1125899906842623 : Int64)))), .second, .val (.long (vj2 &&& (4503599627370495 : Int64))), .second, .val (.long ((vj2 &&& (4503599627370495 : Int64)) + (vj3 &&& (1125899906842623 : Int64)))), .second, .val (.int ((vi4 &&& (2147483647 : Int32)) % (63 : Int32))), .unset, .unset, .unset, .unset, .unset, .unset, .unset, .unset, .unset, .unset, .unset, .unset, .unset] [(.double FP.dconst1)])) _
    refine XS.lconst X0.here hx rfl (hb hby at_51) ?_
    show Steps p.tables e below (s₁.setTop (mkF m 52 #[.val (.long vj0), .second, .val (.long vj1), .second, .val (.long vj2), .second, .val (.long vj3), .second, .val (.int vi4), .val (.long ((4503599627370496 : Int64) + (vj0 &&& (2251799813685247 : Int64)))), .second, .val (.long (((4503599627370496 : Int64) + (vj0 &&& (2251799813685247 : Int64))) + (vj1 &&& (1125899906842623 : Int64)))), .second, .val (.long (vj2 &&& (4503599627370495 : Int64))), .second, .val (.long ((vj2 &&& (4503599627370495 : Int64)) + (vj3 &&& (1125899906842623 : Int64)))), .second, .val (.int ((vi4 &&& (2147483647 : Int32)) % (63 : Int32))), .unset, .unset, .unset, .unset, .unset, .unset, .unset, .unset, .unset, .unset, .unset, .unset, .unset] [(.long (1 : Int64)), (.double FP.dconst1)])) _
    refine XS.iload X0.here hx rfl (hb hby at_52) rfl ?_
    show Steps p.tables e below (s₁.setTop (mkF m 54 #[.val (.long vj0), .second, .val (.long vj1), .second, .val (.long vj2), .second, .val (.long vj3), .second, .val (.int vi4), .val (.long ((4503599627370496 : Int64) + (vj0 &&& (2251799813685247 : Int64)))), .second, .val (.long (((4503599627370496 : Int64) + (vj0 &&& (2251799813685247 : Int64))) + (vj1 &&& (1125899906842623 : Int64)))), .second, .val (.long (vj2 &&& (4503599627370495 : Int64))), .second, .val (.long ((vj2 &&& (4503599627370495 : Int64)) + (vj3 &&& (1125899906842623 : Int64)))), .second, .val (.int ((vi4 &&& (2147483647 : Int32)) % (63 : Int32))), .unset, .unset, .unset, .unset, .unset, .unset, .unset, .unset, .unset, .unset, .unset, .unset, .unset] [(.int ((vi4 &&& (2147483647 : Int32)) % (63 : Int32))), (.long (1 : Int64)), (.double FP.dconst1)])) _
    refine XS.lshl X0.here hx rfl (hb hby at_54) rfl ?_
    show Steps p.tables e below (s₁.setTop (mkF m 55 #[.val (.long vj0), .second, .val (.long vj1), .second, .val (.long vj2), .second, .val (.long vj3), .second, .val (.int vi4), .val (.long ((4503599627370496 : Int64) + (vj0 &&& (2251799813685247 : Int64)))), .second, .val (.long (((4503599627370496 : Int64) + (vj0 &&& (2251799813685247 : Int64))) + (vj1 &&& (1125899906842623 : Int64)))), .second, .val (.long (vj2 &&& (4503599627370495 : Int64))), .second, .val (.long ((vj2 &&& (4503599627370495 : Int64)) + (vj3 &&& (1125899906842623 : Int64)))), .second, .val (.int ((vi4 &&& (2147483647 : Int32)) % (63 : Int32))), .unset, .unset, .unset, .unset, .unset, .unset, .unset, .unset, .unset, .unset, .unset, .unset, .unset] [(.long ((1 : Int64) <<< (((vi4 &&& (2147483647 : Int32)) % (63 : Int32)) &&& 0x3f).toInt64)), (.double FP.dconst1)])) _
    refine XS.l2dS X0.here hx rfl (hb hby at_55) rfl rfl ?_
    show Steps p.tables e below (s₁.setTop (mkF m 56 #[.val (.long vj0), .second, .val (.long vj1), .second, .val (.long vj2), .second, .val (.long vj3), .second, .val (.int vi4), .val (.long ((4503599627370496 : Int64) + (vj0 &&& (2251799813685247 : Int64)))), .second, .val (.long (((4503599627370496 : Int64) + (vj0 &&& (2251799813685247 : Int64))) + (vj1 &&& (1125899906842623 : Int64)))), .second, .val (.long (vj2 &&& (4503599627370495 : Int64))), .second, .val (.long ((vj2 &&& (4503599627370495 : Int64)) + (vj3 &&& (1125899906842623 : Int64)))), .second, .val (.int ((vi4 &&& (2147483647 : Int32)) % (63 : Int32))), .unset, .unset, .unset, .unset, .unset, .unset, .unset, .unset, .unset, .unset, .unset, .unset, .unset] [(.double (FP.l2d ((1 : Int64) <<< (((vi4 &&& (2147483647 : Int32)) % (63 : Int32)) &&& 0x3f).toInt64))), (.double FP.dconst1)])) _
    refine XS.ddivS X0.here hx rfl (hb hby at_56) rfl hn56 rfl ?_
    show Steps p.tables e below (s₁.setTop (mkF m 57 #[.val (.long vj0), .second, .val (.long vj1), .second, .val (.long vj2), .second, .val (.long vj3), .second, .val (.int vi4), .val (.long ((4503599627370496 : Int64) + (vj0 &&& (2251799813685247 : Int64)))), .second, .val (.long (((4503599627370496 : Int64) + (vj0 &&& (2251799813685247 : Int64))) + (vj1 &&& (1125899906842623 : Int64)))), .second, .val (.long (vj2 &&& (4503599627370495 : Int64))), .second, .val (.long ((vj2 &&& (4503599627370495 : Int64)) + (vj3 &&& (1125899906842623 : Int64)))), .second, .val (.int ((vi4 &&& (2147483647 : Int32)) % (63 : Int32))), .unset, .unset, .unset, .unset, .unset, .unset, .unset, .unset, .unset, .unset, .unset, .unset, .unset] [(.double (FP.ddiv FP.dconst1 (FP.l2d ((1 : Int64) <<< (((vi4 &&& (2147483647 : Int32)) % (63 : Int32)) &&& 0x3f).toInt64))))])) _
    refine XS.dstore X0.here hx rfl (hb hby at_57) rfl (l' := #[.val (.long vj0), .second, .val (.long vj1), .second, .val (.long vj2), .second, .val (.long vj3), .second, .val (.int vi4), .val (.long ((4503599627370496 : Int64) + (vj0 &&& (2251799813685247 : Int64)))), .second, .val (.long (((4503599627370496 : Int64) + (vj0 &&& (2251799813685247 : Int64))) + (vj1 &&& (1125899906842623 : Int64)))), .second, .val (.long (vj2 &&& (4503599627370495 : Int64))), .second, .val (.long ((vj2 &&& (4503599627370495 : Int64)) + (vj3 &&& (1125899906842623 : Int64)))), .second, .val (.int ((vi4 &&& (2147483647 : Int32)) % (63 : Int32))), .val (.double (FP.ddiv FP.dconst1 (FP.l2d ((1 : Int64) <<< (((vi4 &&& (2147483647 : Int32)) % (63 : Int32)) &&& 0x3f).toInt64)))), .second, .unset, .unset, .unset, .unset, .unset, .unset, .unset, .unset, .unset, .unset, .unset]) rfl ?_
    show Steps p.tables e below (s₁.setTop (mkF m 59 #[.val (.long vj0), .second, .val (.long vj1), .second, .val (.long vj2), .second, .val (.long vj3), .second, .val (.int vi4), .val (.long ((4503599627370496 : Int64) + (vj0 &&& (2251799813685247 : Int64)))), .second, .val (.long (((4503599627370496 : Int64) + (vj0 &&& (2251799813685247 : Int64))) + (vj1 &&& (1125899906842623 : Int64)))), .second, .val (.long (vj2 &&& (4503599627370495 : Int64))), .second, .val (.long ((vj2 &&& (4503599627370495 : Int64)) + (vj3 &&& (1125899906842623 : Int64)))), .second, .val (.int ((vi4 &&& (2147483647 : Int32)) % (63 : Int32))), .val (.double (FP.ddiv FP.dconst1 (FP.l2d ((1 : Int64) <<< (((vi4 &&& (2147483647 : Int32)) % (63 : Int32)) &&& 0x3f).toInt64)))), .second, .unset, .unset, .unset, .unset, .unset, .unset, .unset, .unset, .unset, .unset, .unset] [])) _
    refine st1 _ ?_
    show Steps p.tables e below (T1.setTop (mkF m 62 #[.val (.long vj0), .second, .val (.long vj1), .second, .val (.long vj2), .second, .val (.long vj3), .second, .val (.int vi4), .val (.long ((4503599627370496 : Int64) + (vj0 &&& (2251799813685247 : Int64)))), .second, .val (.long (((4503599627370496 : Int64) + (vj0 &&& (2251799813685247 : Int64))) + (vj1 &&& (1125899906842623 : Int64)))), .second, .val (.long (vj2 &&& (4503599627370495 : Int64))), .second, .val (.long ((vj2 &&& (4503599627370495 : Int64)) + (vj3 &&& (1125899906842623 : Int64)))), .second, .val (.int ((vi4 &&& (2147483647 : Int32)) % (63 : Int32))), .val (.double (FP.ddiv FP.dconst1 (FP.l2d ((1 : Int64) <<< (((vi4 &&& (2147483647 : Int32)) % (63 : Int32)) &&& 0x3f).toInt64)))), .second, .unset, .unset, .unset, .unset, .unset, .unset, .unset, .unset, .unset, .unset, .unset] [(.ref b1)])) _
    refine XS.dup X1.here hx rfl (hb hby at_62) rfl rfl ?_
    show Steps p.tables e below (T1.setTop (mkF m 63 #[.val (.long vj0), .second, .val (.long vj1), .second, .val (.long vj2), .second, .val (.long vj3), .second, .val (.int vi4), .val (.long ((4503599627370496 : Int64) + (vj0 &&& (2251799813685247 : Int64)))), .second, .val (.long (((4503599627370496 : Int64) + (vj0 &&& (2251799813685247 : Int64))) + (vj1 &&& (1125899906842623 : Int64)))), .second, .val (.long (vj2 &&& (4503599627370495 : Int64))), .second, .val (.long ((vj2 &&& (4503599627370495 : Int64)) + (vj3 &&& (1125899906842623 : Int64)))), .second, .val (.int ((vi4 &&& (2147483647 : Int32)) % (63 : Int32))), .val (.double (FP.ddiv FP.dconst1 (FP.l2d ((1 : Int64) <<< (((vi4 &&& (2147483647 : Int32)) % (63 : Int32)) &&& 0x3f).toInt64)))), .second, .unset, .unset, .unset, .unset, .unset, .unset, .unset, .unset, .unset, .unset, .unset] [(.ref b1), (.ref b1)])) _
    refine XS.lload X1.here hx rfl (hb hby at_63) rfl ?_
    show Steps p.tables e below (T1.setTop (mkF m 65 #[.val (.long vj0), .second, .val (.long vj1), .second, .val (.long vj2), .second, .val (.long vj3), .second, .val (.int vi4), .val (.long ((4503599627370496 : Int64) + (vj0 &&& (2251799813685247 : Int64)))), .second, .val (.long (((4503599627370496 : Int64) + (vj0 &&& (2251799813685247 : Int64))) + (vj1 &&& (1125899906842623 : Int64)))), .second, .val (.long (vj2 &&& (4503599627370495 : Int64))), .second, .val (.long ((vj2 &&& (4503599627370495 : Int64)) + (vj3 &&& (1125899906842623 : Int64)))), .second, .val (.int ((vi4 &&& (2147483647 : Int32)) % (63 : Int32))), .val (.double (FP.ddiv FP.dconst1 (FP.l2d ((1 : Int64) <<< (((vi4 &&& (2147483647 : Int32)) % (63 : Int32)) &&& 0x3f).toInt64)))), .second, .unset, .unset, .unset, .unset, .unset, .unset, .unset, .unset, .unset, .unset, .unset] [(.long ((4503599627370496 : Int64) + (vj0 &&& (2251799813685247 : Int64)))), (.ref b1), (.ref b1)])) _
    refine XS.l2dS X1.here hx rfl (hb hby at_65) rfl rfl ?_
    show Steps p.tables e below (T1.setTop (mkF m 66 #[.val (.long vj0), .second, .val (.long vj1), .second, .val (.long vj2), .second, .val (.long vj3), .second, .val (.int vi4), .val (.long ((4503599627370496 : Int64) + (vj0 &&& (2251799813685247 : Int64)))), .second, .val (.long (((4503599627370496 : Int64) + (vj0 &&& (2251799813685247 : Int64))) + (vj1 &&& (1125899906842623 : Int64)))), .second, .val (.long (vj2 &&& (4503599627370495 : Int64))), .second, .val (.long ((vj2 &&& (4503599627370495 : Int64)) + (vj3 &&& (1125899906842623 : Int64)))), .second, .val (.int ((vi4 &&& (2147483647 : Int32)) % (63 : Int32))), .val (.double (FP.ddiv FP.dconst1 (FP.l2d ((1 : Int64) <<< (((vi4 &&& (2147483647 : Int32)) % (63 : Int32)) &&& 0x3f).toInt64)))), .second, .unset, .unset, .unset, .unset, .unset, .unset, .unset, .unset, .unset, .unset, .unset] [(.double (FP.l2d ((4503599627370496 : Int64) + (vj0 &&& (2251799813685247 : Int64))))), (.ref b1), (.ref b1)])) _
    refine XS.dload X1.here hx rfl (hb hby at_66) rfl ?_
    show Steps p.tables e below (T1.setTop (mkF m 68 #[.val (.long vj0), .second, .val (.long vj1), .second, .val (.long vj2), .second, .val (.long vj3), .second, .val (.int vi4), .val (.long ((4503599627370496 : Int64) + (vj0 &&& (2251799813685247 : Int64)))), .second, .val (.long (((4503599627370496 : Int64) + (vj0 &&& (2251799813685247 : Int64))) + (vj1 &&& (1125899906842623 : Int64)))), .second, .val (.long (vj2 &&& (4503599627370495 : Int64))), .second, .val (.long ((vj2 &&& (4503599627370495 : Int64)) + (vj3 &&& (1125899906842623 : Int64)))), .second, .val (.int ((vi4 &&& (2147483647 : Int32)) % (63 : Int32))), .val (.double (FP.ddiv FP.dconst1 (FP.l2d ((1 : Int64) <<< (((vi4 &&& (2147483647 : Int32)) % (63 : Int32)) &&& 0x3f).toInt64)))), .second, .unset, .unset, .unset, .unset, .unset, .unset, .unset, .unset, .unset, .unset, .unset] [(.double (FP.ddiv FP.dconst1 (FP.l2d ((1 : Int64) <<< (((vi4 &&& (2147483647 : Int32)) % (63 : Int32)) &&& 0x3f).toInt64)))), (.double (FP.l2d ((4503599627370496 : Int64) + (vj0 &&& (2251799813685247 : Int64))))), (.ref b1), (.ref b1)])) _
    refine XS.dmulS X1.here hx rfl (hb hby at_68) rfl hn68 rfl ?_
    show Steps p.tables e below (T1.setTop (mkF m 69 #[.val (.long vj0), .second, .val (.long vj1), .second, .val (.long vj2), .second, .val (.long vj3), .second, .val (.int vi4), .val (.long ((4503599627370496 : Int64) + (vj0 &&& (2251799813685247 : Int64)))), .second, .val (.long (((4503599627370496 : Int64) + (vj0 &&& (2251799813685247 : Int64))) + (vj1 &&& (1125899906842623 : Int64)))), .second, .val (.long (vj2 &&& (4503599627370495 : Int64))), .second, .val (.long ((vj2 &&& (4503599627370495 : Int64)) + (vj3 &&& (1125899906842623 : Int64)))), .second, .val (.int ((vi4 &&& (2147483647 : Int32)) % (63 : Int32))), .val (.double (FP.ddiv FP.dconst1 (FP.l2d ((1 : Int64) <<< (((vi4 &&& (2147483647 : Int32)) % (63 : Int32)) &&& 0x3f).toInt64)))), .second, .unset, .unset, .unset, .unset, .unset, .unset, .unset, .unset, .unset, .unset, .unset] [(.double (FP.dmul (FP.l2d ((4503599627370496 : Int64) + (vj0 &&& (2251799813685247 : Int64)))) (FP.ddiv FP.dconst1 (FP.l2d ((1 : Int64) <<< (((vi4 &&& (2147483647 : Int32)) % (63 : Int32)) &&& 0x3f).toInt64))))), (.ref b1), (.ref b1)])) _
    refine XS.lload X1.here hx rfl (hb hby at_69) rfl ?_
    show Steps p.tables e below (T1.setTop (mkF m 71 #[.val (.long vj0), .second, .val (.long vj1), .second, .val (.long vj2), .second, .val (.long vj3), .second, .val (.int vi4), .val (.long ((4503599627370496 : Int64) + (vj0 &&& (2251799813685247 : Int64)))), .second, .val (.long (((4503599627370496 : Int64) + (vj0 &&& (2251799813685247 : Int64))) + (vj1 &&& (1125899906842623 : Int64)))), .second, .val (.long (vj2 &&& (4503599627370495 : Int64))), .second, .val (.long ((vj2 &&& (4503599627370495 : Int64)) + (vj3 &&& (1125899906842623 : Int64)))), .second, .val (.int ((vi4 &&& (2147483647 : Int32)) % (63 : Int32))), .val (.double (FP.ddiv FP.dconst1 (FP.l2d ((1 : Int64) <<< (((vi4 &&& (2147483647 : Int32)) % (63 : Int32)) &&& 0x3f).toInt64)))), .second, .unset, .unset, .unset, .unset, .unset, .unset, .unset, .unset, .unset, .unset, .unset] [(.long (((4503599627370496 : Int64) + (vj0 &&& (2251799813685247 : Int64))) + (vj1 &&& (1125899906842623 : Int64)))), (.double (FP.dmul (FP.l2d ((4503599627370496 : Int64) + (vj0 &&& (2251799813685247 : Int64)))) (FP.ddiv FP.dconst1 (FP.l2d ((1 : Int64) <<< (((vi4 &&& (2147483647 : Int32)) % (63 : Int32)) &&& 0x3f).toInt64))))), (.ref b1), (.ref b1)])) _
    refine XS.l2dS X1.here hx rfl (hb hby at_71) rfl rfl ?_
    show Steps p.tables e below (T1.setTop (mkF m 72 #[.val (.long vj0), .second, .val (.long vj1), .second, .val (.long vj2), .second, .val (.long vj3), .second, .val (.int vi4), .val (.long ((4503599627370496 : Int64) + (vj0 &&& (2251799813685247 : Int64)))), .second, .val (.long (((4503599627370496 : Int64) + (vj0 &&& (2251799813685247 : Int64))) + (vj1 &&& (1125899906842623 : Int64)))), .second, .val (.long (vj2 &&& (4503599627370495 : Int64))), .second, .val (.long ((vj2 &&& (4503599627370495 : Int64)) + (vj3 &&& (1125899906842623 : Int64)))), .second, .val (.int ((vi4 &&& (2147483647 : Int32)) % (63 : Int32))), .val (.double (FP.ddiv FP.dconst1 (FP.l2d ((1 : Int64) <<< (((vi4 &&& (2147483647 : Int32)) % (63 : Int32)) &&& 0x3f).toInt64)))), .second, .unset, .unset, .unset, .unset, .unset, .unset, .unset, .unset, .unset, .unset, .unset] [(.double (FP.l2d (((4503599627370496 : Int64) + (vj0 &&& (2251799813685247 : Int64))) + (vj1 &&& (1125899906842623 : Int64))))), (.double (FP.dmul (FP.l2d ((4503599627370496 : Int64) + (vj0 &&& (2251799813685247 : Int64)))) (FP.ddiv FP.dconst1 (FP.l2d ((1 : Int64) <<< (((vi4 &&& (2147483647 : Int32)) % (63 : Int32)) &&& 0x3f).toInt64))))), (.ref b1), (.ref b1)])) _
    refine XS.dload X1.here hx rfl (hb hby at_72) rfl ?_
    show Steps p.tables e below (T1.setTop (mkF m 74 #[.val (.long vj0), .second, .val (.long vj1), .second, .val (.long vj2), .second, .val (.long vj3), .second, .val (.int vi4), .val (.long ((4503599627370496 : Int64) + (vj0 &&& (2251799813685247 : Int64)))), .second, .val (.long (((4503599627370496 : Int64) + (vj0 &&& (2251799813685247 : Int64))) + (vj1 &&& (1125899906842623 : Int64)))), .second, .val (.long (vj2 &&& (4503599627370495 : Int64))), .second, .val (.long ((vj2 &&& (4503599627370495 : Int64)) + (vj3 &&& (1125899906842623 : Int64)))), .second, .val (.int ((vi4 &&& (2147483647 : Int32)) % (63 : Int32))), .val (.double (FP.ddiv FP.dconst1 (FP.l2d ((1 : Int64) <<< (((vi4 &&& (2147483647 : Int32)) % (63 : Int32)) &&& 0x3f).toInt64)))), .second, .unset, .unset, .unset, .unset, .unset, .unset, .unset, .unset, .unset, .unset, .unset] [(.double (FP.ddiv FP.dconst1 (FP.l2d ((1 : Int64) <<< (((vi4 &&& (2147483647 : Int32)) % (63 : Int32)) &&& 0x3f).toInt64)))), (.double (FP.l2d (((4503599627370496 : Int64) + (vj0 &&& (2251799813685247 : Int64))) + (vj1 &&& (1125899906842623 : Int64))))), (.double (FP.dmul (FP.l2d ((4503599627370496 : Int64) + (vj0 &&& (2251799813685247 : Int64)))) (FP.ddiv FP.dconst1 (FP.l2d ((1 : Int64) <<< (((vi4 &&& (2147483647 : Int32)) % (63 : Int32)) &&& 0x3f).toInt64))))), (.ref b1), (.ref b1)])) _
    refine XS.dmulS X1.here hx rfl (hb hby at_74) rfl hn74 rfl ?_
    show Steps p.tables e below (T1.setTop (mkF m 75 #[.val (.long vj0), .second, .val (.long vj1), .second, .val (.long vj2), .second, .val (.long vj3), .second, .val (.int vi4), .val (.long ((4503599627370496 : Int64) + (vj0 &&& (2251799813685247 : Int64)))), .second, .val (.long (((4503599627370496 : Int64) + (vj0 &&& (2251799813685247 : Int64))) + (vj1 &&& (1125899906842623 : Int64)))), .second, .val (.long (vj2 &&& (4503599627370495 : Int64))), .second, .val (.long ((vj2 &&& (4503599627370495 : Int64)) + (vj3 &&& (1125899906842623 : Int64)))), .second, .val (.int ((vi4 &&& (2147483647 : Int32)) % (63 : Int32))), .val (.double (FP.ddiv FP.dconst1 (FP.l2d ((1 : Int64) <<< (((vi4 &&& (2147483647 : Int32)) % (63 : Int32)) &&& 0x3f).toInt64)))), .second, .unset, .unset, .unset, .unset, .unset, .unset, .unset, .unset, .unset, .unset, .unset] [(.double (FP.dmul (FP.l2d (((4503599627370496 : Int64) + (vj0 &&& (2251799813685247 : Int64))) + (vj1 &&& (1125899906842623 : Int64)))) (FP.ddiv FP.dconst1 (FP.l2d ((1 : Int64) <<< (((vi4 &&& (2147483647 : Int32)) % (63 : Int32)) &&& 0x3f).toInt64))))), (.double (FP.dmul (FP.l2d ((4503599627370496 : Int64) + (vj0 &&& (2251799813685247 : Int64)))) (FP.ddiv FP.dconst1 (FP.l2d ((1 : Int64) <<< (((vi4 &&& (2147483647 : Int32)) % (63 : Int32)) &&& 0x3f).toInt64))))), (.ref b1), (.ref b1)])) _
    refine st2.trans ?_
    show Steps p.tables e below (T2.setTop (mkF m 78 #[.val (.long vj0), .second, .val (.long vj1), .second, .val (.long vj2), .second, .val (.long vj3), .second, .val (.int vi4), .val (.long ((4503599627370496 : Int64) + (vj0 &&& (2251799813685247 : Int64)))), .second, .val (.long (((4503599627370496 : Int64) + (vj0 &&& (2251799813685247 : Int64))) + (vj1 &&& (1125899906842623 : Int64)))), .second, .val (.long (vj2 &&& (4503599627370495 : Int64))), .second, .val (.long ((vj2 &&& (4503599627370495 : Int64)) + (vj3 &&& (1125899906842623 : Int64)))), .second, .val (.int ((vi4 &&& (2147483647 : Int32)) % (63 : Int32))), .val (.double (FP.ddiv FP.dconst1 (FP.l2d ((1 : Int64) <<< (((vi4 &&& (2147483647 : Int32)) % (63 : Int32)) &&& 0x3f).toInt64)))), .second, .unset, .unset, .unset, .unset, .unset, .unset, .unset, .unset, .unset, .unset, .unset] [(.ref b1)])) _
    refine XS.astore X2.here hx rfl (hb hby at_78) rfl rfl (l' := #[.val (.long vj0), .second, .val (.long vj1), .second, .val (.long vj2), .second, .val (.long vj3), .second, .val (.int vi4), .val (.long ((4503599627370496 : Int64) + (vj0 &&& (2251799813685247 : Int64)))), .second, .val (.long (((4503599627370496 : Int64) + (vj0 &&& (2251799813685247 : Int64))) + (vj1 &&& (1125899906842623 : Int64)))), .second, .val (.long (vj2 &&& (4503599627370495 : Int64))), .second, .val (.long ((vj2 &&& (4503599627370495 : Int64)) + (vj3 &&& (1125899906842623 : Int64)))), .second, .val (.int ((vi4 &&& (2147483647 : Int32)) % (63 : Int32))), .val (.double (FP.ddiv FP.dconst1 (FP.l2d ((1 : Int64) <<< (((vi4 &&& (2147483647 : Int32)) % (63 : Int32)) &&& 0x3f).toInt64)))), .second, .val (.ref b1), .unset, .unset, .unset, .unset, .unset, .unset, .unset, .unset, .unset, .unset]) rfl ?_
    show Steps p.tables e below (T2.setTop (mkF m 80 #[.val (.long vj0), .second, .val (.long vj1), .second, .val (.long vj2), .second, .val (.long vj3), .second, .val (.int vi4), .val (.long ((4503599627370496 : Int64) + (vj0 &&& (2251799813685247 : Int64)))), .second, .val (.long (((4503599627370496 : Int64) + (vj0 &&& (2251799813685247 : Int64))) + (vj1 &&& (1125899906842623 : Int64)))), .second, .val (.long (vj2 &&& (4503599627370495 : Int64))), .second, .val (.long ((vj2 &&& (4503599627370495 : Int64)) + (vj3 &&& (1125899906842623 : Int64)))), .second, .val (.int ((vi4 &&& (2147483647 : Int32)) % (63 : Int32))), .val (.double (FP.ddiv FP.dconst1 (FP.l2d ((1 : Int64) <<< (((vi4 &&& (2147483647 : Int32)) % (63 : Int32)) &&& 0x3f).toInt64)))), .second, .val (.ref b1), .unset, .unset, .unset, .unset, .unset, .unset, .unset, .unset, .unset, .unset] [])) _
    refine st3 _ ?_
    show Steps p.tables e below (T3.setTop (mkF m 83 #[.val (.long vj0), .second, .val (.long vj1), .second, .val (.long vj2), .second, .val (.long vj3), .second, .val (.int vi4), .val (.long ((4503599627370496 : Int64) + (vj0 &&& (2251799813685247 : Int64)))), .second, .val (.long (((4503599627370496 : Int64) + (vj0 &&& (2251799813685247 : Int64))) + (vj1 &&& (1125899906842623 : Int64)))), .second, .val (.long (vj2 &&& (4503599627370495 : Int64))), .second, .val (.long ((vj2 &&& (4503599627370495 : Int64)) + (vj3 &&& (1125899906842623 : Int64)))), .second, .val (.int ((vi4 &&& (2147483647 : Int32)) % (63 : Int32))), .val (.double (FP.ddiv FP.dconst1 (FP.l2d ((1 : Int64) <<< (((vi4 &&& (2147483647 : Int32)) % (63 : Int32)) &&& 0x3f).toInt64)))), .second, .val (.ref b1), .unset, .unset, .unset, .unset, .unset, .unset, .unset, .unset, .unset, .unset] [(.ref b3)])) _
    refine XS.dup X3.here hx rfl (hb hby at_83) rfl rfl ?_
    show Steps p.tables e below (T3.setTop (mkF m 84 #[.val (.long vj0), .second, .val (.long vj1), .second, .val (.long vj2), .second, .val (.long vj3), .second, .val (.int vi4), .val (.long ((4503599627370496 : Int64) + (vj0 &&& (2251799813685247 : Int64)))), .second, .val (.long (((4503599627370496 : Int64) + (vj0 &&& (2251799813685247 : Int64))) + (vj1 &&& (1125899906842623 : Int64)))), .second, .val (.long (vj2 &&& (4503599627370495 : Int64))), .second, .val (.long ((vj2 &&& (4503599627370495 : Int64)) + (vj3 &&& (1125899906842623 : Int64)))), .second, .val (.int ((vi4 &&& (2147483647 : Int32)) % (63 : Int32))), .val (.double (FP.ddiv FP.dconst1 (FP.l2d ((1 : Int64) <<< (((vi4 &&& (2147483647 : Int32)) % (63 : Int32)) &&& 0x3f).toInt64)))), .second, .val (.ref b1), .unset, .unset, .unset, .unset, .unset, .unset, .unset, .unset, .unset, .unset] [(.ref b3), (.ref b3)])) _
    refine XS.lload X3.here hx rfl (hb hby at_84) rfl ?_
    show Steps p.tables e below (T3.setTop (mkF m 86 #[.val (.long vj0), .second, .val (.long vj1), .second, .val (.long vj2), .second, .val (.long vj3), .second, .val (.int vi4), .val (.long ((4503599627370496 : Int64) + (vj0 &&& (2251799813685247 : Int64)))), .second, .val (.long (((4503599627370496 : Int64) + (vj0 &&& (2251799813685247 : Int64))) + (vj1 &&& (1125899906842623 : Int64)))), .second, .val (.long (vj2 &&& (4503599627370495 : Int64))), .second, .val (.long ((vj2 &&& (4503599627370495 : Int64)) + (vj3 &&& (1125899906842623 : Int64)))), .second, .val (.int ((vi4 &&& (2147483647 : Int32)) % (63 : Int32))), .val (.double (FP.ddiv FP.dconst1 (FP.l2d ((1 : Int64) <<< (((vi4 &&& (2147483647 : Int32)) % (63 : Int32)) &&& 0x3f).toInt64)))), .second, .val (.ref b1), .unset, .unset, .unset, .unset, .unset, .unset, .unset, .unset, .unset, .unset] [(.long (vj2 &&& (4503599627370495 : Int64))), (.ref b3), (.ref b3)])) _
    refine XS.l2dS X3.here hx rfl (hb hby at_86) rfl rfl ?_
    show Steps p.tables e below (T3.setTop (mkF m 87 #[.val (.long vj0), .second, .val (.long vj1), .second, .val (.long vj2), .second, .val (.long vj3), .second, .val (.int vi4), .val (.long ((4503599627370496 : Int64) + (vj0 &&& (2251799813685247 : Int64)))), .second, .val (.long (((4503599627370496 : Int64) + (vj0 &&& (2251799813685247 : Int64))) + (vj1 &&& (1125899906842623 : Int64)))), .second, .val (.long (vj2 &&& (4503599627370495 : Int64))), .second, .val (.long ((vj2 &&& (4503599627370495 : Int64)) + (vj3 &&& (1125899906842623 : Int64)))), .second, .val (.int ((vi4 &&& (2147483647 : Int32)) % (63 : Int32))), .val (.double (FP.ddiv FP.dconst1 (FP.l2d ((1 : Int64) <<< (((vi4 &&& (2147483647 : Int32)) % (63 : Int32)) &&& 0x3f).toInt64)))), .second, .val (.ref b1), .unset, .unset, .unset, .unset, .unset, .unset, .unset, .unset, .unset, .unset] [(.double (FP.l2d (vj2 &&& (4503599627370495 : Int64)))), (.ref b3), (.ref b3)])) _
    refine XS.dload X3.here hx rfl (hb hby at_87) rfl ?_
    show Steps p.tables e below (T3.setTop (mkF m 89 #[.val (.long vj0), .second, .val (.long vj1), .second, .val (.long vj2), .second, .val (.long vj3), .second, .val (.int vi4), .val (.long ((4503599627370496 : Int64) + (vj0 &&& (2251799813685247 : Int64)))), .second, .val (.long (((4503599627370496 : Int64) + (vj0 &&& (2251799813685247 : Int64))) + (vj1 &&& (1125899906842623 : Int64)))), .second, .val (.long (vj2 &&& (4503599627370495 : Int64))), .second, .val (.long ((vj2 &&& (4503599627370495 : Int64)) + (vj3 &&& (1125899906842623 : Int64)))), .second, .val (.int ((vi4 &&& (2147483647 : Int32)) % (63 : Int32))), .val (.double (FP.ddiv FP.dconst1 (FP.l2d ((1 : Int64) <<< (((vi4 &&& (2147483647 : Int32)) % (63 : Int32)) &&& 0x3f).toInt64)))), .second, .val (.ref b1), .unset, .unset, .unset, .unset, .unset, .unset, .unset, .unset, .unset, .unset] [(.double (FP.ddiv FP.dconst1 (FP.l2d ((1 : Int64) <<< (((vi4 &&& (2147483647 : Int32)) % (63 : Int32)) &&& 0x3f).toInt64)))), (.double (FP.l2d (vj2 &&& (4503599627370495 : Int64)))), (.ref b3), (.ref b3)])) _
    refine XS.dmulS X3.here hx rfl (hb hby at_89) rfl hn89 rfl ?_
    show Steps p.tables e below (T3.setTop (mkF m 90 #[.val (.long vj0), .second, .val (.long vj1), .second, .val (.long vj2), .second, .val (.long vj3), .second, .val (.int vi4), .val (.long ((4503599627370496 : Int64) + (vj0 &&& (2251799813685247 : Int64)))), .second, .val (.long (((4503599627370496 : Int64) + (vj0 &&& (2251799813685247 : Int64))) + (vj1 &&& (1125899906842623 : Int64)))), .second, .val (.long (vj2 &&& (4503599627370495 : Int64))), .second, .val (.long ((vj2 &&& (4503599627370495 : Int64)) + (vj3 &&& (1125899906842623 : Int64)))), .second, .val (.int ((vi4 &&& (2147483647 : Int32)) % (63 : Int32))), .val (.double (FP.ddiv FP.dconst1 (FP.l2d ((1 : Int64) <<< (((vi4 &&& (2147483647 : Int32)) % (63 : Int32)) &&& 0x3f).toInt64)))), .second, .val (.ref b1), .unset, .unset, .unset, .unset, .unset, .unset, .unset, .unset, .unset, .unset] [(.double (FP.dmul (FP.l2d (vj2 &&& (4503599627370495 : Int64))) (FP.ddiv FP.dconst1 (FP.l2d ((1 : Int64) <<< (((vi4 &&& (2147483647 : Int32)) % (63 : Int32)) &&& 0x3f).toInt64))))), (.ref b3), (.ref b3)])) _
    refine XS.lload X3.here hx rfl (hb hby at_90) rfl ?_
    show Steps p.tables e below (T3.setTop (mkF m 92 #[.val (.long vj0), .second, .val (.long vj1), .second, .val (.long vj2), .second, .val (.long vj3), .second, .val (.int vi4), .val (.long ((4503599627370496 : Int64) + (vj0 &&& (2251799813685247 : Int64)))), .second, .val (.long (((4503599627370496 : Int64) + (vj0 &&& (2251799813685247 : Int64))) + (vj1 &&& (1125899906842623 : Int64)))), .second, .val (.long (vj2 &&& (4503599627370495 : Int64))), .second, .val (.long ((vj2 &&& (4503599627370495 : Int64)) + (vj3 &&& (1125899906842623 : Int64)))), .second, .val (.int ((vi4 &&& (2147483647 : Int32)) % (63 : Int32))), .val (.double (FP.ddiv FP.dconst1 (FP.l2d ((1 : Int64) <<< (((vi4 &&& (2147483647 : Int32)) % (63 : Int32)) &&& 0x3f).toInt64)))), .second, .val (.ref b1), .unset, .unset, .unset, .unset, .unset, .unset, .unset, .unset, .unset, .unset] [(.long ((vj2 &&& (4503599627370495 : Int64)) + (vj3 &&& (1125899906842623 : Int64)))), (.double (FP.dmul (FP.l2d (vj2 &&& (4503599627370495 : Int64))) (FP.ddiv FP.dconst1 (FP.l2d ((1 : Int64) <<< (((vi4 &&& (2147483647 : Int32)) % (63 : Int32)) &&& 0x3f).toInt64))))), (.ref b3), (.ref b3)])) _
    refine XS.l2dS X3.here hx rfl (hb hby at_92) rfl rfl ?_
    show Steps p.tables e below (T3.setTop (mkF m 93 #[.val (.long vj0), .second, .val (.long vj1), .second, .val (.long vj2), .second, .val (.long vj3), .second, .val (.int vi4), .val (.long ((4503599627370496 : Int64) + (vj0 &&& (2251799813685247 : Int64)))), .second, .val (.long (((4503599627370496 : Int64) + (vj0 &&& (2251799813685247 : Int64))) + (vj1 &&& (1125899906842623 : Int64)))), .second, .val (.long (vj2 &&& (4503599627370495 : Int64))), .second, .val (.long ((vj2 &&& (4503599627370495 : Int64)) + (vj3 &&& (1125899906842623 : Int64)))), .second, .val (.int ((vi4 &&& (2147483647 : Int32)) % (63 : Int32))), .val (.double (FP.ddiv FP.dconst1 (FP.l2d ((1 : Int64) <<< (((vi4 &&& (2147483647 : Int32)) % (63 : Int32)) &&& 0x3f).toInt64)))), .second, .val (.ref b1), .unset, .unset, .unset, .unset, .unset, .unset, .unset, .unset, .unset, .unset] [(.double (FP.l2d ((vj2 &&& (4503599627370495 : Int64)) + (vj3 &&& (1125899906842623 : Int64))))), (.double (FP.dmul (FP.l2d (vj2 &&& (4503599627370495 : Int64))) (FP.ddiv FP.dconst1 (FP.l2d ((1 : Int64) <<< (((vi4 &&& (2147483647 : Int32)) % (63 : Int32)) &&& 0x3f).toInt64))))), (.ref b3), (.ref b3)])) _
    refine XS.dload X3.here hx rfl (hb hby at_93) rfl ?_
    show Steps p.tables e below (T3.setTop (mkF m 95 #[.val (.long vj0), .second, .val (.long vj1), .second, .val (.long vj2), .second, .val (.long vj3), .second, .val (.int vi4), .val (.long ((4503599627370496 : Int64) + (vj0 &&& (2251799813685247 : Int64)))), .second, .val (.long (((4503599627370496 : Int64) + (vj0 &&& (2251799813685247 : Int64))) + (vj1 &&& (1125899906842623 : Int64)))), .second, .val (.long (vj2 &&& (4503599627370495 : Int64))), .second, .val (.long ((vj2 &&& (4503599627370495 : Int64)) + (vj3 &&& (1125899906842623 : Int64)))), .second, .val (.int ((vi4 &&& (2147483647 : Int32)) % (63 : Int32))), .val (.double (FP.ddiv FP.dconst1 (FP.l2d ((1 : Int64) <<< (((vi4 &&& (2147483647 : Int32)) % (63 : Int32)) &&& 0x3f).toInt64)))), .second, .val (.ref b1), .unset, .unset, .unset, .unset, .unset, .unset, .unset, .unset, .unset, .unset] [(.double (FP.ddiv FP.dconst1 (FP.l2d ((1 : Int64) <<< (((vi4 &&& (2147483647 : Int32)) % (63 : Int32)) &&& 0x3f).toInt64)))), (.double (FP.l2d ((vj2 &&& (4503599627370495 : Int64)) + (vj3 &&& (1125899906842623 : Int64))))), (.double (FP.dmul (FP.l2d (vj2 &&& (4503599627370495 : Int64))) (FP.ddiv FP.dconst1 (FP.l2d ((1 : Int64) <<< (((vi4 &&& (2147483647 : Int32)) % (63 : Int32)) &&& 0x3f).toInt64))))), (.ref b3), (.ref b3)])) _
    refine XS.dmulS X3.here hx rfl (hb hby at_95) rfl hn95 rfl ?_
    show Steps p.tables e below (T3.setTop (mkF m 96 #[.val (.long vj0), .second, .val (.long vj1), .second, .val (.long vj2), .second, .val (.long vj3), .second, .val (.int vi4), .val (.long ((4503599627370496 : Int64) + (vj0 &&& (2251799813685247 : Int64)))), .second, .val (.long (((4503599627370496 : Int64) + (vj0 &&& (2251799813685247 : Int64))) + (vj1 &&& (1125899906842623 : Int64)))), .second, .val (.long (vj2 &&& (4503599627370495 : Int64))), .second, .val (.long ((vj2 &&& (4503599627370495 : Int64)) + (vj3 &&& (1125899906842623 : Int64)))), .second, .val (.int ((vi4 &&& (2147483647 : Int32)) % (63 : Int32))), .val (.double (FP.ddiv FP.dconst1 (FP.l2d ((1 : Int64) <<< (((vi4 &&& (2147483647 : Int32)) % (63 : Int32)) &&& 0x3f).toInt64)))), .second, .val (.ref b1), .unset, .unset, .unset, .unset, .unset, .unset, .unset, .unset, .unset, .unset] [(.double (FP.dmul (FP.l2d ((vj2 &&& (4503599627370495 : Int64)) + (vj3 &&& (1125899906842623 : Int64)))) (FP.ddiv FP.dconst1 (FP.l2d ((1 : Int64) <<< (((vi4 &&& (2147483647 : Int32)) % (63 : Int32)) &&& 0x3f).toInt64))))), (.double (FP.dmul (FP.l2d (vj2 &&& (4503599627370495 : Int64))) (FP.ddiv FP.dconst1 (FP.l2d ((1 : Int64) <<< (((vi4 &&& (2147483647 : Int32)) % (63 : Int32)) &&& 0x3f).toInt64))))), (.ref b3), (.ref b3)])) _
    refine st4.trans ?_
    show Steps p.tables e below (T4.setTop (mkF m 99 #[.val (.long vj0), .second, .val (.long vj1), .second, .val (.long vj2), .second, .val (.long vj3), .second, .val (.int vi4), .val (.long ((4503599627370496 : Int64) + (vj0 &&& (2251799813685247 : Int64)))), .second, .val (.long (((4503599627370496 : Int64) + (vj0 &&& (2251799813685247 : Int64))) + (vj1 &&& (1125899906842623 : Int64)))), .second, .val (.long (vj2 &&& (4503599627370495 : Int64))), .second, .val (.long ((vj2 &&& (4503599627370495 : Int64)) + (vj3 &&& (1125899906842623 : Int64)))), .second, .val (.int ((vi4 &&& (2147483647 : Int32)) % (63 : Int32))), .val (.double (FP.ddiv FP.dconst1 (FP.l2d ((1 : Int64) <<< (((vi4 &&& (2147483647 : Int32)) % (63 : Int32)) &&& 0x3f).toInt64)))), .second, .val (.ref b1), .unset, .unset, .unset, .unset, .unset, .unset, .unset, .unset, .unset, .unset] [(.ref b3)])) _
    refine XS.astore X4.here hx rfl (hb hby at_99) rfl rfl (l' := #[.val (.long vj0), .second, .val (.long vj1), .second, .val (.long vj2), .second, .val (.long vj3), .second, .val (.int vi4), .val (.long ((4503599627370496 : Int64) + (vj0 &&& (2251799813685247 : Int64)))), .second, .val (.long (((4503599627370496 : Int64) + (vj0 &&& (2251799813685247 : Int64))) + (vj1 &&& (1125899906842623 : Int64)))), .second, .val (.long (vj2 &&& (4503599627370495 : Int64))), .second, .val (.long ((vj2 &&& (4503599627370495 : Int64)) + (vj3 &&& (1125899906842623 : Int64)))), .second, .val (.int ((vi4 &&& (2147483647 : Int32)) % (63 : Int32))), .val (.double (FP.ddiv FP.dconst1 (FP.l2d ((1 : Int64) <<< (((vi4 &&& (2147483647 : Int32)) % (63 : Int32)) &&& 0x3f).toInt64)))), .second, .val (.ref b1), .val (.ref b3), .unset, .unset, .unset, .unset, .unset, .unset, .unset, .unset, .unset]) rfl ?_
    show Steps p.tables e below (T4.setTop (mkF m 101 #[.val (.long vj0), .second, .val (.long vj1), .second, .val (.long vj2), .second, .val (.long vj3), .second, .val (.int vi4), .val (.long ((4503599627370496 : Int64) + (vj0 &&& (2251799813685247 : Int64)))), .second, .val (.long (((4503599627370496 : Int64) + (vj0 &&& (2251799813685247 : Int64))) + (vj1 &&& (1125899906842623 : Int64)))), .second, .val (.long (vj2 &&& (4503599627370495 : Int64))), .second, .val (.long ((vj2 &&& (4503599627370495 : Int64)) + (vj3 &&& (1125899906842623 : Int64)))), .second, .val (.int ((vi4 &&& (2147483647 : Int32)) % (63 : Int32))), .val (.double (FP.ddiv FP.dconst1 (FP.l2d ((1 : Int64) <<< (((vi4 &&& (2147483647 : Int32)) % (63 : Int32)) &&& 0x3f).toInt64)))), .second, .val (.ref b1), .val (.ref b3), .unset, .unset, .unset, .unset, .unset, .unset, .unset, .unset, .unset] [])) _
    refine XS.aload X4.here hx rfl (hb hby at_101) rfl rfl ?_
    show Steps p.tables e below (T4.setTop (mkF m 103 #[.val (.long vj0), .second, .val (.long vj1), .second, .val (.long vj2), .second, .val (.long vj3), .second, .val (.int vi4), .val (.long ((4503599627370496 : Int64) + (vj0 &&& (2251799813685247 : Int64)))), .second, .val (.long (((4503599627370496 : Int64) + (vj0 &&& (2251799813685247 : Int64))) + (vj1 &&& (1125899906842623 : Int64)))), .second, .val (.long (vj2 &&& (4503599627370495 : Int64))), .second, .val (.long ((vj2 &&& (4503599627370495 : Int64)) + (vj3 &&& (1125899906842623 : Int64)))), .second, .val (.int ((vi4 &&& (2147483647 : Int32)) % (63 : Int32))), .val (.double (FP.ddiv FP.dconst1 (FP.l2d ((1 : Int64) <<< (((vi4 &&& (2147483647 : Int32)) % (63 : Int32)) &&& 0x3f).toInt64)))), .second, .val (.ref b1), .val (.ref b3), .unset, .unset, .unset, .unset, .unset, .unset, .unset, .unset, .unset] [(.ref b1)])) _
    refine XS.aload X4.here hx rfl (hb hby at_103) rfl rfl ?_
    show Steps p.tables e below (T4.setTop (mkF m 105 #[.val (.long vj0), .second, .val (.long vj1), .second, .val (.long vj2), .second, .val (.long vj3), .second, .val (.int vi4), .val (.long ((4503599627370496 : Int64) + (vj0 &&& (2251799813685247 : Int64)))), .second, .val (.long (((4503599627370496 : Int64) + (vj0 &&& (2251799813685247 : Int64))) + (vj1 &&& (1125899906842623 : Int64)))), .second, .val (.long (vj2 &&& (4503599627370495 : Int64))), .second, .val (.long ((vj2 &&& (4503599627370495 : Int64)) + (vj3 &&& (1125899906842623 : Int64)))), .second, .val (.int ((vi4 &&& (2147483647 : Int32)) % (63 : Int32))), .val (.double (FP.ddiv FP.dconst1 (FP.l2d ((1 : Int64) <<< (((vi4 &&& (2147483647 : Int32)) % (63 : Int32)) &&& 0x3f).toInt64)))), .second, .val (.ref b1), .val (.ref b3), .unset, .unset, .unset, .unset, .unset, .unset, .unset, .unset, .unset] [(.ref b3), (.ref b1)])) _
    refine st5.trans ?_
    show Steps p.tables e below (T5.setTop (mkF m 108 #[.val (.long vj0), .second, .val (.long vj1), .second, .val (.long vj2), .second, .val (.long vj3), .second, .val (.int vi4), .val (.long ((4503599627370496 : Int64) + (vj0 &&& (2251799813685247 : Int64)))), .second, .val (.long (((4503599627370496 : Int64) + (vj0 &&& (2251799813685247 : Int64))) + (vj1 &&& (1125899906842623 : Int64)))), .second, .val (.long (vj2 &&& (4503599627370495 : Int64))), .second, .val (.long ((vj2 &&& (4503599627370495 : Int64)) + (vj3 &&& (1125899906842623 : Int64)))), .second, .val (.int ((vi4 &&& (2147483647 : Int32)) % (63 : Int32))), .val (.double (FP.ddiv FP.dconst1 (FP.l2d ((1 : Int64) <<< (((vi4 &&& (2147483647 : Int32)) % (63 : Int32)) &&& 0x3f).toInt64)))), .second, .val (.ref b1), .val (.ref b3), .unset, .unset, .unset, .unset, .unset, .unset, .unset, .unset, .unset] [(.ref r5)])) _
    refine XS.astore X5.here hx rfl (hb hby at_108) rfl rfl (l' := #[.val (.long vj0), .second, .val (.long vj1), .second, .val (.long vj2), .second, .val (.long vj3), .second, .val (.int vi4), .val (.long ((4503599627370496 : Int64) + (vj0 &&& (2251799813685247 : Int64)))), .second, .val (.long (((4503599627370496 : Int64) + (vj0 &&& (2251799813685247 : Int64))) + (vj1 &&& (1125899906842623 : Int64)))), .second, .val (.long (vj2 &&& (4503599627370495 : Int64))), .second, .val (.long ((vj2 &&& (4503599627370495 : Int64)) + (vj3 &&& (1125899906842623 : Int64)))), .second, .val (.int ((vi4 &&& (2147483647 : Int32)) % (63 : Int32))), .val (.double (FP.ddiv FP.dconst1 (FP.l2d ((1 : Int64) <<< (((vi4 &&& (2147483647 : Int32)) % (63 : Int32)) &&& 0x3f).toInt64)))), .second, .val (.ref b1), .val (.ref b3), .val (.ref r5), .unset, .unset, .unset, .unset, .unset, .unset, .unset, .unset]) rfl ?_
    show Steps p.tables e below (T5.setTop (mkF m 110 #[.val (.long vj0), .second, .val (.long vj1), .second, .val (.long vj2), .second, .val (.long vj3), .second, .val (.int vi4), .val (.long ((4503599627370496 : Int64) + (vj0 &&& (2251799813685247 : Int64)))), .second, .val (.long (((4503599627370496 : Int64) + (vj0 &&& (2251799813685247 : Int64))) + (vj1 &&& (1125899906842623 : Int64)))), .second, .val (.long (vj2 &&& (4503599627370495 : Int64))), .second, .val (.long ((vj2 &&& (4503599627370495 : Int64)) + (vj3 &&& (1125899906842623 : Int64)))), .second, .val (.int ((vi4 &&& (2147483647 : Int32)) % (63 : Int32))), .val (.double (FP.ddiv FP.dconst1 (FP.l2d ((1 : Int64) <<< (((vi4 &&& (2147483647 : Int32)) % (63 : Int32)) &&& 0x3f).toInt64)))), .second, .val (.ref b1), .val (.ref b3), .val (.ref r5), .unset, .unset, .unset, .unset, .unset, .unset, .unset, .unset] [])) _
    refine XS.lload X5.here hx rfl (hb hby at_110) rfl ?_
    show Steps p.tables e below (T5.setTop (mkF m 112 #[.val (.long vj0), .second, .val (.long vj1), .second, .val (.long vj2), .second, .val (.long vj3), .second, .val (.int vi4), .val (.long ((4503599627370496 : Int64) + (vj0 &&& (2251799813685247 : Int64)))), .second, .val (.long (((4503599627370496 : Int64) + (vj0 &&& (2251799813685247 : Int64))) + (vj1 &&& (1125899906842623 : Int64)))), .second, .val (.long (vj2 &&& (4503599627370495 : Int64))), .second, .val (.long ((vj2 &&& (4503599627370495 : Int64)) + (vj3 &&& (1125899906842623 : Int64)))), .second, .val (.int ((vi4 &&& (2147483647 : Int32)) % (63 : Int32))), .val (.double (FP.ddiv FP.dconst1 (FP.l2d ((1 : Int64) <<< (((vi4 &&& (2147483647 : Int32)) % (63 : Int32)) &&& 0x3f).toInt64)))), .second, .val (.ref b1), .val (.ref b3), .val (.ref r5), .unset, .unset, .unset, .unset, .unset, .unset, .unset, .unset] [(.long ((4503599627370496 : Int64) + (vj0 &&& (2251799813685247 : Int64))))])) _
    refine XS.lload X5.here hx rfl (hb hby at_112) rfl ?_
    show Steps p.tables e below (T5.setTop (mkF m 114 #[.val (.long vj0), .second, .val (.long vj1), .second, .val (.long vj2), .second, .val (.long vj3), .second, .val (.int vi4), .val (.long ((4503599627370496 : Int64) + (vj0 &&& (2251799813685247 : Int64)))), .second, .val (.long (((4503599627370496 : Int64) + (vj0 &&& (2251799813685247 : Int64))) + (vj1 &&& (1125899906842623 : Int64)))), .second, .val (.long (vj2 &&& (4503599627370495 : Int64))), .second, .val (.long ((vj2 &&& (4503599627370495 : Int64)) + (vj3 &&& (1125899906842623 : Int64)))), .second, .val (.int ((vi4 &&& (2147483647 : Int32)) % (63 : Int32))), .val (.double (FP.ddiv FP.dconst1 (FP.l2d ((1 : Int64) <<< (((vi4 &&& (2147483647 : Int32)) % (63 : Int32)) &&& 0x3f).toInt64)))), .second, .val (.ref b1), .val (.ref b3), .val (.ref r5), .unset, .unset, .unset, .unset, .unset, .unset, .unset, .unset] [(.long (vj2 &&& (4503599627370495 : Int64))), (.long ((4503599627370496 : Int64) + (vj0 &&& (2251799813685247 : Int64))))])) _
    refine XS.ladd X5.here hx rfl (hb hby at_114) rfl ?_
    show Steps p.tables e below (T5.setTop (mkF m 115 #[.val (.long vj0), .second, .val (.long vj1), .second, .val (.long vj2), .second, .val (.long vj3), .second, .val (.int vi4), .val (.long ((4503599627370496 : Int64) + (vj0 &&& (2251799813685247 : Int64)))), .second, .val (.long (((4503599627370496 : Int64) + (vj0 &&& (2251799813685247 : Int64))) + (vj1 &&& (1125899906842623 : Int64)))), .second, .val (.long (vj2 &&& (4503599627370495 : Int64))), .second, .val (.long ((vj2 &&& (4503599627370495 : Int64)) + (vj3 &&& (1125899906842623 : Int64)))), .second, .val (.int ((vi4 &&& (2147483647 : Int32)) % (63 : Int32))), .val (.double (FP.ddiv FP.dconst1 (FP.l2d ((1 : Int64) <<< (((vi4 &&& (2147483647 : Int32)) % (63 : Int32)) &&& 0x3f).toInt64)))), .second, .val (.ref b1), .val (.ref b3), .val (.ref r5), .unset, .unset, .unset, .unset, .unset, .unset, .unset, .unset] [(.long (((4503599627370496 : Int64) + (vj0 &&& (2251799813685247 : Int64))) + (vj2 &&& (4503599627370495 : Int64))))])) _
    refine XS.lstore X5.here hx rfl (hb hby at_115) rfl (l' := #[.val (.long vj0), .second, .val (.long vj1), .second, .val (.long vj2), .second, .val (.long vj3), .second, .val (.int vi4), .val (.long ((4503599627370496 : Int64) + (vj0 &&& (2251799813685247 : Int64)))), .second, .val (.long (((4503599627370496 : Int64) + (vj0 &&& (2251799813685247 : Int64))) + (vj1 &&& (1125899906842623 : Int64)))), .second, .val (.long (vj2 &&& (4503599627370495 : Int64))), .second, .val (.long ((vj2 &&& (4503599627370495 : Int64)) + (vj3 &&& (1125899906842623 : Int64)))), .second, .val (.int ((vi4 &&& (2147483647 : Int32)) % (63 : Int32))), .val (.double (FP.ddiv FP.dconst1 (FP.l2d ((1 : Int64) <<< (((vi4 &&& (2147483647 : Int32)) % (63 : Int32)) &&& 0x3f).toInt64)))), .second, .val (.ref b1), .val (.ref b3), .val (.ref r5), .val (.long (((4503599627370496 : Int64) + (vj0 &&& (2251799813685247 : Int64))) + (vj2 &&& (4503599627370495 : Int64)))), .second, .unset, .unset, .unset, .unset, .unset, .unset]) rfl ?_
    show Steps p.tables e below (T5.setTop (mkF m 117 #[.val (.long vj0), .second, .val (.long vj1), .second, .val (.long vj2), .second, .val (.long vj3), .second, .val (.int vi4), .val (.long ((4503599627370496 : Int64) + (vj0 &&& (2251799813685247 : Int64)))), .second, .val (.long (((4503599627370496 : Int64) + (vj0 &&& (2251799813685247 : Int64))) + (vj1 &&& (1125899906842623 : Int64)))), .second, .val (.long (vj2 &&& (4503599627370495 : Int64))), .second, .val (.long ((vj2 &&& (4503599627370495 : Int64)) + (vj3 &&& (1125899906842623 : Int64)))), .second, .val (.int ((vi4 &&& (2147483647 : Int32)) % (63 : Int32))), .val (.double (FP.ddiv FP.dconst1 (FP.l2d ((1 : Int64) <<< (((vi4 &&& (2147483647 : Int32)) % (63 : Int32)) &&& 0x3f).toInt64)))), .second, .val (.ref b1), .val (.ref b3), .val (.ref r5), .val (.long (((4503599627370496 : Int64) + (vj0 &&& (2251799813685247 : Int64))) + (vj2 &&& (4503599627370495 : Int64)))), .second, .unset, .unset, .unset, .unset, .unset, .unset] [])) _
    refine XS.lload X5.here hx rfl (hb hby at_117) rfl ?_
    show Steps p.tables e below (T5.setTop (mkF m 119 #[.val (.long vj0), .second, .val (.long vj1), .second, .val (.long vj2), .second, .val (.long vj3), .second, .val (.int vi4), .val (.long ((4503599627370496 : Int64) + (vj0 &&& (2251799813685247 : Int64)))), .second, .val (.long (((4503599627370496 : Int64) + (vj0 &&& (2251799813685247 : Int64))) + (vj1 &&& (1125899906842623 : Int64)))), .second, .val (.long (vj2 &&& (4503599627370495 : Int64))), .second, .val (.long ((vj2 &&& (4503599627370495 : Int64)) + (vj3 &&& (1125899906842623 : Int64)))), .second, .val (.int ((vi4 &&& (2147483647 : Int32)) % (63 : Int32))), .val (.double (FP.ddiv FP.dconst1 (FP.l2d ((1 : Int64) <<< (((vi4 &&& (2147483647 : Int32)) % (63 : Int32)) &&& 0x3f).toInt64)))), .second, .val (.ref b1), .val (.ref b3), .val (.ref r5), .val (.long (((4503599627370496 : Int64) + (vj0 &&& (2251799813685247 : Int64))) + (vj2 &&& (4503599627370495 : Int64)))), .second, .unset, .unset, .unset, .unset, .unset, .unset] [(.long (((4503599627370496 : Int64) + (vj0 &&& (2251799813685247 : Int64))) + (vj1 &&& (1125899906842623 : Int64))))])) _
    refine XS.lload X5.here hx rfl (hb hby at_119) rfl ?_
    show Steps p.tables e below (T5.setTop (mkF m 121 #[.val (.long vj0), .second, .val (.long vj1), .second, .val (.long vj2), .second, .val (.long vj3), .second, .val (.int vi4), .val (.long ((4503599627370496 : Int64) + (vj0 &&& (2251799813685247 : Int64)))), .second, .val (.long (((4503599627370496 : Int64) + (vj0 &&& (2251799813685247 : Int64))) + (vj1 &&& (1125899906842623 : Int64)))), .second, .val (.long (vj2 &&& (4503599627370495 : Int64))), .second, .val (.long ((vj2 &&& (4503599627370495 : Int64)) + (vj3 &&& (1125899906842623 : Int64)))), .second, .val (.int ((vi4 &&& (2147483647 : Int32)) % (63 : Int32))), .val (.double (FP.ddiv FP.dconst1 (FP.l2d ((1 : Int64) <<< (((vi4 &&& (2147483647 : Int32)) % (63 : Int32)) &&& 0x3f).toInt64)))), .second, .val (.ref b1), .val (.ref b3), .val (.ref r5), .val (.long (((4503599627370496 : Int64) + (vj0 &&& (2251799813685247 : Int64))) + (vj2 &&& (4503599627370495 : Int64)))), .second, .unset, .unset, .unset, .unset, .unset, .unset] [(.long ((vj2 &&& (4503599627370495 : Int64)) + (vj3 &&& (1125899906842623 : Int64)))), (.long (((4503599627370496 : Int64) + (vj0 &&& (2251799813685247 : Int64))) + (vj1 &&& (1125899906842623 : Int64))))])) _
    refine XS.ladd X5.here hx rfl (hb hby at_121) rfl ?_
    show Steps p.tables e below (T5.setTop (mkF m 122 #[.val (.long vj0), .second, .val (.long vj1), .second, .val (.long vj2), .second, .val (.long vj3), .second, .val (.int vi4), .val (.long ((4503599627370496 : Int64) + (vj0 &&& (2251799813685247 : Int64)))), .second, .val (.long (((4503599627370496 : Int64) + (vj0 &&& (2251799813685247 : Int64))) + (vj1 &&& (1125899906842623 : Int64)))), .second, .val (.long (vj2 &&& (4503599627370495 : Int64))), .second, .val (.long ((vj2 &&& (4503599627370495 : Int64)) + (vj3 &&& (1125899906842623 : Int64)))), .second, .val (.int ((vi4 &&& (2147483647 : Int32)) % (63 : Int32))), .val (.double (FP.ddiv FP.dconst1 (FP.l2d ((1 : Int64) <<< (((vi4 &&& (2147483647 : Int32)) % (63 : Int32)) &&& 0x3f).toInt64)))), .second, .val (.ref b1), .val (.ref b3), .val (.ref r5), .val (.long (((4503599627370496 : Int64) + (vj0 &&& (2251799813685247 : Int64))) + (vj2 &&& (4503599627370495 : Int64)))), .second, .unset, .unset, .unset, .unset, .unset, .unset] [(.long ((((4503599627370496 : Int64) + (vj0 &&& (2251799813685247 : Int64))) + (vj1 &&& (1125899906842623 : Int64))) + ((vj2 &&& (4503599627370495 : Int64)) + (vj3 &&& (1125899906842623 : Int64)))))])) _
    refine XS.lstore X5.here hx rfl (hb hby at_122) rfl (l' := #[.val (.long vj0), .second, .val (.long vj1), .second, .val (.long vj2), .second, .val (.long vj3), .second, .val (.int vi4), .val (.long ((4503599627370496 : Int64) + (vj0 &&& (2251799813685247 : Int64)))), .second, .val (.long (((4503599627370496 : Int64) + (vj0 &&& (2251799813685247 : Int64))) + (vj1 &&& (1125899906842623 : Int64)))), .second, .val (.long (vj2 &&& (4503599627370495 : Int64))), .second, .val (.long ((vj2 &&& (4503599627370495 : Int64)) + (vj3 &&& (1125899906842623 : Int64)))), .second, .val (.int ((vi4 &&& (2147483647 : Int32)) % (63 : Int32))), .val (.double (FP.ddiv FP.dconst1 (FP.l2d ((1 : Int64) <<< (((vi4 &&& (2147483647 : Int32)) % (63 : Int32)) &&& 0x3f).toInt64)))), .second, .val (.ref b1), .val (.ref b3), .val (.ref r5), .val (.long (((4503599627370496 : Int64) + (vj0 &&& (2251799813685247 : Int64))) + (vj2 &&& (4503599627370495 : Int64)))), .second, .val (.long ((((4503599627370496 : Int64) + (vj0 &&& (2251799813685247 : Int64))) + (vj1 &&& (1125899906842623 : Int64))) + ((vj2 &&& (4503599627370495 : Int64)) + (vj3 &&& (1125899906842623 : Int64))))), .second, .unset, .unset, .unset, .unset]) rfl ?_
    show Steps p.tables e below (T5.setTop (mkF m 124 #[.val (.long vj0), .second, .val (.long vj1), .second, .val (.long vj2), .second, .val (.long vj3), .second, .val (.int vi4), .val (.long ((4503599627370496 : Int64) + (vj0 &&& (2251799813685247 : Int64)))), .second, .val (.long (((4503599627370496 : Int64) + (vj0 &&& (2251799813685247 : Int64))) + (vj1 &&& (1125899906842623 : Int64)))), .second, .val (.long (vj2 &&& (4503599627370495 : Int64))), .second, .val (.long ((vj2 &&& (4503599627370495 : Int64)) + (vj3 &&& (1125899906842623 : Int64)))), .second, .val (.int ((vi4 &&& (2147483647 : Int32)) % (63 : Int32))), .val (.double (FP.ddiv FP.dconst1 (FP.l2d ((1 : Int64) <<< (((vi4 &&& (2147483647 : Int32)) % (63 : Int32)) &&& 0x3f).toInt64)))), .second, .val (.ref b1), .val (.ref b3), .val (.ref r5), .val (.long (((4503599627370496 : Int64) + (vj0 &&& (2251799813685247 : Int64))) + (vj2 &&& (4503599627370495 : Int64)))), .second, .val (.long ((((4503599627370496 : Int64) + (vj0 &&& (2251799813685247 : Int64))) + (vj1 &&& (1125899906842623 : Int64))) + ((vj2 &&& (4503599627370495 : Int64)) + (vj3 &&& (1125899906842623 : Int64))))), .second, .unset, .unset, .unset, .unset] [])) _
    refine XS.lload X5.here hx rfl (hb hby at_124) rfl ?_
    show Steps p.tables e below (T5.setTop (mkF m 126 #[.val (.long vj0), .second, .val (.long vj1), .second, .val (.long vj2), .second, .val (.long vj3), .second, .val (.int vi4), .val (.long ((4503599627370496 : Int64) + (vj0 &&& (2251799813685247 : Int64)))), .second, .val (.long (((4503599627370496 : Int64) + (vj0 &&& (2251799813685247 : Int64))) + (vj1 &&& (1125899906842623 : Int64)))), .second, .val (.long (vj2 &&& (4503599627370495 : Int64))), .second, .val (.long ((vj2 &&& (4503599627370495 : Int64)) + (vj3 &&& (1125899906842623 : Int64)))), .second, .val (.int ((vi4 &&& (2147483647 : Int32)) % (63 : Int32))), .val (.double (FP.ddiv FP.dconst1 (FP.l2d ((1 : Int64) <<< (((vi4 &&& (2147483647 : Int32)) % (63 : Int32)) &&& 0x3f).toInt64)))), .second, .val (.ref b1), .val (.ref b3), .val (.ref r5), .val (.long (((4503599627370496 : Int64) + (vj0 &&& (2251799813685247 : Int64))) + (vj2 &&& (4503599627370495 : Int64)))), .second, .val (.long ((((4503599627370496 : Int64) + (vj0 &&& (2251799813685247 : Int64))) + (vj1 &&& (1125899906842623 : Int64))) + ((vj2 &&& (4503599627370495 : Int64)) + (vj3 &&& (1125899906842623 : Int64))))), .second, .unset, .unset, .unset, .unset] [(.long (((4503599627370496 : Int64) + (vj0 &&& (2251799813685247 : Int64))) + (vj2 &&& (4503599627370495 : Int64))))])) _
    refine st6 _ ?_
    show Steps p.tables e below (T6.setTop (mkF m 129 #[.val (.long vj0), .second, .val (.long vj1), .second, .val (.long vj2), .second, .val (.long vj3), .second, .val (.int vi4), .val (.long ((4503599627370496 : Int64) + (vj0 &&& (2251799813685247 : Int64)))), .second, .val (.long (((4503599627370496 : Int64) + (vj0 &&& (2251799813685247 : Int64))) + (vj1 &&& (1125899906842623 : Int64)))), .second, .val (.long (vj2 &&& (4503599627370495 : Int64))), .second, .val (.long ((vj2 &&& (4503599627370495 : Int64)) + (vj3 &&& (1125899906842623 : Int64)))), .second, .val (.int ((vi4 &&& (2147483647 : Int32)) % (63 : Int32))), .val (.double (FP.ddiv FP.dconst1 (FP.l2d ((1 : Int64) <<< (((vi4 &&& (2147483647 : Int32)) % (63 : Int32)) &&& 0x3f).toInt64)))), .second, .val (.ref b1), .val (.ref b3), .val (.ref r5), .val (.long (((4503599627370496 : Int64) + (vj0 &&& (2251799813685247 : Int64))) + (vj2 &&& (4503599627370495 : Int64)))), .second, .val (.long ((((4503599627370496 : Int64) + (vj0 &&& (2251799813685247 : Int64))) + (vj1 &&& (1125899906842623 : Int64))) + ((vj2 &&& (4503599627370495 : Int64)) + (vj3 &&& (1125899906842623 : Int64))))), .second, .unset, .unset, .unset, .unset] [(.long (own_down (((4503599627370496 : Int64) + (vj0 &&& (2251799813685247 : Int64))) + (vj2 &&& (4503599627370495 : Int64)))))])) _
    refine XS.l2dS X6.here hx rfl (hb hby at_129) rfl rfl ?_
    show Steps p.tables e below (T6.setTop (mkF m 130 #[.val (.long vj0), .second, .val (.long vj1), .second, .val (.long vj2), .second, .val (.long vj3), .second, .val (.int vi4), .val (.long ((4503599627370496 : Int64) + (vj0 &&& (2251799813685247 : Int64)))), .second, .val (.long (((4503599627370496 : Int64) + (vj0 &&& (2251799813685247 : Int64))) + (vj1 &&& (1125899906842623 : Int64)))), .second, .val (.long (vj2 &&& (4503599627370495 : Int64))), .second, .val (.long ((vj2 &&& (4503599627370495 : Int64)) + (vj3 &&& (1125899906842623 : Int64)))), .second, .val (.int ((vi4 &&& (2147483647 : Int32)) % (63 : Int32))), .val (.double (FP.ddiv FP.dconst1 (FP.l2d ((1 : Int64) <<< (((vi4 &&& (2147483647 : Int32)) % (63 : Int32)) &&& 0x3f).toInt64)))), .second, .val (.ref b1), .val (.ref b3), .val (.ref r5), .val (.long (((4503599627370496 : Int64) + (vj0 &&& (2251799813685247 : Int64))) + (vj2 &&& (4503599627370495 : Int64)))), .second, .val (.long ((((4503599627370496 : Int64) + (vj0 &&& (2251799813685247 : Int64))) + (vj1 &&& (1125899906842623 : Int64))) + ((vj2 &&& (4503599627370495 : Int64)) + (vj3 &&& (1125899906842623 : Int64))))), .second, .unset, .unset, .unset, .unset] [(.double (FP.l2d (own_down (((4503599627370496 : Int64) + (vj0 &&& (2251799813685247 : Int64))) + (vj2 &&& (4503599627370495 : Int64))))))])) _
    refine XS.dload X6.here hx rfl (hb hby at_130) rfl ?_
    show Steps p.tables e below (T6.setTop (mkF m 132 #[.val (.long vj0), .second, .val (.long vj1), .second, .val (.long vj2), .second, .val (.long vj3), .second, .val (.int vi4), .val (.long ((4503599627370496 : Int64) + (vj0 &&& (2251799813685247 : Int64)))), .second, .val (.long (((4503599627370496 : Int64) + (vj0 &&& (2251799813685247 : Int64))) + (vj1 &&& (1125899906842623 : Int64)))), .second, .val (.long (vj2 &&& (4503599627370495 : Int64))), .second, .val (.long ((vj2 &&& (4503599627370495 : Int64)) + (vj3 &&& (1125899906842623 : Int64)))), .second, .val (.int ((vi4 &&& (2147483647 : Int32)) % (63 : Int32))), .val (.double (FP.ddiv FP.dconst1 (FP.l2d ((1 : Int64) <<< (((vi4 &&& (2147483647 : Int32)) % (63 : Int32)) &&& 0x3f).toInt64)))), .second, .val (.ref b1), .val (.ref b3), .val (.ref r5), .val (.long (((4503599627370496 : Int64) + (vj0 &&& (2251799813685247 : Int64))) + (vj2 &&& (4503599627370495 : Int64)))), .second, .val (.long ((((4503599627370496 : Int64) + (vj0 &&& (2251799813685247 : Int64))) + (vj1 &&& (1125899906842623 : Int64))) + ((vj2 &&& (4503599627370495 : Int64)) + (vj3 &&& (1125899906842623 : Int64))))), .second, .unset, .unset, .unset, .unset] [(.double (FP.ddiv FP.dconst1 (FP.l2d ((1 : Int64) <<< (((vi4 &&& (2147483647 : Int32)) % (63 : Int32)) &&& 0x3f).toInt64)))), (.double (FP.l2d (own_down (((4503599627370496 : Int64) + (vj0 &&& (2251799813685247 : Int64))) + (vj2 &&& (4503599627370495 : Int64))))))])) _
    refine XS.dmulS X6.here hx rfl (hb hby at_132) rfl hn132 rfl ?_
    show Steps p.tables e below (T6.setTop (mkF m 133 #[.val (.long vj0), .second, .val (.long vj1), .second, .val (.long vj2), .second, .val (.long vj3), .second, .val (.int vi4), .val (.long ((4503599627370496 : Int64) + (vj0 &&& (2251799813685247 : Int64)))), .second, .val (.long (((4503599627370496 : Int64) + (vj0 &&& (2251799813685247 : Int64))) + (vj1 &&& (1125899906842623 : Int64)))), .second, .val (.long (vj2 &&& (4503599627370495 : Int64))), .second, .val (.long ((vj2 &&& (4503599627370495 : Int64)) + (vj3 &&& (1125899906842623 : Int64)))), .second, .val (.int ((vi4 &&& (2147483647 : Int32)) % (63 : Int32))), .val (.double (FP.ddiv FP.dconst1 (FP.l2d ((1 : Int64) <<< (((vi4 &&& (2147483647 : Int32)) % (63 : Int32)) &&& 0x3f).toInt64)))), .second, .val (.ref b1), .val (.ref b3), .val (.ref r5), .val (.long (((4503599627370496 : Int64) + (vj0 &&& (2251799813685247 : Int64))) + (vj2 &&& (4503599627370495 : Int64)))), .second, .val (.long ((((4503599627370496 : Int64) + (vj0 &&& (2251799813685247 : Int64))) + (vj1 &&& (1125899906842623 : Int64))) + ((vj2 &&& (4503599627370495 : Int64)) + (vj3 &&& (1125899906842623 : Int64))))), .second, .unset, .unset, .unset, .unset] [(.double (FP.dmul (FP.l2d (own_down (((4503599627370496 : Int64) + (vj0 &&& (2251799813685247 : Int64))) + (vj2 &&& (4503599627370495 : Int64))))) (FP.ddiv FP.dconst1 (FP.l2d ((1 : Int64) <<< (((vi4 &&& (2147483647 : Int32)) % (63 : Int32)) &&& 0x3f).toInt64)))))])) _
    refine XS.dstore X6.here hx rfl (hb hby at_133) rfl (l' := #[.val (.long vj0), .second, .val (.long vj1), .second, .val (.long vj2), .second, .val (.long vj3), .second, .val (.int vi4), .val (.long ((4503599627370496 : Int64) + (vj0 &&& (2251799813685247 : Int64)))), .second, .val (.long (((4503599627370496 : Int64) + (vj0 &&& (2251799813685247 : Int64))) + (vj1 &&& (1125899906842623 : Int64)))), .second, .val (.long (vj2 &&& (4503599627370495 : Int64))), .second, .val (.long ((vj2 &&& (4503599627370495 : Int64)) + (vj3 &&& (1125899906842623 : Int64)))), .second, .val (.int ((vi4 &&& (2147483647 : Int32)) % (63 : Int32))), .val (.double (FP.ddiv FP.dconst1 (FP.l2d ((1 : Int64) <<< (((vi4 &&& (2147483647 : Int32)) % (63 : Int32)) &&& 0x3f).toInt64)))), .second, .val (.ref b1), .val (.ref b3), .val (.ref r5), .val (.long (((4503599627370496 : Int64) + (vj0 &&& (2251799813685247 : Int64))) + (vj2 &&& (4503599627370495 : Int64)))), .second, .val (.long ((((4503599627370496 : Int64) + (vj0 &&& (2251799813685247 : Int64))) + (vj1 &&& (1125899906842623 : Int64))) + ((vj2 &&& (4503599627370495 : Int64)) + (vj3 &&& (1125899906842623 : Int64))))), .second, .val (.double (FP.dmul (FP.l2d (own_down (((4503599627370496 : Int64) + (vj0 &&& (2251799813685247 : Int64))) + (vj2 &&& (4503599627370495 : Int64))))) (FP.ddiv FP.dconst1 (FP.l2d ((1 : Int64) <<< (((vi4 &&& (2147483647 : Int32)) % (63 : Int32)) &&& 0x3f).toInt64))))), .second, .unset, .unset]) rfl ?_
    show Steps p.tables e below (T6.setTop (mkF m 135 #[.val (.long vj0), .second, .val (.long vj1), .second, .val (.long vj2), .second, .val (.long vj3), .second, .val (.int vi4), .val (.long ((4503599627370496 : Int64) + (vj0 &&& (2251799813685247 : Int64)))), .second, .val (.long (((4503599627370496 : Int64) + (vj0 &&& (2251799813685247 : Int64))) + (vj1 &&& (1125899906842623 : Int64)))), .second, .val (.long (vj2 &&& (4503599627370495 : Int64))), .second, .val (.long ((vj2 &&& (4503599627370495 : Int64)) + (vj3 &&& (1125899906842623 : Int64)))), .second, .val (.int ((vi4 &&& (2147483647 : Int32)) % (63 : Int32))), .val (.double (FP.ddiv FP.dconst1 (FP.l2d ((1 : Int64) <<< (((vi4 &&& (2147483647 : Int32)) % (63 : Int32)) &&& 0x3f).toInt64)))), .second, .val (.ref b1), .val (.ref b3), .val (.ref r5), .val (.long (((4503599627370496 : Int64) + (vj0 &&& (2251799813685247 : Int64))) + (vj2 &&& (4503599627370495 : Int64)))), .second, .val (.long ((((4503599627370496 : Int64) + (vj0 &&& (2251799813685247 : Int64))) + (vj1 &&& (1125899906842623 : Int64))) + ((vj2 &&& (4503599627370495 : Int64)) + (vj3 &&& (1125899906842623 : Int64))))), .second, .val (.double (FP.dmul (FP.l2d (own_down (((4503599627370496 : Int64) + (vj0 &&& (2251799813685247 : Int64))) + (vj2 &&& (4503599627370495 : Int64))))) (FP.ddiv FP.dconst1 (FP.l2d ((1 : Int64) <<< (((vi4 &&& (2147483647 : Int32)) % (63 : Int32)) &&& 0x3f).toInt64))))), .second, .unset, .unset] [])) _
    refine XS.lload X6.here hx rfl (hb hby at_135) rfl ?_
    show Steps p.tables e below (T6.setTop (mkF m 137 #[.val (.long vj0), .second, .val (.long vj1), .second, .val (.long vj2), .second, .val (.long vj3), .second, .val (.int vi4), .val (.long ((4503599627370496 : Int64) + (vj0 &&& (2251799813685247 : Int64)))), .second, .val (.long (((4503599627370496 : Int64) + (vj0 &&& (2251799813685247 : Int64))) + (vj1 &&& (1125899906842623 : Int64)))), .second, .val (.long (vj2 &&& (4503599627370495 : Int64))), .second, .val (.long ((vj2 &&& (4503599627370495 : Int64)) + (vj3 &&& (1125899906842623 : Int64)))), .second, .val (.int ((vi4 &&& (2147483647 : Int32)) % (63 : Int32))), .val (.double (FP.ddiv FP.dconst1 (FP.l2d ((1 : Int64) <<< (((vi4 &&& (2147483647 : Int32)) % (63 : Int32)) &&& 0x3f).toInt64)))), .second, .val (.ref b1), .val (.ref b3), .val (.ref r5), .val (.long (((4503599627370496 : Int64) + (vj0 &&& (2251799813685247 : Int64))) + (vj2 &&& (4503599627370495 : Int64)))), .second, .val (.long ((((4503599627370496 : Int64) + (vj0 &&& (2251799813685247 : Int64))) + (vj1 &&& (1125899906842623 : Int64))) + ((vj2 &&& (4503599627370495 : Int64)) + (vj3 &&& (1125899906842623 : Int64))))), .second, .val (.double (FP.dmul (FP.l2d (own_down (((4503599627370496 : Int64) + (vj0 &&& (2251799813685247 : Int64))) + (vj2 &&& (4503599627370495 : Int64))))) (FP.ddiv FP.dconst1 (FP.l2d ((1 : Int64) <<< (((vi4 &&& (2147483647 : Int32)) % (63 : Int32)) &&& 0x3f).toInt64))))), .second, .unset, .unset] [(.long ((((4503599627370496 : Int64) + (vj0 &&& (2251799813685247 : Int64))) + (vj1 &&& (1125899906842623 : Int64))) + ((vj2 &&& (4503599627370495 : Int64)) + (vj3 &&& (1125899906842623 : Int64)))))])) _
    refine st7 _ ?_
    show Steps p.tables e below (T7.setTop (mkF m 140 #[.val (.long vj0), .second, .val (.long vj1), .second, .val (.long vj2), .second, .val (.long vj3), .second, .val (.int vi4), .val (.long ((4503599627370496 : Int64) + (vj0 &&& (2251799813685247 : Int64)))), .second, .val (.long (((4503599627370496 : Int64) + (vj0 &&& (2251799813685247 : Int64))) + (vj1 &&& (1125899906842623 : Int64)))), .second, .val (.long (vj2 &&& (4503599627370495 : Int64))), .second, .val (.long ((vj2 &&& (4503599627370495 : Int64)) + (vj3 &&& (1125899906842623 : Int64)))), .second, .val (.int ((vi4 &&& (2147483647 : Int32)) % (63 : Int32))), .val (.double (FP.ddiv FP.dconst1 (FP.l2d ((1 : Int64) <<< (((vi4 &&& (2147483647 : Int32)) % (63 : Int32)) &&& 0x3f).toInt64)))), .second, .val (.ref b1), .val (.ref b3), .val (.ref r5), .val (.long (((4503599627370496 : Int64) + (vj0 &&& (2251799813685247 : Int64))) + (vj2 &&& (4503599627370495 : Int64)))), .second, .val (.long ((((4503599627370496 : Int64) + (vj0 &&& (2251799813685247 : Int64))) + (vj1 &&& (1125899906842623 : Int64))) + ((vj2 &&& (4503599627370495 : Int64)) + (vj3 &&& (1125899906842623 : Int64))))), .second, .val (.double (FP.dmul (FP.l2d (own_down (((4503599627370496 : Int64) + (vj0 &&& (2251799813685247 : Int64))) + (vj2 &&& (4503599627370495 : Int64))))) (FP.ddiv FP.dconst1 (FP.l2d ((1 : Int64) <<< (((vi4 &&& (2147483647 : Int32)) % (63 : Int32)) &&& 0x3f).toInt64))))), .second, .unset, .unset] [(.long (own_up ((((4503599627370496 : Int64) + (vj0 &&& (2251799813685247 : Int64))) + (vj1 &&& (1125899906842623 : Int64))) + ((vj2 &&& (4503599627370495 : Int64)) + (vj3 &&& (1125899906842623 : Int64))))))])) _
    refine XS.l2dS X7.here hx rfl (hb hby at_140) rfl rfl ?_
    show Steps p.tables e below (T7.setTop (mkF m 141 #[.val (.long vj0), .second, .val (.long vj1), .second, .val (.long vj2), .second, .val (.long vj3), .second, .val (.int vi4), .val (.long ((4503599627370496 : Int64) + (vj0 &&& (2251799813685247 : Int64)))), .second, .val (.long (((4503599627370496 : Int64) + (vj0 &&& (2251799813685247 : Int64))) + (vj1 &&& (1125899906842623 : Int64)))), .second, .val (.long (vj2 &&& (4503599627370495 : Int64))), .second, .val (.long ((vj2 &&& (4503599627370495 : Int64)) + (vj3 &&& (1125899906842623 : Int64)))), .second, .val (.int ((vi4 &&& (2147483647 : Int32)) % (63 : Int32))), .val (.double (FP.ddiv FP.dconst1 (FP.l2d ((1 : Int64) <<< (((vi4 &&& (2147483647 : Int32)) % (63 : Int32)) &&& 0x3f).toInt64)))), .second, .val (.ref b1), .val (.ref b3), .val (.ref r5), .val (.long (((4503599627370496 : Int64) + (vj0 &&& (2251799813685247 : Int64))) + (vj2 &&& (4503599627370495 : Int64)))), .second, .val (.long ((((4503599627370496 : Int64) + (vj0 &&& (2251799813685247 : Int64))) + (vj1 &&& (1125899906842623 : Int64))) + ((vj2 &&& (4503599627370495 : Int64)) + (vj3 &&& (1125899906842623 : Int64))))), .second, .val (.double (FP.dmul (FP.l2d (own_down (((4503599627370496 : Int64) + (vj0 &&& (2251799813685247 : Int64))) + (vj2 &&& (4503599627370495 : Int64))))) (FP.ddiv FP.dconst1 (FP.l2d ((1 : Int64) <<< (((vi4 &&& (2147483647 : Int32)) % (63 : Int32)) &&& 0x3f).toInt64))))), .second, .unset, .unset] [(.double (FP.l2d (own_up ((((4503599627370496 : Int64) + (vj0 &&& (2251799813685247 : Int64))) + (vj1 &&& (1125899906842623 : Int64))) + ((vj2 &&& (4503599627370495 : Int64)) + (vj3 &&& (1125899906842623 : Int64)))))))])) _
    refine XS.dload X7.here hx rfl (hb hby at_141) rfl ?_
    show Steps p.tables e below (T7.setTop (mkF m 143 #[.val (.long vj0), .second, .val (.long vj1), .second, .val (.long vj2), .second, .val (.long vj3), .second, .val (.int vi4), .val (.long ((4503599627370496 : Int64) + (vj0 &&& (2251799813685247 : Int64)))), .second, .val (.long (((4503599627370496 : Int64) + (vj0 &&& (2251799813685247 : Int64))) + (vj1 &&& (1125899906842623 : Int64)))), .second, .val (.long (vj2 &&& (4503599627370495 : Int64))), .second, .val (.long ((vj2 &&& (4503599627370495 : Int64)) + (vj3 &&& (1125899906842623 : Int64)))), .second, .val (.int ((vi4 &&& (2147483647 : Int32)) % (63 : Int32))), .val (.double (FP.ddiv FP.dconst1 (FP.l2d ((1 : Int64) <<< (((vi4 &&& (2147483647 : Int32)) % (63 : Int32)) &&& 0x3f).toInt64)))), .second, .val (.ref b1), .val (.ref b3), .val (.ref r5), .val (.long (((4503599627370496 : Int64) + (vj0 &&& (2251799813685247 : Int64))) + (vj2 &&& (4503599627370495 : Int64)))), .second, .val (.long ((((4503599627370496 : Int64) + (vj0 &&& (2251799813685247 : Int64))) + (vj1 &&& (1125899906842623 : Int64))) + ((vj2 &&& (4503599627370495 : Int64)) + (vj3 &&& (1125899906842623 : Int64))))), .second, .val (.double (FP.dmul (FP.l2d (own_down (((4503599627370496 : Int64) + (vj0 &&& (2251799813685247 : Int64))) + (vj2 &&& (4503599627370495 : Int64))))) (FP.ddiv FP.dconst1 (FP.l2d ((1 : Int64) <<< (((vi4 &&& (2147483647 : Int32)) % (63 : Int32)) &&& 0x3f).toInt64))))), .second, .unset, .unset] [(.double (FP.ddiv FP.dconst1 (FP.l2d ((1 : Int64) <<< (((vi4 &&& (2147483647 : Int32)) % (63 : Int32)) &&& 0x3f).toInt64)))), (.double (FP.l2d (own_up ((((4503599627370496 : Int64) + (vj0 &&& (2251799813685247 : Int64))) + (vj1 &&& (1125899906842623 : Int64))) + ((vj2 &&& (4503599627370495 : Int64)) + (vj3 &&& (1125899906842623 : Int64)))))))])) _
    refine XS.dmulS X7.here hx rfl (hb hby at_143) rfl hn143 rfl ?_
    show Steps p.tables e below (T7.setTop (mkF m 144 #[.val (.long vj0), .second, .val (.long vj1), .second, .val (.long vj2), .second, .val (.long vj3), .second, .val (.int vi4), .val (.long ((4503599627370496 : Int64) + (vj0 &&& (2251799813685247 : Int64)))), .second, .val (.long (((4503599627370496 : Int64) + (vj0 &&& (2251799813685247 : Int64))) + (vj1 &&& (1125899906842623 : Int64)))), .second, .val (.long (vj2 &&& (4503599627370495 : Int64))), .second, .val (.long ((vj2 &&& (4503599627370495 : Int64)) + (vj3 &&& (1125899906842623 : Int64)))), .second, .val (.int ((vi4 &&& (2147483647 : Int32)) % (63 : Int32))), .val (.double (FP.ddiv FP.dconst1 (FP.l2d ((1 : Int64) <<< (((vi4 &&& (2147483647 : Int32)) % (63 : Int32)) &&& 0x3f).toInt64)))), .second, .val (.ref b1), .val (.ref b3), .val (.ref r5), .val (.long (((4503599627370496 : Int64) + (vj0 &&& (2251799813685247 : Int64))) + (vj2 &&& (4503599627370495 : Int64)))), .second, .val (.long ((((4503599627370496 : Int64) + (vj0 &&& (2251799813685247 : Int64))) + (vj1 &&& (1125899906842623 : Int64))) + ((vj2 &&& (4503599627370495 : Int64)) + (vj3 &&& (1125899906842623 : Int64))))), .second, .val (.double (FP.dmul (FP.l2d (own_down (((4503599627370496 : Int64) + (vj0 &&& (2251799813685247 : Int64))) + (vj2 &&& (4503599627370495 : Int64))))) (FP.ddiv FP.dconst1 (FP.l2d ((1 : Int64) <<< (((vi4 &&& (2147483647 : Int32)) % (63 : Int32)) &&& 0x3f).toInt64))))), .second, .unset, .unset] [(.double (FP.dmul (FP.l2d (own_up ((((4503599627370496 : Int64) + (vj0 &&& (2251799813685247 : Int64))) + (vj1 &&& (1125899906842623 : Int64))) + ((vj2 &&& (4503599627370495 : Int64)) + (vj3 &&& (1125899906842623 : Int64)))))) (FP.ddiv FP.dconst1 (FP.l2d ((1 : Int64) <<< (((vi4 &&& (2147483647 : Int32)) % (63 : Int32)) &&& 0x3f).toInt64)))))])) _
    refine XS.dstore X7.here hx rfl (hb hby at_144) rfl (l' := #[.val (.long vj0), .second, .val (.long vj1), .second, .val (.long vj2), .second, .val (.long vj3), .second, .val (.int vi4), .val (.long ((4503599627370496 : Int64) + (vj0 &&& (2251799813685247 : Int64)))), .second, .val (.long (((4503599627370496 : Int64) + (vj0 &&& (2251799813685247 : Int64))) + (vj1 &&& (1125899906842623 : Int64)))), .second, .val (.long (vj2 &&& (4503599627370495 : Int64))), .second, .val (.long ((vj2 &&& (4503599627370495 : Int64)) + (vj3 &&& (1125899906842623 : Int64)))), .second, .val (.int ((vi4 &&& (2147483647 : Int32)) % (63 : Int32))), .val (.double (FP.ddiv FP.dconst1 (FP.l2d ((1 : Int64) <<< (((vi4 &&& (2147483647 : Int32)) % (63 : Int32)) &&& 0x3f).toInt64)))), .second, .val (.ref b1), .val (.ref b3), .val (.ref r5), .val (.long (((4503599627370496 : Int64) + (vj0 &&& (2251799813685247 : Int64))) + (vj2 &&& (4503599627370495 : Int64)))), .second, .val (.long ((((4503599627370496 : Int64) + (vj0 &&& (2251799813685247 : Int64))) + (vj1 &&& (1125899906842623 : Int64))) + ((vj2 &&& (4503599627370495 : Int64)) + (vj3 &&& (1125899906842623 : Int64))))), .second, .val (.double (FP.dmul (FP.l2d (own_down (((4503599627370496 : Int64) + (vj0 &&& (2251799813685247 : Int64))) + (vj2 &&& (4503599627370495 : Int64))))) (FP.ddiv FP.dconst1 (FP.l2d ((1 : Int64) <<< (((vi4 &&& (2147483647 : Int32)) % (63 : Int32)) &&& 0x3f).toInt64))))), .second, .val (.double (FP.dmul (FP.l2d (own_up ((((4503599627370496 : Int64) + (vj0 &&& (2251799813685247 : Int64))) + (vj1 &&& (1125899906842623 : Int64))) + ((vj2 &&& (4503599627370495 : Int64)) + (vj3 &&& (1125899906842623 : Int64)))))) (FP.ddiv FP.dconst1 (FP.l2d ((1 : Int64) <<< (((vi4 &&& (2147483647 : Int32)) % (63 : Int32)) &&& 0x3f).toInt64))))), .second]) rfl ?_
    show Steps p.tables e below (T7.setTop (mkF m 146 #[.val (.long vj0), .second, .val (.long vj1), .second, .val (.long vj2), .second, .val (.long vj3), .second, .val (.int vi4), .val (.long ((4503599627370496 : Int64) + (vj0 &&& (2251799813685247 : Int64)))), .second, .val (.long (((4503599627370496 : Int64) + (vj0 &&& (2251799813685247 : Int64))) + (vj1 &&& (1125899906842623 : Int64)))), .second, .val (.long (vj2 &&& (4503599627370495 : Int64))), .second, .val (.long ((vj2 &&& (4503599627370495 : Int64)) + (vj3 &&& (1125899906842623 : Int64)))), .second, .val (.int ((vi4 &&& (2147483647 : Int32)) % (63 : Int32))), .val (.double (FP.ddiv FP.dconst1 (FP.l2d ((1 : Int64) <<< (((vi4 &&& (2147483647 : Int32)) % (63 : Int32)) &&& 0x3f).toInt64)))), .second, .val (.ref b1), .val (.ref b3), .val (.ref r5), .val (.long (((4503599627370496 : Int64) + (vj0 &&& (2251799813685247 : Int64))) + (vj2 &&& (4503599627370495 : Int64)))), .second, .val (.long ((((4503599627370496 : Int64) + (vj0 &&& (2251799813685247 : Int64))) + (vj1 &&& (1125899906842623 : Int64))) + ((vj2 &&& (4503599627370495 : Int64)) + (vj3 &&& (1125899906842623 : Int64))))), .second, .val (.double (FP.dmul (FP.l2d (own_down (((4503599627370496 : Int64) + (vj0 &&& (2251799813685247 : Int64))) + (vj2 &&& (4503599627370495 : Int64))))) (FP.ddiv FP.dconst1 (FP.l2d ((1 : Int64) <<< (((vi4 &&& (2147483647 : Int32)) % (63 : Int32)) &&& 0x3f).toInt64))))), .second, .val (.double (FP.dmul (FP.l2d (own_up ((((4503599627370496 : Int64) + (vj0 &&& (2251799813685247 : Int64))) + (vj1 &&& (1125899906842623 : Int64))) + ((vj2 &&& (4503599627370495 : Int64)) + (vj3 &&& (1125899906842623 : Int64)))))) (FP.ddiv FP.dconst1 (FP.l2d ((1 : Int64) <<< (((vi4 &&& (2147483647 : Int32)) % (63 : Int32)) &&& 0x3f).toInt64))))), .second] [])) _
    refine XS.aload X7.here hx rfl (hb hby at_146) rfl rfl ?_
    show Steps p.tables e below (T7.setTop (mkF m 148 #[.val (.long vj0), .second, .val (.long vj1), .second, .val (.long vj2), .second, .val (.long vj3), .second, .val (.int vi4), .val (.long ((4503599627370496 : Int64) + (vj0 &&& (2251799813685247 : Int64)))), .second, .val (.long (((4503599627370496 : Int64) + (vj0 &&& (2251799813685247 : Int64))) + (vj1 &&& (1125899906842623 : Int64)))), .second, .val (.long (vj2 &&& (4503599627370495 : Int64))), .second, .val (.long ((vj2 &&& (4503599627370495 : Int64)) + (vj3 &&& (1125899906842623 : Int64)))), .second, .val (.int ((vi4 &&& (2147483647 : Int32)) % (63 : Int32))), .val (.double (FP.ddiv FP.dconst1 (FP.l2d ((1 : Int64) <<< (((vi4 &&& (2147483647 : Int32)) % (63 : Int32)) &&& 0x3f).toInt64)))), .second, .val (.ref b1), .val (.ref b3), .val (.ref r5), .val (.long (((4503599627370496 : Int64) + (vj0 &&& (2251799813685247 : Int64))) + (vj2 &&& (4503599627370495 : Int64)))), .second, .val (.long ((((4503599627370496 : Int64) + (vj0 &&& (2251799813685247 : Int64))) + (vj1 &&& (1125899906842623 : Int64))) + ((vj2 &&& (4503599627370495 : Int64)) + (vj3 &&& (1125899906842623 : Int64))))), .second, .val (.double (FP.dmul (FP.l2d (own_down (((4503599627370496 : Int64) + (vj0 &&& (2251799813685247 : Int64))) + (vj2 &&& (4503599627370495 : Int64))))) (FP.ddiv FP.dconst1 (FP.l2d ((1 : Int64) <<< (((vi4 &&& (2147483647 : Int32)) % (63 : Int32)) &&& 0x3f).toInt64))))), .second, .val (.double (FP.dmul (FP.l2d (own_up ((((4503599627370496 : Int64) + (vj0 &&& (2251799813685247 : Int64))) + (vj1 &&& (1125899906842623 : Int64))) + ((vj2 &&& (4503599627370495 : Int64)) + (vj3 &&& (1125899906842623 : Int64)))))) (FP.ddiv FP.dconst1 (FP.l2d ((1 : Int64) <<< (((vi4 &&& (2147483647 : Int32)) % (63 : Int32)) &&& 0x3f).toInt64))))), .second] [(.ref r5)])) _
    refine st8.trans ?_
    show Steps p.tables e below (T8.setTop (mkF m 151 #[.val (.long vj0), .second, .val (.long vj1), .second, .val (.long vj2), .second, .val (.long vj3), .second, .val (.int vi4), .val (.long ((4503599627370496 : Int64) + (vj0 &&& (2251799813685247 : Int64)))), .second, .val (.long (((4503599627370496 : Int64) + (vj0 &&& (2251799813685247 : Int64))) + (vj1 &&& (1125899906842623 : Int64)))), .second, .val (.long (vj2 &&& (4503599627370495 : Int64))), .second, .val (.long ((vj2 &&& (4503599627370495 : Int64)) + (vj3 &&& (1125899906842623 : Int64)))), .second, .val (.int ((vi4 &&& (2147483647 : Int32)) % (63 : Int32))), .val (.double (FP.ddiv FP.dconst1 (FP.l2d ((1 : Int64) <<< (((vi4 &&& (2147483647 : Int32)) % (63 : Int32)) &&& 0x3f).toInt64)))), .second, .val (.ref b1), .val (.ref b3), .val (.ref r5), .val (.long (((4503599627370496 : Int64) + (vj0 &&& (2251799813685247 : Int64))) + (vj2 &&& (4503599627370495 : Int64)))), .second, .val (.long ((((4503599627370496 : Int64) + (vj0 &&& (2251799813685247 : Int64))) + (vj1 &&& (1125899906842623 : Int64))) + ((vj2 &&& (4503599627370495 : Int64)) + (vj3 &&& (1125899906842623 : Int64))))), .second, .val (.double (FP.dmul (FP.l2d (own_down (((4503599627370496 : Int64) + (vj0 &&& (2251799813685247 : Int64))) + (vj2 &&& (4503599627370495 : Int64))))) (FP.ddiv FP.dconst1 (FP.l2d ((1 : Int64) <<< (((vi4 &&& (2147483647 : Int32)) % (63 : Int32)) &&& 0x3f).toInt64))))), .second, .val (.double (FP.dmul (FP.l2d (own_up ((((4503599627370496 : Int64) + (vj0 &&& (2251799813685247 : Int64))) + (vj1 &&& (1125899906842623 : Int64))) + ((vj2 &&& (4503599627370495 : Int64)) + (vj3 &&& (1125899906842623 : Int64)))))) (FP.ddiv FP.dconst1 (FP.l2d ((1 : Int64) <<< (((vi4 &&& (2147483647 : Int32)) % (63 : Int32)) &&& 0x3f).toInt64))))), .second] [(.double (own_sd (FP.dmul (FP.l2d ((4503599627370496 : Int64) + (vj0 &&& (2251799813685247 : Int64)))) (FP.ddiv FP.dconst1 (FP.l2d ((1 : Int64) <<< (((vi4 &&& (2147483647 : Int32)) % (63 : Int32)) &&& 0x3f).toInt64)))) (FP.dmul (FP.l2d (vj2 &&& (4503599627370495 : Int64))) (FP.ddiv FP.dconst1 (FP.l2d ((1 : Int64) <<< (((vi4 &&& (2147483647 : Int32)) % (63 : Int32)) &&& 0x3f).toInt64))))))])) _
    refine XS.dload X8.here hx rfl (hb hby at_151) rfl ?_
    show Steps p.tables e below (T8.setTop (mkF m 153 #[.val (.long vj0), .second, .val (.long vj1), .second, .val (.long vj2), .second, .val (.long vj3), .second, .val (.int vi4), .val (.long ((4503599627370496 : Int64) + (vj0 &&& (2251799813685247 : Int64)))), .second, .val (.long (((4503599627370496 : Int64) + (vj0 &&& (2251799813685247 : Int64))) + (vj1 &&& (1125899906842623 : Int64)))), .second, .val (.long (vj2 &&& (4503599627370495 : Int64))), .second, .val (.long ((vj2 &&& (4503599627370495 : Int64)) + (vj3 &&& (1125899906842623 : Int64)))), .second, .val (.int ((vi4 &&& (2147483647 : Int32)) % (63 : Int32))), .val (.double (FP.ddiv FP.dconst1 (FP.l2d ((1 : Int64) <<< (((vi4 &&& (2147483647 : Int32)) % (63 : Int32)) &&& 0x3f).toInt64)))), .second, .val (.ref b1), .val (.ref b3), .val (.ref r5), .val (.long (((4503599627370496 : Int64) + (vj0 &&& (2251799813685247 : Int64))) + (vj2 &&& (4503599627370495 : Int64)))), .second, .val (.long ((((4503599627370496 : Int64) + (vj0 &&& (2251799813685247 : Int64))) + (vj1 &&& (1125899906842623 : Int64))) + ((vj2 &&& (4503599627370495 : Int64)) + (vj3 &&& (1125899906842623 : Int64))))), .second, .val (.double (FP.dmul (FP.l2d (own_down (((4503599627370496 : Int64) + (vj0 &&& (2251799813685247 : Int64))) + (vj2 &&& (4503599627370495 : Int64))))) (FP.ddiv FP.dconst1 (FP.l2d ((1 : Int64) <<< (((vi4 &&& (2147483647 : Int32)) % (63 : Int32)) &&& 0x3f).toInt64))))), .second, .val (.double (FP.dmul (FP.l2d (own_up ((((4503599627370496 : Int64) + (vj0 &&& (2251799813685247 : Int64))) + (vj1 &&& (1125899906842623 : Int64))) + ((vj2 &&& (4503599627370495 : Int64)) + (vj3 &&& (1125899906842623 : Int64)))))) (FP.ddiv FP.dconst1 (FP.l2d ((1 : Int64) <<< (((vi4 &&& (2147483647 : Int32)) % (63 : Int32)) &&& 0x3f).toInt64))))), .second] [(.double (FP.dmul (FP.l2d (own_down (((4503599627370496 : Int64) + (vj0 &&& (2251799813685247 : Int64))) + (vj2 &&& (4503599627370495 : Int64))))) (FP.ddiv FP.dconst1 (FP.l2d ((1 : Int64) <<< (((vi4 &&& (2147483647 : Int32)) % (63 : Int32)) &&& 0x3f).toInt64))))), (.double (own_sd (FP.dmul (FP.l2d ((4503599627370496 : Int64) + (vj0 &&& (2251799813685247 : Int64)))) (FP.ddiv FP.dconst1 (FP.l2d ((1 : Int64) <<< (((vi4 &&& (2147483647 : Int32)) % (63 : Int32)) &&& 0x3f).toInt64)))) (FP.dmul (FP.l2d (vj2 &&& (4503599627370495 : Int64))) (FP.ddiv FP.dconst1 (FP.l2d ((1 : Int64) <<< (((vi4 &&& (2147483647 : Int32)) % (63 : Int32)) &&& 0x3f).toInt64))))))])) _
    refine XS.dcmpS X8.here hx rfl (hb hby at_153) rfl rfl ?_
    show Steps p.tables e below (T8.setTop (mkF m 154 #[.val (.long vj0), .second, .val (.long vj1), .second, .val (.long vj2), .second, .val (.long vj3), .second, .val (.int vi4), .val (.long ((4503599627370496 : Int64) + (vj0 &&& (2251799813685247 : Int64)))), .second, .val (.long (((4503599627370496 : Int64) + (vj0 &&& (2251799813685247 : Int64))) + (vj1 &&& (1125899906842623 : Int64)))), .second, .val (.long (vj2 &&& (4503599627370495 : Int64))), .second, .val (.long ((vj2 &&& (4503599627370495 : Int64)) + (vj3 &&& (1125899906842623 : Int64)))), .second, .val (.int ((vi4 &&& (2147483647 : Int32)) % (63 : Int32))), .val (.double (FP.ddiv FP.dconst1 (FP.l2d ((1 : Int64) <<< (((vi4 &&& (2147483647 : Int32)) % (63 : Int32)) &&& 0x3f).toInt64)))), .second, .val (.ref b1), .val (.ref b3), .val (.ref r5), .val (.long (((4503599627370496 : Int64) + (vj0 &&& (2251799813685247 : Int64))) + (vj2 &&& (4503599627370495 : Int64)))), .second, .val (.long ((((4503599627370496 : Int64) + (vj0 &&& (2251799813685247 : Int64))) + (vj1 &&& (1125899906842623 : Int64))) + ((vj2 &&& (4503599627370495 : Int64)) + (vj3 &&& (1125899906842623 : Int64))))), .second, .val (.double (FP.dmul (FP.l2d (own_down (((4503599627370496 : Int64) + (vj0 &&& (2251799813685247 : Int64))) + (vj2 &&& (4503599627370495 : Int64))))) (FP.ddiv FP.dconst1 (FP.l2d ((1 : Int64) <<< (((vi4 &&& (2147483647 : Int32)) % (63 : Int32)) &&& 0x3f).toInt64))))), .second, .val (.double (FP.dmul (FP.l2d (own_up ((((4503599627370496 : Int64) + (vj0 &&& (2251799813685247 : Int64))) + (vj1 &&& (1125899906842623 : Int64))) + ((vj2 &&& (4503599627370495 : Int64)) + (vj3 &&& (1125899906842623 : Int64)))))) (FP.ddiv FP.dconst1 (FP.l2d ((1 : Int64) <<< (((vi4 &&& (2147483647 : Int32)) % (63 : Int32)) &&& 0x3f).toInt64))))), .second] [(.int (cmpValue (FP.dcmp (own_sd (FP.dmul (FP.l2d ((4503599627370496 : Int64) + (vj0 &&& (2251799813685247 : Int64)))) (FP.ddiv FP.dconst1 (FP.l2d ((1 : Int64) <<< (((vi4 &&& (2147483647 : Int32)) % (63 : Int32)) &&& 0x3f).toInt64)))) (FP.dmul (FP.l2d (vj2 &&& (4503599627370495 : Int64))) (FP.ddiv FP.dconst1 (FP.l2d ((1 : Int64) <<< (((vi4 &&& (2147483647 : Int32)) % (63 : Int32)) &&& 0x3f).toInt64))))) (FP.dmul (FP.l2d (own_down (((4503599627370496 : Int64) + (vj0 &&& (2251799813685247 : Int64))) + (vj2 &&& (4503599627370495 : Int64))))) (FP.ddiv FP.dconst1 (FP.l2d ((1 : Int64) <<< (((vi4 &&& (2147483647 : Int32)) % (63 : Int32)) &&& 0x3f).toInt64))))) .l))])) _
    refine XS.ifNo X8.here hx rfl (hb hby at_154) rfl ((if0 _ _).trans (teq hc154).2) ?_
    show Steps p.tables e below (T8.setTop (mkF m 157 #[.val (.long vj0), .second, .val (.long vj1), .second, .val (.long vj2), .second, .val (.long vj3), .second, .val (.int vi4), .val (.long ((4503599627370496 : Int64) + (vj0 &&& (2251799813685247 : Int64)))), .second, .val (.long (((4503599627370496 : Int64) + (vj0 &&& (2251799813685247 : Int64))) + (vj1 &&& (1125899906842623 : Int64)))), .second, .val (.long (vj2 &&& (4503599627370495 : Int64))), .second, .val (.long ((vj2 &&& (4503599627370495 : Int64)) + (vj3 &&& (1125899906842623 : Int64)))), .second, .val (.int ((vi4 &&& (2147483647 : Int32)) % (63 : Int32))), .val (.double (FP.ddiv FP.dconst1 (FP.l2d ((1 : Int64) <<< (((vi4 &&& (2147483647 : Int32)) % (63 : Int32)) &&& 0x3f).toInt64)))), .second, .val (.ref b1), .val (.ref b3), .val (.ref r5), .val (.long (((4503599627370496 : Int64) + (vj0 &&& (2251799813685247 : Int64))) + (vj2 &&& (4503599627370495 : Int64)))), .second, .val (.long ((((4503599627370496 : Int64) + (vj0 &&& (2251799813685247 : Int64))) + (vj1 &&& (1125899906842623 : Int64))) + ((vj2 &&& (4503599627370495 : Int64)) + (vj3 &&& (1125899906842623 : Int64))))), .second, .val (.double (FP.dmul (FP.l2d (own_down (((4503599627370496 : Int64) + (vj0 &&& (2251799813685247 : Int64))) + (vj2 &&& (4503599627370495 : Int64))))) (FP.ddiv FP.dconst1 (FP.l2d ((1 : Int64) <<< (((vi4 &&& (2147483647 : Int32)) % (63 : Int32)) &&& 0x3f).toInt64))))), .second, .val (.double (FP.dmul (FP.l2d (own_up ((((4503599627370496 : Int64) + (vj0 &&& (2251799813685247 : Int64))) + (vj1 &&& (1125899906842623 : Int64))) + ((vj2 &&& (4503599627370495 : Int64)) + (vj3 &&& (1125899906842623 : Int64)))))) (FP.ddiv FP.dconst1 (FP.l2d ((1 : Int64) <<< (((vi4 &&& (2147483647 : Int32)) % (63 : Int32)) &&& 0x3f).toInt64))))), .second] [])) _
    refine XS.aload X8.here hx rfl (hb hby at_157) rfl rfl ?_
    show Steps p.tables e below (T8.setTop (mkF m 159 #[.val (.long vj0), .second, .val (.long vj1), .second, .val (.long vj2), .second, .val (.long vj3), .second, .val (.int vi4), .val (.long ((4503599627370496 : Int64) + (vj0 &&& (2251799813685247 : Int64)))), .second, .val (.long (((4503599627370496 : Int64) + (vj0 &&& (2251799813685247 : Int64))) + (vj1 &&& (1125899906842623 : Int64)))), .second, .val (.long (vj2 &&& (4503599627370495 : Int64))), .second, .val (.long ((vj2 &&& (4503599627370495 : Int64)) + (vj3 &&& (1125899906842623 : Int64)))), .second, .val (.int ((vi4 &&& (2147483647 : Int32)) % (63 : Int32))), .val (.double (FP.ddiv FP.dconst1 (FP.l2d ((1 : Int64) <<< (((vi4 &&& (2147483647 : Int32)) % (63 : Int32)) &&& 0x3f).toInt64)))), .second, .val (.ref b1), .val (.ref b3), .val (.ref r5), .val (.long (((4503599627370496 : Int64) + (vj0 &&& (2251799813685247 : Int64))) + (vj2 &&& (4503599627370495 : Int64)))), .second, .val (.long ((((4503599627370496 : Int64) + (vj0 &&& (2251799813685247 : Int64))) + (vj1 &&& (1125899906842623 : Int64))) + ((vj2 &&& (4503599627370495 : Int64)) + (vj3 &&& (1125899906842623 : Int64))))), .second, .val (.double (FP.dmul (FP.l2d (own_down (((4503599627370496 : Int64) + (vj0 &&& (2251799813685247 : Int64))) + (vj2 &&& (4503599627370495 : Int64))))) (FP.ddiv FP.dconst1 (FP.l2d ((1 : Int64) <<< (((vi4 &&& (2147483647 : Int32)) % (63 : Int32)) &&& 0x3f).toInt64))))), .second, .val (.double (FP.dmul (FP.l2d (own_up ((((4503599627370496 : Int64) + (vj0 &&& (2251799813685247 : Int64))) + (vj1 &&& (1125899906842623 : Int64))) + ((vj2 &&& (4503599627370495 : Int64)) + (vj3 &&& (1125899906842623 : Int64)))))) (FP.ddiv FP.dconst1 (FP.l2d ((1 : Int64) <<< (((vi4 &&& (2147483647 : Int32)) % (63 : Int32)) &&& 0x3f).toInt64))))), .second] [(.ref r5)])) _
    refine st9.trans ?_
    show Steps p.tables e below (T9.setTop (mkF m 162 #[.val (.long vj0), .second, .val (.long vj1), .second, .val (.long vj2), .second, .val (.long vj3), .second, .val (.int vi4), .val (.long ((4503599627370496 : Int64) + (vj0 &&& (2251799813685247 : Int64)))), .second, .val (.long (((4503599627370496 : Int64) + (vj0 &&& (2251799813685247 : Int64))) + (vj1 &&& (1125899906842623 : Int64)))), .second, .val (.long (vj2 &&& (4503599627370495 : Int64))), .second, .val (.long ((vj2 &&& (4503599627370495 : Int64)) + (vj3 &&& (1125899906842623 : Int64)))), .second, .val (.int ((vi4 &&& (2147483647 : Int32)) % (63 : Int32))), .val (.double (FP.ddiv FP.dconst1 (FP.l2d ((1 : Int64) <<< (((vi4 &&& (2147483647 : Int32)) % (63 : Int32)) &&& 0x3f).toInt64)))), .second, .val (.ref b1), .val (.ref b3), .val (.ref r5), .val (.long (((4503599627370496 : Int64) + (vj0 &&& (2251799813685247 : Int64))) + (vj2 &&& (4503599627370495 : Int64)))), .second, .val (.long ((((4503599627370496 : Int64) + (vj0 &&& (2251799813685247 : Int64))) + (vj1 &&& (1125899906842623 : Int64))) + ((vj2 &&& (4503599627370495 : Int64)) + (vj3 &&& (1125899906842623 : Int64))))), .second, .val (.double (FP.dmul (FP.l2d (own_down (((4503599627370496 : Int64) + (vj0 &&& (2251799813685247 : Int64))) + (vj2 &&& (4503599627370495 : Int64))))) (FP.ddiv FP.dconst1 (FP.l2d ((1 : Int64) <<< (((vi4 &&& (2147483647 : Int32)) % (63 : Int32)) &&& 0x3f).toInt64))))), .second, .val (.double (FP.dmul (FP.l2d (own_up ((((4503599627370496 : Int64) + (vj0 &&& (2251799813685247 : Int64))) + (vj1 &&& (1125899906842623 : Int64))) + ((vj2 &&& (4503599627370495 : Int64)) + (vj3 &&& (1125899906842623 : Int64)))))) (FP.ddiv FP.dconst1 (FP.l2d ((1 : Int64) <<< (((vi4 &&& (2147483647 : Int32)) % (63 : Int32)) &&& 0x3f).toInt64))))), .second] [(.double (own_su (FP.dmul (FP.l2d (((4503599627370496 : Int64) + (vj0 &&& (2251799813685247 : Int64))) + (vj1 &&& (1125899906842623 : Int64)))) (FP.ddiv FP.dconst1 (FP.l2d ((1 : Int64) <<< (((vi4 &&& (2147483647 : Int32)) % (63 : Int32)) &&& 0x3f).toInt64)))) (FP.dmul (FP.l2d ((vj2 &&& (4503599627370495 : Int64)) + (vj3 &&& (1125899906842623 : Int64)))) (FP.ddiv FP.dconst1 (FP.l2d ((1 : Int64) <<< (((vi4 &&& (2147483647 : Int32)) % (63 : Int32)) &&& 0x3f).toInt64))))))])) _
    refine XS.dload X9.here hx rfl (hb hby at_162) rfl ?_
    show Steps p.tables e below (T9.setTop (mkF m 164 #[.val (.long vj0), .second, .val (.long vj1), .second, .val (.long vj2), .second, .val (.long vj3), .second, .val (.int vi4), .val (.long ((4503599627370496 : Int64) + (vj0 &&& (2251799813685247 : Int64)))), .second, .val (.long (((4503599627370496 : Int64) + (vj0 &&& (2251799813685247 : Int64))) + (vj1 &&& (1125899906842623 : Int64)))), .second, .val (.long (vj2 &&& (4503599627370495 : Int64))), .second, .val (.long ((vj2 &&& (4503599627370495 : Int64)) + (vj3 &&& (1125899906842623 : Int64)))), .second, .val (.int ((vi4 &&& (2147483647 : Int32)) % (63 : Int32))), .val (.double (FP.ddiv FP.dconst1 (FP.l2d ((1 : Int64) <<< (((vi4 &&& (2147483647 : Int32)) % (63 : Int32)) &&& 0x3f).toInt64)))), .second, .val (.ref b1), .val (.ref b3), .val (.ref r5), .val (.long (((4503599627370496 : Int64) + (vj0 &&& (2251799813685247 : Int64))) + (vj2 &&& (4503599627370495 : Int64)))), .second, .val (.long ((((4503599627370496 : Int64) + (vj0 &&& (2251799813685247 : Int64))) + (vj1 &&& (1125899906842623 : Int64))) + ((vj2 &&& (4503599627370495 : Int64)) + (vj3 &&& (1125899906842623 : Int64))))), .second, .val (.double (FP.dmul (FP.l2d (own_down (((4503599627370496 : Int64) + (vj0 &&& (2251799813685247 : Int64))) + (vj2 &&& (4503599627370495 : Int64))))) (FP.ddiv FP.dconst1 (FP.l2d ((1 : Int64) <<< (((vi4 &&& (2147483647 : Int32)) % (63 : Int32)) &&& 0x3f).toInt64))))), .second, .val (.double (FP.dmul (FP.l2d (own_up ((((4503599627370496 : Int64) + (vj0 &&& (2251799813685247 : Int64))) + (vj1 &&& (1125899906842623 : Int64))) + ((vj2 &&& (4503599627370495 : Int64)) + (vj3 &&& (1125899906842623 : Int64)))))) (FP.ddiv FP.dconst1 (FP.l2d ((1 : Int64) <<< (((vi4 &&& (2147483647 : Int32)) % (63 : Int32)) &&& 0x3f).toInt64))))), .second] [(.double (FP.dmul (FP.l2d (own_up ((((4503599627370496 : Int64) + (vj0 &&& (2251799813685247 : Int64))) + (vj1 &&& (1125899906842623 : Int64))) + ((vj2 &&& (4503599627370495 : Int64)) + (vj3 &&& (1125899906842623 : Int64)))))) (FP.ddiv FP.dconst1 (FP.l2d ((1 : Int64) <<< (((vi4 &&& (2147483647 : Int32)) % (63 : Int32)) &&& 0x3f).toInt64))))), (.double (own_su (FP.dmul (FP.l2d (((4503599627370496 : Int64) + (vj0 &&& (2251799813685247 : Int64))) + (vj1 &&& (1125899906842623 : Int64)))) (FP.ddiv FP.dconst1 (FP.l2d ((1 : Int64) <<< (((vi4 &&& (2147483647 : Int32)) % (63 : Int32)) &&& 0x3f).toInt64)))) (FP.dmul (FP.l2d ((vj2 &&& (4503599627370495 : Int64)) + (vj3 &&& (1125899906842623 : Int64)))) (FP.ddiv FP.dconst1 (FP.l2d ((1 : Int64) <<< (((vi4 &&& (2147483647 : Int32)) % (63 : Int32)) &&& 0x3f).toInt64))))))])) _
    refine XS.dcmpS X9.here hx rfl (hb hby at_164) rfl rfl ?_
    show Steps p.tables e below (T9.setTop (mkF m 165 #[.val (.long vj0), .second, .val (.long vj1), .second, .val (.long vj2), .second, .val (.long vj3), .second, .val (.int vi4), .val (.long ((4503599627370496 : Int64) + (vj0 &&& (2251799813685247 : Int64)))), .second, .val (.long (((4503599627370496 : Int64) + (vj0 &&& (2251799813685247 : Int64))) + (vj1 &&& (1125899906842623 : Int64)))), .second, .val (.long (vj2 &&& (4503599627370495 : Int64))), .second, .val (.long ((vj2 &&& (4503599627370495 : Int64)) + (vj3 &&& (1125899906842623 : Int64)))), .second, .val (.int ((vi4 &&& (2147483647 : Int32)) % (63 : Int32))), .val (.double (FP.ddiv FP.dconst1 (FP.l2d ((1 : Int64) <<< (((vi4 &&& (2147483647 : Int32)) % (63 : Int32)) &&& 0x3f).toInt64)))), .second, .val (.ref b1), .val (.ref b3), .val (.ref r5), .val (.long (((4503599627370496 : Int64) + (vj0 &&& (2251799813685247 : Int64))) + (vj2 &&& (4503599627370495 : Int64)))), .second, .val (.long ((((4503599627370496 : Int64) + (vj0 &&& (2251799813685247 : Int64))) + (vj1 &&& (1125899906842623 : Int64))) + ((vj2 &&& (4503599627370495 : Int64)) + (vj3 &&& (1125899906842623 : Int64))))), .second, .val (.double (FP.dmul (FP.l2d (own_down (((4503599627370496 : Int64) + (vj0 &&& (2251799813685247 : Int64))) + (vj2 &&& (4503599627370495 : Int64))))) (FP.ddiv FP.dconst1 (FP.l2d ((1 : Int64) <<< (((vi4 &&& (2147483647 : Int32)) % (63 : Int32)) &&& 0x3f).toInt64))))), .second, .val (.double (FP.dmul (FP.l2d (own_up ((((4503599627370496 : Int64) + (vj0 &&& (2251799813685247 : Int64))) + (vj1 &&& (1125899906842623 : Int64))) + ((vj2 &&& (4503599627370495 : Int64)) + (vj3 &&& (1125899906842623 : Int64)))))) (FP.ddiv FP.dconst1 (FP.l2d ((1 : Int64) <<< (((vi4 &&& (2147483647 : Int32)) % (63 : Int32)) &&& 0x3f).toInt64))))), .second] [(.int (cmpValue (FP.dcmp (own_su (FP.dmul (FP.l2d (((4503599627370496 : Int64) + (vj0 &&& (2251799813685247 : Int64))) + (vj1 &&& (1125899906842623 : Int64)))) (FP.ddiv FP.dconst1 (FP.l2d ((1 : Int64) <<< (((vi4 &&& (2147483647 : Int32)) % (63 : Int32)) &&& 0x3f).toInt64)))) (FP.dmul (FP.l2d ((vj2 &&& (4503599627370495 : Int64)) + (vj3 &&& (1125899906842623 : Int64)))) (FP.ddiv FP.dconst1 (FP.l2d ((1 : Int64) <<< (((vi4 &&& (2147483647 : Int32)) % (63 : Int32)) &&& 0x3f).toInt64))))) (FP.dmul (FP.l2d (own_up ((((4503599627370496 : Int64) + (vj0 &&& (2251799813685247 : Int64))) + (vj1 &&& (1125899906842623 : Int64))) + ((vj2 &&& (4503599627370495 : Int64)) + (vj3 &&& (1125899906842623 : Int64)))))) (FP.ddiv FP.dconst1 (FP.l2d ((1 : Int64) <<< (((vi4 &&& (2147483647 : Int32)) % (63 : Int32)) &&& 0x3f).toInt64))))) .l))])) _
    refine XS.ifNo X9.here hx rfl (hb hby at_165) rfl ((if0 _ _).trans (teq hc165).2) ?_
    show Steps p.tables e below (T9.setTop (mkF m 168 #[.val (.long vj0), .second, .val (.long vj1), .second, .val (.long vj2), .second, .val (.long vj3), .second, .val (.int vi4), .val (.long ((4503599627370496 : Int64) + (vj0 &&& (2251799813685247 : Int64)))), .second, .val (.long (((4503599627370496 : Int64) + (vj0 &&& (2251799813685247 : Int64))) + (vj1 &&& (1125899906842623 : Int64)))), .second, .val (.long (vj2 &&& (4503599627370495 : Int64))), .second, .val (.long ((vj2 &&& (4503599627370495 : Int64)) + (vj3 &&& (1125899906842623 : Int64)))), .second, .val (.int ((vi4 &&& (2147483647 : Int32)) % (63 : Int32))), .val (.double (FP.ddiv FP.dconst1 (FP.l2d ((1 : Int64) <<< (((vi4 &&& (2147483647 : Int32)) % (63 : Int32)) &&& 0x3f).toInt64)))), .second, .val (.ref b1), .val (.ref b3), .val (.ref r5), .val (.long (((4503599627370496 : Int64) + (vj0 &&& (2251799813685247 : Int64))) + (vj2 &&& (4503599627370495 : Int64)))), .second, .val (.long ((((4503599627370496 : Int64) + (vj0 &&& (2251799813685247 : Int64))) + (vj1 &&& (1125899906842623 : Int64))) + ((vj2 &&& (4503599627370495 : Int64)) + (vj3 &&& (1125899906842623 : Int64))))), .second, .val (.double (FP.dmul (FP.l2d (own_down (((4503599627370496 : Int64) + (vj0 &&& (2251799813685247 : Int64))) + (vj2 &&& (4503599627370495 : Int64))))) (FP.ddiv FP.dconst1 (FP.l2d ((1 : Int64) <<< (((vi4 &&& (2147483647 : Int32)) % (63 : Int32)) &&& 0x3f).toInt64))))), .second, .val (.double (FP.dmul (FP.l2d (own_up ((((4503599627370496 : Int64) + (vj0 &&& (2251799813685247 : Int64))) + (vj1 &&& (1125899906842623 : Int64))) + ((vj2 &&& (4503599627370495 : Int64)) + (vj3 &&& (1125899906842623 : Int64)))))) (FP.ddiv FP.dconst1 (FP.l2d ((1 : Int64) <<< (((vi4 &&& (2147483647 : Int32)) % (63 : Int32)) &&& 0x3f).toInt64))))), .second] [])) _
    refine XS.iconst X9.here hx rfl (hb hby at_168) ?_
    show Steps p.tables e below (T9.setTop (mkF m 169 #[.val (.long vj0), .second, .val (.long vj1), .second, .val (.long vj2), .second, .val (.long vj3), .second, .val (.int vi4), .val (.long ((4503599627370496 : Int64) + (vj0 &&& (2251799813685247 : Int64)))), .second, .val (.long (((4503599627370496 : Int64) + (vj0 &&& (2251799813685247 : Int64))) + (vj1 &&& (1125899906842623 : Int64)))), .second, .val (.long (vj2 &&& (4503599627370495 : Int64))), .second, .val (.long ((vj2 &&& (4503599627370495 : Int64)) + (vj3 &&& (1125899906842623 : Int64)))), .second, .val (.int ((vi4 &&& (2147483647 : Int32)) % (63 : Int32))), .val (.double (FP.ddiv FP.dconst1 (FP.l2d ((1 : Int64) <<< (((vi4 &&& (2147483647 : Int32)) % (63 : Int32)) &&& 0x3f).toInt64)))), .second, .val (.ref b1), .val (.ref b3), .val (.ref r5), .val (.long (((4503599627370496 : Int64) + (vj0 &&& (2251799813685247 : Int64))) + (vj2 &&& (4503599627370495 : Int64)))), .second, .val (.long ((((4503599627370496 : Int64) + (vj0 &&& (2251799813685247 : Int64))) + (vj1 &&& (1125899906842623 : Int64))) + ((vj2 &&& (4503599627370495 : Int64)) + (vj3 &&& (1125899906842623 : Int64))))), .second, .val (.double (FP.dmul (FP.l2d (own_down (((4503599627370496 : Int64) + (vj0 &&& (2251799813685247 : Int64))) + (vj2 &&& (4503599627370495 : Int64))))) (FP.ddiv FP.dconst1 (FP.l2d ((1 : Int64) <<< (((vi4 &&& (2147483647 : Int32)) % (63 : Int32)) &&& 0x3f).toInt64))))), .second, .val (.double (FP.dmul (FP.l2d (own_up ((((4503599627370496 : Int64) + (vj0 &&& (2251799813685247 : Int64))) + (vj1 &&& (1125899906842623 : Int64))) + ((vj2 &&& (4503599627370495 : Int64)) + (vj3 &&& (1125899906842623 : Int64)))))) (FP.ddiv FP.dconst1 (FP.l2d ((1 : Int64) <<< (((vi4 &&& (2147483647 : Int32)) % (63 : Int32)) &&& 0x3f).toInt64))))), .second] [(.int (1 : Int32))])) _
    refine XS.goto X9.here hx rfl (pc0 := 169) (pc' := 173) rfl (hb hby at_169) (by decide) (by decide) ?_
    show Steps p.tables e below (T9.setTop (mkF m 173 #[.val (.long vj0), .second, .val (.long vj1), .second, .val (.long vj2), .second, .val (.long vj3), .second, .val (.int vi4), .val (.long ((4503599627370496 : Int64) + (vj0 &&& (2251799813685247 : Int64)))), .second, .val (.long (((4503599627370496 : Int64) + (vj0 &&& (2251799813685247 : Int64))) + (vj1 &&& (1125899906842623 : Int64)))), .second, .val (.long (vj2 &&& (4503599627370495 : Int64))), .second, .val (.long ((vj2 &&& (4503599627370495 : Int64)) + (vj3 &&& (1125899906842623 : Int64)))), .second, .val (.int ((vi4 &&& (2147483647 : Int32)) % (63 : Int32))), .val (.double (FP.ddiv FP.dconst1 (FP.l2d ((1 : Int64) <<< (((vi4 &&& (2147483647 : Int32)) % (63 : Int32)) &&& 0x3f).toInt64)))), .second, .val (.ref b1), .val (.ref b3), .val (.ref r5), .val (.long (((4503599627370496 : Int64) + (vj0 &&& (2251799813685247 : Int64))) + (vj2 &&& (4503599627370495 : Int64)))), .second, .val (.long ((((4503599627370496 : Int64) + (vj0 &&& (2251799813685247 : Int64))) + (vj1 &&& (1125899906842623 : Int64))) + ((vj2 &&& (4503599627370495 : Int64)) + (vj3 &&& (1125899906842623 : Int64))))), .second, .val (.double (FP.dmul (FP.l2d (own_down (((4503599627370496 : Int64) + (vj0 &&& (2251799813685247 : Int64))) + (vj2 &&& (4503599627370495 : Int64))))) (FP.ddiv FP.dconst1 (FP.l2d ((1 : Int64) <<< (((vi4 &&& (2147483647 : Int32)) % (63 : Int32)) &&& 0x3f).toInt64))))), .second, .val (.double (FP.dmul (FP.l2d (own_up ((((4503599627370496 : Int64) + (vj0 &&& (2251799813685247 : Int64))) + (vj1 &&& (1125899906842623 : Int64))) + ((vj2 &&& (4503599627370495 : Int64)) + (vj3 &&& (1125899906842623 : Int64)))))) (FP.ddiv FP.dconst1 (FP.l2d ((1 : Int64) <<< (((vi4 &&& (2147483647 : Int32)) % (63 : Int32)) &&& 0x3f).toInt64))))), .second] [(.int (1 : Int32))])) _
    exact retN X9 hx (t := .boolean) Bd.returns (by simp) (hb hby at_173) hr
  · show Q0 Z vj0 vj1 vj2 vj3 vi4 h0 n0 _ T9.heap _
    rw [e9]
    exact ⟨rfl, N9⟩
section Fp
open Jvm.FP Jvm.FP.Core
def own_u : Datum → Int
  | .fin s c q => signed s (c * 2 ^ (q + 1074).toNat)
  | _ => 0
def own_R (v : Int) : Datum := round b64 (.fin (decide (v < 0)) v.natAbs (-1074))
def own_B (v : Int) : UInt64 := of64 (own_R v)
theorem own_qmin : b64.qmin = -1074 := by decide
theorem own_valB (v : Int) : val64 (own_B v) = own_R v := val64_of64 (round_fits good_b64 _)
/-- v is a double, written so -/
def own_G (v : Int) : Prop := ∃ (c : Nat) (q : Int), own_R v = .fin (decide (v < 0)) c q ∧ -1074 ≤ q ∧ c * 2 ^ (q + 1074).toNat = v.natAbs
theorem own_sgn (v : Int) {n : Nat} (h : n = v.natAbs) : signed (decide (v < 0)) n = v := by
  unfold signed
  split <;> simp_all <;> omega
theorem own_good (j : Int) (k : Nat) (hj : j.natAbs < 2 ^ 53) (hk : 52 ≤ k) (hk2 : k ≤ 1500) : own_G (j * 2 ^ k) := by
  by_cases h0 : j = 0
  · subst h0
    refine ⟨0, -1074, ?_, by omega, by simp⟩
    have e : (0 : Int) * 2 ^ k = 0 := by omega
    rw [e]
    decide
  · have n0 : j.natAbs ≠ 0 := by omega
    have l1 := Nat.log2_self_le n0
    have l2 := Nat.lt_log2_self (n := j.natAbs)
    have l3 : j.natAbs.log2 < 53 := (Nat.log2_lt n0).mpr hj
    generalize hL : j.natAbs.log2 = L at l1 l2 l3
    have hna : (j * 2 ^ k).natAbs = j.natAbs * 2 ^ k := by rw [Int.natAbs_mul, Int.natAbs_pow]; rfl
    have hs : decide (j * 2 ^ k < 0) = decide (j < 0) := by
      have p : (0 : Int) < 2 ^ k := Int.pow_pos (by omega)
      by_cases c : j < 0
      · have := Int.mul_neg_of_neg_of_pos c p
        simp [c, this]
      · have := Int.mul_nonneg (by omega : 0 ≤ j) (Int.le_of_lt p)
        simp [c]; omega
    have pw : 2 ^ 52 = 2 ^ L * 2 ^ (52 - L) := by rw [← Nat.pow_add]; congr 1; omega
    have pw3 : 2 ^ 53 = 2 ^ (L + 1) * 2 ^ (52 - L) := by rw [← Nat.pow_add]; congr 1; omega
    have pk : 2 ^ k = 2 ^ (52 - L) * 2 ^ (k - (52 - L)) := by rw [← Nat.pow_add]; congr 1; omega
    refine ⟨j.natAbs * 2 ^ (52 - L), (k : Int) - 1074 - (52 - L : Nat), ?_, by omega, ?_⟩
    · unfold own_R
      rw [hna, hs]
      show roundRatio b64 _ _ 1 _ = _
      refine roundRatio_exact good_b64 (by decide) ?_ ?_
      · refine ⟨?_, ?_, ?_, Or.inr ?_⟩
        · show _ < 2 ^ 53
          rw [pw3]
          exact Nat.mul_lt_mul_of_pos_right l2 (Nat.two_pow_pos _)
        · rw [own_qmin]; omega
        · have : b64.qmax = 971 := by decide
          rw [this]; omega
        · show 2 ^ 52 ≤ _
          rw [pw]
          exact Nat.mul_le_mul_right _ l1
      · rw [show (-1074 - ((k : Int) - 1074 - (52 - L : Nat))).toNat = 0 by omega, show (((k : Int) - 1074 - (52 - L : Nat)) - -1074).toNat = k - (52 - L) by omega]
        rw [pk, Nat.pow_zero, Nat.mul_one, Nat.mul_one, Nat.mul_assoc]
    · rw [hna, show ((k : Int) - 1074 - (52 - L : Nat) + 1074).toNat = k - (52 - L) by omega, pk, Nat.mul_assoc]
theorem own_sum {s t : Bool} {c d : Nat} {q r : Int} {v w : Int} (hq : -1074 ≤ q) (hr : -1074 ≤ r) (hv : signed s (c * 2 ^ (q + 1074).toNat) = v) (hw : signed t (d * 2 ^ (r + 1074).toNat) = w) (hst : (s && t) = true → v + w ≠ 0) : round b64 (exactSum (.fin s c q) (.fin t d r)) = own_R (v + w) := by
  show roundRatio b64 (sumSign s t (sumUnits s c q t d r (min q r))) (sumUnits s c q t d r (min q r)).natAbs 1 (min q r) = roundRatio b64 (decide (v + w < 0)) (v + w).natAbs 1 (-1074)
  have hm : -1074 ≤ min q r := by omega
  have hp : (0 : Int) < 2 ^ (min q r + 1074).toNat := Int.pow_pos (by omega)
  have e1 : signed s (inUnits c q (min q r)) * 2 ^ (min q r + 1074).toNat = v := by
    rw [← hv]; unfold inUnits signed
    have : 2 ^ (q - min q r).toNat * 2 ^ (min q r + 1074).toNat = 2 ^ (q + 1074).toNat := by rw [← Nat.pow_add]; congr 1; omega
    split
    · rw [← this, Int.neg_mul]; congr 1; push_cast; rw [Int.mul_assoc]
    · rw [← this]; push_cast; rw [Int.mul_assoc]
  have e2 : signed t (inUnits d r (min q r)) * 2 ^ (min q r + 1074).toNat = w := by
    rw [← hw]; unfold inUnits signed
    have : 2 ^ (r - min q r).toNat * 2 ^ (min q r + 1074).toNat = 2 ^ (r + 1074).toNat := by rw [← Nat.pow_add]; congr 1; omega
    split
    · rw [← this, Int.neg_mul]; congr 1; push_cast; rw [Int.mul_assoc]
    · rw [← this]; push_cast; rw [Int.mul_assoc]
  have eU : sumUnits s c q t d r (min q r) * 2 ^ (min q r + 1074).toNat = v + w := by
    unfold sumUnits; rw [Int.add_mul, e1, e2]
  generalize sumUnits s c q t d r (min q r) = U at eU ⊢
  have hs : sumSign s t U = decide (v + w < 0) := by
    unfold sumSign
    by_cases c0 : U = 0
    · have z : v + w = 0 := by rw [← eU, c0]; omega
      rw [if_pos c0, z]
      cases hh : (s && t)
      · rfl
      · exact absurd z (hst hh)
    · rw [if_neg c0, ← eU]
      by_cases c1 : U < 0
      · have := Int.mul_neg_of_neg_of_pos c1 hp
        simp [c1, this]
      · have := Int.mul_nonneg (by omega : 0 ≤ U) (Int.le_of_lt hp)
        simp [c1]; omega
  rw [hs]
  refine roundRatio_congr (by decide) (by decide) ?_
  rw [← eU, Int.natAbs_mul, Int.natAbs_pow, show (min q r - -1074).toNat = (min q r + 1074).toNat by omega, show (-1074 - min q r).toNat = 0 by omega]
  simp
theorem own_dadd {v w : Int} (hv : own_G v) (hw : own_G w) : Core.dadd (own_B v) (own_B w) = own_B (v + w) := by
  show of64 (round b64 (exactSum (val64 (own_B v)) (val64 (own_B w)))) = of64 (own_R (v + w))
  rw [own_valB, own_valB]
  obtain ⟨c, q, h1, h2, h3⟩ := hv
  obtain ⟨d, r, g1, g2, g3⟩ := hw
  rw [h1, g1, own_sum h2 g2 (own_sgn v h3) (own_sgn w g3)]
  simp
  omega
theorem own_dsub {v w : Int} (hv : own_G v) (hw : own_G w) : Core.dsub (own_B v) (own_B w) = own_B (v - w) := by
  show of64 (round b64 (exactSum (val64 (own_B v)) (negate (val64 (own_B w))))) = of64 (own_R (v - w))
  rw [own_valB, own_valB]
  obtain ⟨c, q, h1, h2, h3⟩ := hv
  obtain ⟨d, r, g1, g2, g3⟩ := hw
  have gs := own_sgn w g3
  have gn : signed (!decide (w < 0)) (d * 2 ^ (r + 1074).toNat) = -w := by
    have e : -w = -(signed (decide (w < 0)) (d * 2 ^ (r + 1074).toNat)) := by rw [gs]
    rw [e]
    generalize decide (w < 0) = b
    unfold signed
    cases b <;> simp
  rw [h1, g1]
  show of64 (round b64 (exactSum (.fin _ c q) (.fin _ d r))) = _
  rw [own_sum h2 g2 (own_sgn v h3) gn, Int.sub_eq_add_neg]
  simp
  omega
theorem own_B0 : own_B 0 = FP.dconst0 := by decide +kernel
theorem own_sg (x : Int) (k : Nat) : decide (x * 2 ^ k < 0) = decide (x < 0) := by
  have p : (0 : Int) < 2 ^ k := Int.pow_pos (by omega)
  by_cases c : x < 0
  · have := Int.mul_neg_of_neg_of_pos c p
    simp [c, this]
  · have := Int.mul_nonneg (by omega : 0 ≤ x) (Int.le_of_lt p)
    simp [c]; omega
theorem own_l2d (x : Int64) : FP.l2d x = own_B (x.toInt * 2 ^ 1074) := by
  show of64 (round b64 (ofInt x.toInt)) = of64 (own_R _)
  congr 1
  show roundRatio b64 (decide (x.toInt < 0)) x.toInt.natAbs 1 0 = roundRatio b64 _ _ 1 (-1074)
  rw [own_sg]
  refine roundRatio_congr (by decide) (by decide) ?_
  rw [Int.natAbs_mul, Int.natAbs_pow]
  show _ * 1 * 2 ^ 1074 = _ * 2 ^ 1074 * 1 * 2 ^ 0
  rw [Nat.pow_zero, Nat.mul_one, Nat.mul_one, Nat.mul_one]
theorem own_dmul {v w : Int} {e : Nat} (he : e ≤ 1000) (hv : own_G v) (h : w * 2 ^ e = v) : Core.dmul (own_B v) (own_B (1 * 2 ^ (1074 - e))) = own_B w := by
  have hg : own_G (1 * 2 ^ (1074 - e)) := own_good 1 (1074 - e) (by decide) (by omega) (by omega)
  show of64 (round b64 (exactProduct (val64 (own_B v)) (val64 (own_B _)))) = of64 (own_R w)
  rw [own_valB, own_valB]
  obtain ⟨c, q, h1, h2, h3⟩ := hv
  obtain ⟨d, r, g1, g2, g3⟩ := hg
  rw [h1, g1]
  congr 1
  show roundRatio b64 (decide (v < 0) != decide (_ < 0)) (c * d) 1 (q + r) = roundRatio b64 (decide (w < 0)) w.natAbs 1 (-1074)
  have s1 : decide (v < 0) = decide (w < 0) := by rw [← h, own_sg]
  have s2 : decide ((1 : Int) * 2 ^ (1074 - e) < 0) = false := by rw [own_sg]; rfl
  rw [s1, s2, Bool.bne_false]
  refine roundRatio_congr (by decide) (by decide) ?_
  rw [← h, Int.natAbs_mul, Int.natAbs_pow] at h3
  rw [Int.natAbs_mul, Int.natAbs_pow] at g3
  obtain ⟨Q, hQ⟩ : ∃ Q, (q + 1074).toNat = Q := ⟨_, rfl⟩
  obtain ⟨P, hP⟩ : ∃ P, (r + 1074).toNat = P := ⟨_, rfl⟩
  rw [hQ] at h3
  rw [hP] at g3
  have key : (c * d) * 2 ^ (Q + P) = w.natAbs * 2 ^ 1074 := by
    have e1 : 2 ^ 1074 = 2 ^ e * 2 ^ (1074 - e) := by rw [← Nat.pow_add]; congr 1; omega
    have g3' : d * 2 ^ P = 2 ^ (1074 - e) := by rw [g3]; show 1 * 2 ^ (1074 - e) = _; rw [Nat.one_mul]
    have h3' : c * 2 ^ Q = w.natAbs * 2 ^ e := h3
    rw [e1, ← Nat.mul_assoc, ← h3', ← g3', Nat.pow_add]
    simp only [Nat.mul_assoc, Nat.mul_left_comm]
  rw [Nat.mul_one, Nat.mul_one]
  by_cases cc : 1074 ≤ Q + P
  · rw [show (q + r - -1074).toNat = Q + P - 1074 by omega, show (-1074 - (q + r)).toNat = 0 by omega]
    have p74 : 0 < 2 ^ 1074 := Nat.two_pow_pos 1074
    refine Nat.eq_of_mul_eq_mul_right p74 ?_
    rw [Nat.mul_assoc, ← Nat.pow_add, show Q + P - 1074 + 1074 = Q + P by omega, key, Nat.pow_zero, Nat.mul_one]
  · rw [show (q + r - -1074).toNat = 0 by omega, show (-1074 - (q + r)).toNat = 1074 - (Q + P) by omega]
    refine Nat.eq_of_mul_eq_mul_right (Nat.two_pow_pos (Q + P)) ?_
    rw [Nat.pow_zero, Nat.mul_one, key, Nat.mul_assoc, ← Nat.pow_add, show 1074 - (Q + P) + (Q + P) = 1074 by omega]
theorem own_un {s : Bool} {c : Nat} {q m v : Int} (hm : -1074 ≤ m) (hq : m ≤ q) (hv : signed s (c * 2 ^ (q + 1074).toNat) = v) : signed s (inUnits c q m) * 2 ^ (m + 1074).toNat = v := by
  rw [← hv]; unfold inUnits signed
  have : 2 ^ (q - m).toNat * 2 ^ (m + 1074).toNat = 2 ^ (q + 1074).toNat := by rw [← Nat.pow_add]; congr 1; omega
  split
  · rw [← this, Int.neg_mul]; congr 1; push_cast; rw [Int.mul_assoc]
  · rw [← this]; push_cast; rw [Int.mul_assoc]
theorem own_cmp {v w : Int} (hv : own_G v) (hw : own_G w) : Core.dcmp (own_B v) (own_B w) = some (if v < w then .lt else if v = w then .eq else .gt) := by
  show order (val64 (own_B v)) (val64 (own_B w)) = _
  rw [own_valB, own_valB]
  obtain ⟨c, q, h1, h2, h3⟩ := hv
  obtain ⟨d, r, g1, g2, g3⟩ := hw
  rw [h1, g1]
  show some (compareOfLessAndEq (signed _ (inUnits c q (min q r))) (signed _ (inUnits d r (min q r)))) = _
  have e1 := own_un (m := min q r) (by omega) (by omega) (own_sgn v h3)
  have e2 := own_un (m := min q r) (by omega) (by omega) (own_sgn w g3)
  have hp : (0 : Int) < 2 ^ (min q r + 1074).toNat := Int.pow_pos (by omega)
  generalize signed (decide (v < 0)) (inUnits c q (min q r)) = x at e1 ⊢
  generalize signed (decide (w < 0)) (inUnits d r (min q r)) = y at e2 ⊢
  have k1 : x < y ↔ v < w := by rw [← e1, ← e2]; exact (Int.mul_lt_mul_right hp).symm
  have k2 : x = y ↔ v = w := by
    rw [← e1, ← e2]
    exact ⟨fun z => by rw [z], fun z => Int.eq_of_mul_eq_mul_right (by omega) z⟩
  unfold compareOfLessAndEq
  simp only [k1, k2]
theorem own_nn {v : Int} (hv : own_G v) : Jvm.Free.Fl.NoNaN64 (own_B v) := by
  refine Jvm.Free.Fl.val64_no.mpr ?_
  rw [own_valB]
  obtain ⟨c, q, h1, -⟩ := hv
  rw [h1]
  exact fun z => nomatch z
theorem own_exact {T k : Nat} (h1 : 2 ^ 52 ≤ T) (h2 : T < 2 ^ 53) (hk : k ≤ 2000) : own_R ((T : Int) * 2 ^ k) = .fin false T ((k : Int) - 1074) := by
  unfold own_R
  rw [own_sg, Int.natAbs_mul, Int.natAbs_pow, show decide ((T : Int) < 0) = false by simp]
  show roundRatio b64 false (T * 2 ^ k) 1 (-1074) = _
  refine roundRatio_exact good_b64 (by decide) ⟨h2, ?_, ?_, Or.inr h1⟩ ?_
  · rw [own_qmin]; omega
  · have : b64.qmax = 971 := by decide
    rw [this]; omega
  · rw [show (-1074 - ((k : Int) - 1074)).toNat = 0 by omega, show ((k : Int) - 1074 - -1074).toNat = k by omega, Nat.pow_zero, Nat.mul_one, Nat.mul_one]
theorem own_bits1 {T k : Nat} (h1 : 2 ^ 52 ≤ T) (h2 : T < 2 ^ 53) (hk : k ≤ 2000) : own_B ((T : Int) * 2 ^ k) = UInt64.ofNat (k * 2 ^ 52 + T) := by
  unfold own_B
  rw [own_exact h1 h2 hk]
  show UInt64.ofNat (if T < 2 ^ 52 then _ else (0 * 2048 + (((k : Int) - 1074 - b64.qmin).toNat + 1)) * 2 ^ 52 + (T - 2 ^ 52)) = _
  rw [if_neg (by omega), own_qmin, show ((k : Int) - 1074 - -1074).toNat = k by omega]
  refine congrArg UInt64.ofNat ?_
  omega
theorem own_bits {T k : Nat} (h1 : 2 ^ 52 ≤ T) (h2 : T ≤ 2 ^ 53) (hk : k ≤ 1999) : own_B ((T : Int) * 2 ^ k) = UInt64.ofNat (k * 2 ^ 52 + T) := by
  by_cases c : T < 2 ^ 53
  · exact own_bits1 h1 c (by omega)
  · have : T = 2 ^ 53 := by omega
    subst this
    have e : ((2 ^ 53 : Nat) : Int) * 2 ^ k = ((2 ^ 52 : Nat) : Int) * 2 ^ (k + 1) := by
      rw [Int.pow_succ]; generalize (2 : Int) ^ k = z
      show (9007199254740992 : Int) * z = 4503599627370496 * (z * 2)
      omega
    rw [e, own_bits1 (by decide) (by decide) (by omega)]
    refine congrArg UInt64.ofNat ?_
    omega
theorem own_tie {t k : Nat} (h1 : 2 ^ 52 ≤ t) (h2 : t + 1 < 2 ^ 53) (hk : k ≤ 1500) : own_R (((2 * t + 1 : Nat) : Int) * 2 ^ k) = own_R (((t + t % 2 : Nat) : Int) * 2 ^ (k + 1)) := by
  rw [own_exact (T := t + t % 2) (by omega) (by omega) (by omega)]
  unfold own_R
  rw [own_sg, Int.natAbs_mul, Int.natAbs_pow, show decide (((2 * t + 1 : Nat) : Int) < 0) = false by simp; omega]
  show roundRatio b64 false ((2 * t + 1) * 2 ^ k) 1 (-1074) = _
  have p : 0 < 2 ^ k := Nat.two_pow_pos k
  have A0 : 0 < (2 * t + 1) * 2 ^ k := Nat.mul_pos (by omega) p
  have hq : quantum b64 ((2 * t + 1) * 2 ^ k) 1 (-1074) = (k : Int) + 1 - 1074 := by
    refine quantum_eq A0 (by decide) (by rw [own_qmin]; omega) ?_ (Or.inr ?_)
    · rw [show (k : Int) + 1 - 1074 - -1074 + (b64.p : Nat) = ((k + 54 : Nat) : Int) - (0 : Nat) by show (k : Int) + 1 - 1074 - -1074 + 53 = _; omega, below_iff]
      have : 2 ^ (k + 54) = 2 ^ 54 * 2 ^ k := by rw [← Nat.pow_add]; congr 1; omega
      rw [this, Nat.pow_zero, Nat.mul_one, Nat.one_mul]
      exact Nat.mul_lt_mul_of_pos_right (by omega) p
    · rw [show (k : Int) + 1 - 1074 - -1074 + ((b64.p : Int) - 1) = ((k + 53 : Nat) : Int) - (0 : Nat) by show (k : Int) + 1 - 1074 - -1074 + (53 - 1) = _; omega, below_iff]
      have : 2 ^ (k + 53) = 2 ^ 53 * 2 ^ k := by rw [← Nat.pow_add]; congr 1; omega
      rw [this, Nat.pow_zero, Nat.mul_one, Nat.one_mul]
      have := Nat.mul_le_mul_right (2 ^ k) (by omega : 2 ^ 53 ≤ 2 * t + 1)
      omega
  unfold roundRatio
  rw [if_neg (by omega), hq]
  unfold roundAt unitsNum unitsDen
  rw [show (-1074 - ((k : Int) + 1 - 1074)).toNat = 0 by omega, show ((k : Int) + 1 - 1074 - -1074).toNat = k + 1 by omega, Nat.pow_zero, Nat.mul_one, show 1 * 2 ^ (k + 1) = 2 * 2 ^ k by rw [Nat.pow_succ]; omega, nearest_scale _ _ _ p]
  have hn : nearest (2 * t + 1) 2 = t + t % 2 := by
    unfold nearest
    rw [show (2 * t + 1) % 2 = 1 by omega, show (2 * t + 1) / 2 = t by omega]
    simp
  rw [hn]
  unfold settle bound
  have : b64.qmax = 971 := by decide
  rw [if_pos (by show _ < 2 ^ 53; omega), if_pos (by rw [this]; omega)]
  congr 1

end Fp
section Fin
open Jvm.FP Jvm.FP.Core
theorem own_G0 : own_G 0 := by
  have := own_good 0 52 (by decide) (by decide) (by decide)
  rwa [Int.zero_mul] at this
theorem own_mid {a c j : Int} {k : Nat} (ha : own_G (a * 2 ^ k)) (hc : own_G (c * 2 ^ k)) (hj : own_B ((a + c) * 2 ^ k) = own_B (j * 2 ^ k)) (gj : own_G (j * 2 ^ k)) (g1 : own_G ((j - a) * 2 ^ k)) (g2 : own_G ((a + c - j) * 2 ^ k)) :
    FP.dadd (own_B (a * 2 ^ k)) (own_B (c * 2 ^ k)) = own_B (j * 2 ^ k) ∧ FP.dsub (own_B (j * 2 ^ k)) (own_B (a * 2 ^ k)) = own_B ((j - a) * 2 ^ k) ∧ FP.dsub (own_B (j * 2 ^ k)) (own_B ((j - a) * 2 ^ k)) = own_B (a * 2 ^ k) ∧ FP.dsub (own_B (a * 2 ^ k)) (own_B (a * 2 ^ k)) = own_B 0 ∧ FP.dsub (own_B (c * 2 ^ k)) (own_B ((j - a) * 2 ^ k)) = own_B ((a + c - j) * 2 ^ k) ∧ FP.dadd (own_B 0) (own_B ((a + c - j) * 2 ^ k)) = own_B ((a + c - j) * 2 ^ k) := by
  refine ⟨?_, ?_, ?_, ?_, ?_, ?_⟩
  · refine (own_dadd ha hc).trans ?_
    rw [← Int.add_mul, hj]
  · refine (own_dsub gj ha).trans ?_
    rw [← Int.sub_mul]
  · refine (own_dsub gj g1).trans ?_
    rw [← Int.sub_mul, show j - (j - a) = a by omega]
  · refine (own_dsub ha ha).trans ?_
    rw [Int.sub_self]
  · refine (own_dsub hc g1).trans ?_
    rw [← Int.sub_mul, show c - (j - a) = a + c - j by omega]
  · refine (own_dadd own_G0 g2).trans ?_
    rw [Int.zero_add]
theorem own_c1 {d : Int} {k : Nat} (g : own_G (d * 2 ^ k)) (o : CmpOp) : cmpValue (FP.dcmp (own_B (d * 2 ^ k)) FP.dconst0) o = if d < 0 then -1 else if d = 0 then 0 else 1 := by
  have e : FP.dcmp (own_B (d * 2 ^ k)) FP.dconst0 = some (if d * 2 ^ k < 0 then .lt else if d * 2 ^ k = 0 then .eq else .gt) := by
    rw [← own_B0]
    exact own_cmp g own_G0
  have s1 : d * 2 ^ k < 0 ↔ d < 0 := decide_eq_decide.mp (own_sg d k)
  have p : (0 : Int) < 2 ^ k := Int.pow_pos (by omega)
  have s2 : d * 2 ^ k = 0 ↔ d = 0 := by
    constructor
    · intro h
      rcases Int.mul_eq_zero.mp h with h | h
      · exact h
      · omega
    · intro h
      rw [h, Int.zero_mul]
  rw [e]
  simp only [s1, s2]
  split
  · cases o <;> rfl
  · split
    · cases o <;> rfl
    · cases o <;> rfl
theorem own_hv {r : UInt64} (h : Jvm.Free.Fl.NoNaN64 r) : (r &&& 0x7fffffffffffffff > 0x7ff0000000000000 && r &&& 0x0008000000000000 == 0) = false := by
  have : ¬ (r &&& 0x7fffffffffffffff > 0x7ff0000000000000) := UInt64.not_lt.mpr h
  simp [this]
theorem own_pred {T K : Nat} (h1 : 2 ^ 52 < T) (h2 : T < 2 ^ 53) (hK : K ≤ 1500) : ((own_B ((T : Int) * 2 ^ K)).toInt64 + (-1 : Int64)).toUInt64 = own_B (((T - 1 : Nat) : Int) * 2 ^ K) := by
  rw [own_bits (by omega) (by omega) (by omega), own_bits (by omega) (by omega) (by omega), Int64.toUInt64_add]
  show UInt64.ofNat (K * 2 ^ 52 + T) + 18446744073709551615 = _
  apply UInt64.toNat_inj.mp
  rw [UInt64.toNat_add, UInt64.toNat_ofNat', UInt64.toNat_ofNat']
  show ((K * 2 ^ 52 + T) % 2 ^ 64 + 18446744073709551615) % 2 ^ 64 = _
  omega
theorem own_succ {T K : Nat} (h1 : 2 ^ 52 ≤ T) (h2 : T < 2 ^ 53) (hK : K ≤ 1500) : ((own_B ((T : Int) * 2 ^ K)).toInt64 + (1 : Int64)).toUInt64 = own_B (((T + 1 : Nat) : Int) * 2 ^ K) := by
  rw [own_bits (by omega) (by omega) (by omega), own_bits (by omega) (by omega) (by omega), Int64.toUInt64_add]
  show UInt64.ofNat (K * 2 ^ 52 + T) + 1 = _
  apply UInt64.toNat_inj.mp
  rw [UInt64.toNat_add, UInt64.toNat_ofNat', UInt64.toNat_ofNat']
  show ((K * 2 ^ 52 + T) % 2 ^ 64 + 1) % 2 ^ 64 = _
  omega
theorem own_F {T K : Nat} (h1 : 2 ^ 52 ≤ T) (h2 : T < 2 ^ 53) (hK : K ≤ 1500) : Jvm.Free.Fl.Fin64 (own_B ((T : Int) * 2 ^ K)) := by
  rw [own_bits h1 (by omega) (by omega), Jvm.Free.Fl.fin64_iff, UInt64.toNat_ofNat']
  omega
theorem own_pos {T K : Nat} (h1 : 2 ^ 52 ≤ T) (h2 : T < 2 ^ 53) (hK : K ≤ 1500) : ¬ ((lcmpW (own_B ((T : Int) * 2 ^ K)).toInt64 (0 : Int64)) < (0 : Int32)) := by
  rw [lw_lt, Int64.lt_iff_toInt_lt, own_bits h1 (by omega) (by omega)]
  have e : (UInt64.ofNat (K * 2 ^ 52 + T)).toInt64.toInt = ((K * 2 ^ 52 + T : Nat) : Int) := by
    show (UInt64.ofNat (K * 2 ^ 52 + T)).toBitVec.toInt = _
    rw [BitVec.toInt_eq_toNat_of_lt]
    · show ((UInt64.ofNat (K * 2 ^ 52 + T)).toNat : Int) = _
      rw [UInt64.toNat_ofNat', Nat.mod_eq_of_lt (by omega)]
    · show 2 * (UInt64.ofNat (K * 2 ^ 52 + T)).toNat < 2 ^ 64
      rw [UInt64.toNat_ofNat', Nat.mod_eq_of_lt (by omega)]
      omega
  rw [e]
  show ¬ (_ < (0 : Int))
  omega
theorem own_up1 (t : Int) (k : Nat) : (2 * t) * 2 ^ k = t * 2 ^ (k + 1) := by
  rw [Int.pow_succ, Int.mul_comm 2 t, Int.mul_assoc, Int.mul_comm 2]
theorem own_prep {a c : Int} {k : Nat} (a0 : 0 ≤ a) (a1 : a < 2 ^ 53) (c0 : 0 ≤ c) (c1 : c + 1 < 2 ^ 53) (s1 : a + c < 2 ^ 53 + 2 ^ 52) (k1 : 100 ≤ k) (k2 : k ≤ 1100) :
    own_G (a * 2 ^ k) ∧ own_G (c * 2 ^ k) ∧ ∃ j : Int, own_B ((a + c) * 2 ^ k) = own_B (j * 2 ^ k) ∧ own_G (j * 2 ^ k) ∧ own_G ((j - a) * 2 ^ k) ∧ own_G ((a + c - j) * 2 ^ k) ∧ ((j = a + c ∧ (a + c < 2 ^ 53 ∨ (a + c) % 2 = 0)) ∨ (∃ t : Nat, 2 ^ 52 ≤ t ∧ t + 1 < 2 ^ 53 ∧ a + c = 2 * (t : Int) + 1 ∧ j = 2 * ((t + t % 2 : Nat) : Int))) := by
  refine ⟨own_good a k (by omega) (by omega) (by omega), own_good c k (by omega) (by omega) (by omega), ?_⟩
  by_cases q : a + c < 2 ^ 53
  · exact ⟨a + c, rfl, own_good _ k (by omega) (by omega) (by omega), own_good _ k (by omega) (by omega) (by omega), own_good _ k (by omega) (by omega) (by omega), Or.inl ⟨rfl, Or.inl q⟩⟩
  · by_cases q2 : (a + c) % 2 = 0
    · refine ⟨a + c, rfl, ?_, own_good _ k (by omega) (by omega) (by omega), own_good _ k (by omega) (by omega) (by omega), Or.inl ⟨rfl, Or.inr q2⟩⟩
      rw [show a + c = 2 * ((a + c) / 2) by omega, own_up1]
      exact own_good _ (k + 1) (by omega) (by omega) (by omega)
    · obtain ⟨t, ht⟩ : ∃ t : Nat, a + c = 2 * (t : Int) + 1 := ⟨((a + c) / 2).toNat, by omega⟩
      have t1 : 2 ^ 52 ≤ t := by omega
      have t2 : t + 1 < 2 ^ 53 := by omega
      refine ⟨2 * ((t + t % 2 : Nat) : Int), ?_, ?_, own_good _ k (by omega) (by omega) (by omega), own_good _ k (by omega) (by omega) (by omega), Or.inr ⟨t, t1, t2, ht, rfl⟩⟩
      · rw [own_up1, ht]
        unfold own_B
        exact congrArg of64 (own_tie t1 t2 (by omega))
      · rw [own_up1]
        exact own_good _ (k + 1) (by omega) (by omega) (by omega)
def own_dnI (j : Int) : Int := if j < 2 ^ 53 then j else if j % 2 = 0 then j else j - 1
def own_upI (j : Int) : Int := if j < 2 ^ 53 then j else if j % 2 = 0 then j else j + 1
theorem own_D {a c : Int} {k : Nat} (a0 : 0 ≤ a) (a1 : a < 2 ^ 53) (c0 : 0 ≤ c) (c1 : c + 1 < 2 ^ 53) (s1 : a + c < 2 ^ 53 + 2 ^ 52) (k1 : 100 ≤ k) (k2 : k ≤ 1100) :
    own_ok_sd (own_B (a * 2 ^ k)) (own_B (c * 2 ^ k)) ∧ own_sd (own_B (a * 2 ^ k)) (own_B (c * 2 ^ k)) = own_B (own_dnI (a + c) * 2 ^ k) := by
  obtain ⟨ga, gc, j, hj, gj, g1, g2, h⟩ := own_prep a0 a1 c0 c1 s1 k1 k2
  obtain ⟨m1, m2, m3, m4, m5, m6⟩ := own_mid ga gc hj gj g1 g2
  have cg := own_c1 g2 .g
  unfold own_ok_sd own_sd
  simp only [m1, m2, m3, m4, m5, m6, cg]
  rcases h with ⟨rfl, h⟩ | ⟨t, t1, t2, e1, e2⟩
  · have z : a + c - (a + c) = 0 := by omega
    simp only [z]
    refine ⟨⟨own_nn gj, own_nn g1, own_nn ga, own_nn own_G0, own_nn (by rw [z] at g2; exact g2), own_nn (by rw [z] at g2; exact g2), fun q => absurd q (by decide)⟩, ?_⟩
    rw [if_neg (by decide)]
    congr 2
    unfold own_dnI
    split
    · rfl
    · rw [if_pos (by omega)]
  · by_cases ev : t % 2 = 0
    · have z : a + c - j = 1 := by omega
      have zz := g2
      rw [z] at zz
      simp only [z]
      refine ⟨⟨own_nn gj, own_nn g1, own_nn ga, own_nn own_G0, own_nn zz, own_nn zz, fun q => absurd q (by decide)⟩, ?_⟩
      rw [if_neg (by decide)]
      congr 2
      unfold own_dnI
      rw [if_neg (by omega), if_neg (by omega)]
      omega
    · have z : a + c - j = -1 := by omega
      have zz := g2
      rw [z] at zz
      have jj : j = 2 * ((t + 1 : Nat) : Int) := by omega
      have jk : j * 2 ^ k = ((t + 1 : Nat) : Int) * 2 ^ (k + 1) := by rw [jj, own_up1]
      have gT := gj
      rw [jk] at gT
      have pr := own_pred (T := t + 1) (K := k + 1) (by omega) (by omega) (by omega)
      have gP : own_G (((t + 1 - 1 : Nat) : Int) * 2 ^ (k + 1)) := own_good _ (k + 1) (by omega) (by omega) (by omega)
      have cl := own_c1 gT .l
      rw [if_neg (by omega), if_neg (by omega)] at cl
      have fT := own_F (T := t + 1) (K := k + 1) (by omega) (by omega) (by omega)
      simp only [z, jk, pr, cl]
      refine ⟨⟨own_nn gT, own_nn g1, own_nn ga, own_nn own_G0, own_nn zz, own_nn zz, fun q => ⟨dcmpV_self (own_nn gT) _, ?_, by decide, by decide, own_hv (own_nn gP)⟩⟩, ?_⟩
      · rw [dcmp_ninf fT]
        decide
      · rw [if_pos (by decide), ← own_up1]
        congr 2
        unfold own_dnI
        rw [if_neg (by omega), if_neg (by omega)]
        omega
theorem own_U {a c : Int} {k : Nat} (a0 : 0 ≤ a) (a1 : a < 2 ^ 53) (c0 : 0 ≤ c) (c1 : c + 1 < 2 ^ 53) (s1 : a + c < 2 ^ 53 + 2 ^ 52) (k1 : 100 ≤ k) (k2 : k ≤ 1100) :
    own_ok_su (own_B (a * 2 ^ k)) (own_B (c * 2 ^ k)) ∧ own_su (own_B (a * 2 ^ k)) (own_B (c * 2 ^ k)) = own_B (own_upI (a + c) * 2 ^ k) := by
  obtain ⟨ga, gc, j, hj, gj, g1, g2, h⟩ := own_prep a0 a1 c0 c1 s1 k1 k2
  obtain ⟨m1, m2, m3, m4, m5, m6⟩ := own_mid ga gc hj gj g1 g2
  have cg := own_c1 g2 .l
  have m0 : FP.dadd (own_B (j * 2 ^ k)) FP.dconst0 = own_B (j * 2 ^ k) := by
    rw [← own_B0]
    refine (own_dadd gj own_G0).trans ?_
    rw [Int.add_zero]
  unfold own_ok_su own_su
  simp only [m1, m2, m3, m4, m5, m6, m0, cg]
  rcases h with ⟨rfl, h⟩ | ⟨t, t1, t2, e1, e2⟩
  · have z : a + c - (a + c) = 0 := by omega
    simp only [z]
    refine ⟨⟨own_nn gj, own_nn g1, own_nn ga, own_nn own_G0, own_nn (by rw [z] at g2; exact g2), own_nn (by rw [z] at g2; exact g2), fun q => absurd q (by decide)⟩, ?_⟩
    rw [if_neg (by decide)]
    congr 2
    unfold own_upI
    split
    · rfl
    · rw [if_pos (by omega)]
  · by_cases ev : t % 2 = 0
    · have z : a + c - j = 1 := by omega
      have zz := g2
      rw [z] at zz
      have jj : j = 2 * ((t : Nat) : Int) := by omega
      have jk : j * 2 ^ k = ((t : Nat) : Int) * 2 ^ (k + 1) := by rw [jj, own_up1]
      have gT := gj
      rw [jk] at gT
      have pr := own_succ (T := t) (K := k + 1) (by omega) (by omega) (by omega)
      have gP : own_G (((t + 1 : Nat) : Int) * 2 ^ (k + 1)) := own_good _ (k + 1) (by omega) (by omega) (by omega)
      have fT := own_F (T := t) (K := k + 1) (by omega) (by omega) (by omega)
      simp only [z, jk, pr]
      refine ⟨⟨own_nn gT, own_nn g1, own_nn ga, own_nn own_G0, own_nn zz, own_nn zz, fun q => ⟨?_, own_nn gT, own_pos t1 (by omega) (by omega), own_hv (own_nn gP)⟩⟩, ?_⟩
      · rw [dcmp_pinf fT]
        decide
      · rw [if_pos (by decide), ← own_up1]
        congr 2
        unfold own_upI
        rw [if_neg (by omega), if_neg (by omega)]
        omega
    · have z : a + c - j = -1 := by omega
      have zz := g2
      rw [z] at zz
      simp only [z]
      refine ⟨⟨own_nn gj, own_nn g1, own_nn ga, own_nn own_G0, own_nn zz, own_nn zz, fun q => absurd q (by decide)⟩, ?_⟩
      rw [if_neg (by decide)]
      congr 2
      unfold own_upI
      rw [if_neg (by omega), if_neg (by omega)]
      omega
theorem own_sc63 : ∀ e : Fin 63, FP.ddiv FP.dconst1 (FP.l2d ((1 : Int64) <<< ((Int32.ofNat e.val) &&& 0x3f).toInt64)) = own_B (1 * 2 ^ (1074 - e.val)) := by decide +kernel
theorem own_scale (x : Int32) : ∃ e : Nat, e ≤ 62 ∧ FP.ddiv FP.dconst1 (FP.l2d ((1 : Int64) <<< (((x &&& (2147483647 : Int32)) % (63 : Int32)) &&& 0x3f).toInt64)) = own_B (1 * 2 ^ (1074 - e)) := by
  have y0 := (c_and x (2147483647 : Int32) (by decide)).1
  have r := (c_irem (x &&& (2147483647 : Int32)) (63 : Int32) 63 (by decide)).1 y0
  have e : (x &&& (2147483647 : Int32)) % (63 : Int32) = Int32.ofNat ((x &&& (2147483647 : Int32)) % (63 : Int32)).toInt.toNat := by
    apply Int32.toInt_inj.mp
    rw [Int32.toInt_ofNat_small (by omega)]
    omega
  refine ⟨((x &&& (2147483647 : Int32)) % (63 : Int32)).toInt.toNat, by omega, ?_⟩
  rw [e]
  have := own_sc63 ⟨((x &&& (2147483647 : Int32)) % (63 : Int32)).toInt.toNat, by omega⟩
  rw [← e]
  rw [← e] at this
  exact this
theorem own_mulv (x : Int64) {e : Nat} (he : e ≤ 62) (hx : own_G (x.toInt * 2 ^ 1074)) : FP.dmul (FP.l2d x) (own_B (1 * 2 ^ (1074 - e))) = own_B (x.toInt * 2 ^ (1074 - e)) := by
  rw [own_l2d]
  refine own_dmul (by omega) hx ?_
  rw [Int.mul_assoc, ← Int.pow_add, show 1074 - e + e = 1074 by omega]
theorem own_dn {x : Int64} (h0 : 0 ≤ x.toInt) (h1 : x.toInt < 2 ^ 60) : (own_down x).toInt = own_dnI x.toInt := by
  have m := c_maskL x (1 : Int64) 1 (by decide) (by decide)
  have s := c_lsub x (1 : Int64)
  have r := rng64 (x - (1 : Int64))
  have l1 : (1 : Int64).toInt = 1 := by decide
  have l0 : (0 : Int64).toInt = 0 := by decide
  have lk : (9007199254740992 : Int64).toInt = 9007199254740992 := by decide
  unfold own_down own_dnI
  simp only [lw_lt, lw_eq, Int64.lt_iff_toInt_lt, ← Int64.toInt_inj, lk, l0, m]
  rw [l1] at s
  split <;> (try split) <;> (try split) <;> (try split) <;> omega
theorem own_upv {x : Int64} (h0 : 0 ≤ x.toInt) (h1 : x.toInt < 2 ^ 60) : (own_up x).toInt = own_upI x.toInt := by
  have m := c_maskL x (1 : Int64) 1 (by decide) (by decide)
  have s := c_ladd x (1 : Int64)
  have r := rng64 (x + (1 : Int64))
  have l1 : (1 : Int64).toInt = 1 := by decide
  have l0 : (0 : Int64).toInt = 0 := by decide
  have lk : (9007199254740992 : Int64).toInt = 9007199254740992 := by decide
  unfold own_up own_upI
  simp only [lw_lt, lw_eq, Int64.lt_iff_toInt_lt, ← Int64.toInt_inj, lk, l0, m]
  rw [l1] at s
  split <;> (try split) <;> (try split) <;> (try split) <;> omega
theorem own_Gd {j : Int} (h0 : 0 ≤ j) (h1 : j < 2 ^ 53 + 2 ^ 52) (k : Nat) (k1 : 100 ≤ k) (k2 : k ≤ 1100) : own_G (own_dnI j * 2 ^ k) ∧ own_G (own_upI j * 2 ^ k) := by
  unfold own_dnI own_upI
  split
  · exact ⟨own_good _ k (by omega) (by omega) (by omega), own_good _ k (by omega) (by omega) (by omega)⟩
  · split
    · rw [show j = 2 * (j / 2) by omega, own_up1]
      exact ⟨own_good _ (k + 1) (by omega) (by omega) (by omega), own_good _ (k + 1) (by omega) (by omega) (by omega)⟩
    · rw [show j - 1 = 2 * ((j - 1) / 2) by omega, show j + 1 = 2 * ((j + 1) / 2) by omega, own_up1, own_up1]
      exact ⟨own_good _ (k + 1) (by omega) (by omega) (by omega), own_good _ (k + 1) (by omega) (by omega) (by omega)⟩
set_option maxHeartbeats 4000000 in
theorem own_facts (vj0 : Int64) (vj1 : Int64) (vj2 : Int64) (vj3 : Int64) (vi4 : Int32) : (Jvm.Free.Fl.NoNaN64 (FP.ddiv FP.dconst1 (FP.l2d ((1 : Int64) <<< (((vi4 &&& (2147483647 : Int32)) % (63 : Int32)) &&& 0x3f).toInt64)))) ∧ (Jvm.Free.Fl.NoNaN64 (FP.dmul (FP.l2d ((4503599627370496 : Int64) + (vj0 &&& (2251799813685247 : Int64)))) (FP.ddiv FP.dconst1 (FP.l2d ((1 : Int64) <<< (((vi4 &&& (2147483647 : Int32)) % (63 : Int32)) &&& 0x3f).toInt64))))) ∧ (Jvm.Free.Fl.NoNaN64 (FP.dmul (FP.l2d (((4503599627370496 : Int64) + (vj0 &&& (2251799813685247 : Int64))) + (vj1 &&& (1125899906842623 : Int64)))) (FP.ddiv FP.dconst1 (FP.l2d ((1 : Int64) <<< (((vi4 &&& (2147483647 : Int32)) % (63 : Int32)) &&& 0x3f).toInt64))))) ∧ (Jvm.Free.Fl.NoNaN64 (FP.dmul (FP.l2d (vj2 &&& (4503599627370495 : Int64))) (FP.ddiv FP.dconst1 (FP.l2d ((1 : Int64) <<< (((vi4 &&& (2147483647 : Int32)) % (63 : Int32)) &&& 0x3f).toInt64))))) ∧ (Jvm.Free.Fl.NoNaN64 (FP.dmul (FP.l2d ((vj2 &&& (4503599627370495 : Int64)) + (vj3 &&& (1125899906842623 : Int64)))) (FP.ddiv FP.dconst1 (FP.l2d ((1 : Int64) <<< (((vi4 &&& (2147483647 : Int32)) % (63 : Int32)) &&& 0x3f).toInt64))))) ∧ (own_ok_sd (FP.dmul (FP.l2d ((4503599627370496 : Int64) + (vj0 &&& (2251799813685247 : Int64)))) (FP.ddiv FP.dconst1 (FP.l2d ((1 : Int64) <<< (((vi4 &&& (2147483647 : Int32)) % (63 : Int32)) &&& 0x3f).toInt64)))) (FP.dmul (FP.l2d (vj2 &&& (4503599627370495 : Int64))) (FP.ddiv FP.dconst1 (FP.l2d ((1 : Int64) <<< (((vi4 &&& (2147483647 : Int32)) % (63 : Int32)) &&& 0x3f).toInt64))))) ∧ (own_ok_su (FP.dmul (FP.l2d (((4503599627370496 : Int64) + (vj0 &&& (2251799813685247 : Int64))) + (vj1 &&& (1125899906842623 : Int64)))) (FP.ddiv FP.dconst1 (FP.l2d ((1 : Int64) <<< (((vi4 &&& (2147483647 : Int32)) % (63 : Int32)) &&& 0x3f).toInt64)))) (FP.dmul (FP.l2d ((vj2 &&& (4503599627370495 : Int64)) + (vj3 &&& (1125899906842623 : Int64)))) (FP.ddiv FP.dconst1 (FP.l2d ((1 : Int64) <<< (((vi4 &&& (2147483647 : Int32)) % (63 : Int32)) &&& 0x3f).toInt64))))) ∧ (Jvm.Free.Fl.NoNaN64 (FP.dmul (FP.l2d (own_down (((4503599627370496 : Int64) + (vj0 &&& (2251799813685247 : Int64))) + (vj2 &&& (4503599627370495 : Int64))))) (FP.ddiv FP.dconst1 (FP.l2d ((1 : Int64) <<< (((vi4 &&& (2147483647 : Int32)) % (63 : Int32)) &&& 0x3f).toInt64))))) ∧ (Jvm.Free.Fl.NoNaN64 (FP.dmul (FP.l2d (own_up ((((4503599627370496 : Int64) + (vj0 &&& (2251799813685247 : Int64))) + (vj1 &&& (1125899906842623 : Int64))) + ((vj2 &&& (4503599627370495 : Int64)) + (vj3 &&& (1125899906842623 : Int64)))))) (FP.ddiv FP.dconst1 (FP.l2d ((1 : Int64) <<< (((vi4 &&& (2147483647 : Int32)) % (63 : Int32)) &&& 0x3f).toInt64))))) ∧ ((cmpValue (FP.dcmp (own_sd (FP.dmul (FP.l2d ((4503599627370496 : Int64) + (vj0 &&& (2251799813685247 : Int64)))) (FP.ddiv FP.dconst1 (FP.l2d ((1 : Int64) <<< (((vi4 &&& (2147483647 : Int32)) % (63 : Int32)) &&& 0x3f).toInt64)))) (FP.dmul (FP.l2d (vj2 &&& (4503599627370495 : Int64))) (FP.ddiv FP.dconst1 (FP.l2d ((1 : Int64) <<< (((vi4 &&& (2147483647 : Int32)) % (63 : Int32)) &&& 0x3f).toInt64))))) (FP.dmul (FP.l2d (own_down (((4503599627370496 : Int64) + (vj0 &&& (2251799813685247 : Int64))) + (vj2 &&& (4503599627370495 : Int64))))) (FP.ddiv FP.dconst1 (FP.l2d ((1 : Int64) <<< (((vi4 &&& (2147483647 : Int32)) % (63 : Int32)) &&& 0x3f).toInt64))))) .l) = (0 : Int32)) ∧ ((cmpValue (FP.dcmp (own_su (FP.dmul (FP.l2d (((4503599627370496 : Int64) + (vj0 &&& (2251799813685247 : Int64))) + (vj1 &&& (1125899906842623 : Int64)))) (FP.ddiv FP.dconst1 (FP.l2d ((1 : Int64) <<< (((vi4 &&& (2147483647 : Int32)) % (63 : Int32)) &&& 0x3f).toInt64)))) (FP.dmul (FP.l2d ((vj2 &&& (4503599627370495 : Int64)) + (vj3 &&& (1125899906842623 : Int64)))) (FP.ddiv FP.dconst1 (FP.l2d ((1 : Int64) <<< (((vi4 &&& (2147483647 : Int32)) % (63 : Int32)) &&& 0x3f).toInt64))))) (FP.dmul (FP.l2d (own_up ((((4503599627370496 : Int64) + (vj0 &&& (2251799813685247 : Int64))) + (vj1 &&& (1125899906842623 : Int64))) + ((vj2 &&& (4503599627370495 : Int64)) + (vj3 &&& (1125899906842623 : Int64)))))) (FP.ddiv FP.dconst1 (FP.l2d ((1 : Int64) <<< (((vi4 &&& (2147483647 : Int32)) % (63 : Int32)) &&& 0x3f).toInt64))))) .l) = (0 : Int32)) := by
  obtain ⟨e, he, hs⟩ := own_scale vi4
  rw [hs]
  have A := c_maskL vj0 (2251799813685247 : Int64) 51 (by decide) (by decide)
  have Bm := c_maskL vj1 (1125899906842623 : Int64) 50 (by decide) (by decide)
  have C := c_maskL vj2 (4503599627370495 : Int64) 52 (by decide) (by decide)
  have D := c_maskL vj3 (1125899906842623 : Int64) 50 (by decide) (by decide)
  have l52 : (4503599627370496 : Int64).toInt = 4503599627370496 := by decide
  generalize (vj0 &&& (2251799813685247 : Int64)) = m0 at A ⊢
  generalize (vj1 &&& (1125899906842623 : Int64)) = m1 at Bm ⊢
  generalize (vj2 &&& (4503599627370495 : Int64)) = c at C ⊢
  generalize (vj3 &&& (1125899906842623 : Int64)) = m3 at D ⊢
  have s1 := c_ladd (4503599627370496 : Int64) m0
  have r1 := rng64 ((4503599627370496 : Int64) + m0)
  rw [l52] at s1
  generalize ((4503599627370496 : Int64) + m0) = a at s1 r1 ⊢
  have s2 := c_ladd a m1
  have r2 := rng64 (a + m1)
  generalize (a + m1) = b at s2 r2 ⊢
  have s3 := c_ladd c m3
  have r3 := rng64 (c + m3)
  generalize (c + m3) = d at s3 r3 ⊢
  have s4 := c_ladd a c
  have r4 := rng64 (a + c)
  generalize (a + c) = lo at s4 r4 ⊢
  have s5 := c_ladd b d
  have r5 := rng64 (b + d)
  generalize (b + d) = hi at s5 r5 ⊢
  have ia : 0 ≤ a.toInt ∧ a.toInt < 2 ^ 53 := by omega
  have ib : 0 ≤ b.toInt ∧ b.toInt < 2 ^ 53 := by omega
  have ic : 0 ≤ c.toInt ∧ c.toInt + 1 < 2 ^ 53 := by omega
  have id : 0 ≤ d.toInt ∧ d.toInt + 1 < 2 ^ 53 := by omega
  have il : lo.toInt = a.toInt + c.toInt ∧ lo.toInt < 2 ^ 53 + 2 ^ 52 := by omega
  have ih : hi.toInt = b.toInt + d.toInt ∧ hi.toInt < 2 ^ 53 + 2 ^ 52 := by omega
  clear s1 s2 s3 s4 s5 r1 r2 r3 r4 r5 A Bm C D
  have ga := fun (k : Nat) (p1 : 100 ≤ k) (p2 : k ≤ 1100) => own_good a.toInt k (by omega) (by omega) (by omega)
  have gb := fun (k : Nat) (p1 : 100 ≤ k) (p2 : k ≤ 1100) => own_good b.toInt k (by omega) (by omega) (by omega)
  have gc := fun (k : Nat) (p1 : 100 ≤ k) (p2 : k ≤ 1100) => own_good c.toInt k (by omega) (by omega) (by omega)
  have gd := fun (k : Nat) (p1 : 100 ≤ k) (p2 : k ≤ 1100) => own_good d.toInt k (by omega) (by omega) (by omega)
  have gl := fun (k : Nat) (p1 : 100 ≤ k) (p2 : k ≤ 1100) => (own_Gd (j := lo.toInt) (by omega) (by omega) k p1 p2).1
  have gh := fun (k : Nat) (p1 : 100 ≤ k) (p2 : k ≤ 1100) => (own_Gd (j := hi.toInt) (by omega) (by omega) k p1 p2).2
  have dl := own_dn (x := lo) (by omega) (by omega)
  have dh := own_upv (x := hi) (by omega) (by omega)
  have va := own_mulv a he (ga 1074 (by decide) (by decide))
  have vb := own_mulv b he (gb 1074 (by decide) (by decide))
  have vc := own_mulv c he (gc 1074 (by decide) (by decide))
  have vd := own_mulv d he (gd 1074 (by decide) (by decide))
  have vl := own_mulv (own_down lo) he (by rw [dl]; exact gl 1074 (by decide) (by decide))
  have vh := own_mulv (own_up hi) he (by rw [dh]; exact gh 1074 (by decide) (by decide))
  rw [dl] at vl
  rw [dh] at vh
  have k1 : 100 ≤ 1074 - e := by omega
  have k2 : 1074 - e ≤ 1100 := by omega
  obtain ⟨o1, w1⟩ := own_D ia.1 ia.2 ic.1 ic.2 (by omega) k1 k2
  obtain ⟨o2, w2⟩ := own_U ib.1 ib.2 id.1 id.2 (by omega) k1 k2
  rw [← il.1] at w1
  rw [← ih.1] at w2
  rw [va, vb, vc, vd, vl, vh, w1, w2]
  exact ⟨own_nn (own_good 1 _ (by decide) (by omega) (by omega)), own_nn (ga _ k1 k2), own_nn (gb _ k1 k2), own_nn (gc _ k1 k2), own_nn (gd _ k1 k2), o1, o2, own_nn (gl _ k1 k2), own_nn (gh _ k1 k2), dcmpV_self (own_nn (gl _ k1 k2)) _, dcmpV_self (own_nn (gh _ k1 k2)) _⟩
end Fin

set_option maxRecDepth 65536 in
theorem rmL (l : Launch) (Z : State) (a0 : Array Value) (hw : ∀ d ∈ tables_1, d.before a0 Z = true) (ws : List Jvm.Cond) (vj0 : Int64) (vj1 : Int64) (vj2 : Int64) (vj3 : Int64) (vi4 : Int32) (h0 : Heap) (n0 : Nat) (Z0 : n0 ≤ h0.size)  :
    MetFree l x (head1 (Jvm.Cond.code x code maxLocals ret :: ws) room_1) (fun a U => a = #[(.long vj0), (.long vj1), (.long vj2), (.long vj3), (.int vi4)] ∧ Z.Warmed39 U.vm ∧ U.heap = h0) (fun _ _ _ _ _ => True) (fun _ U o U' => ∃ v L, o = .returned v ∧ (v = some (.int (1 : Int32)) ∧ Fr n0 L) ∧ FrameEnd U o U' L room_1.cells room_1.slots) := by
  obtain ⟨hn56, hn68, hn74, hn89, hn95, hok, c105_c23_hok, hn132, hn143, hc154, hc165⟩ := own_facts vj0 vj1 vj2 vj3 vi4
  exact rm0 l Z a0 hw ws vj0 vj1 vj2 vj3 vi4 h0 n0 Z0 hn56 hn68 hn74 hn89 hn95 hok c105_c23_hok hn132 hn143 hc154 hc165
set_option maxRecDepth 65536 in
set_option maxHeartbeats 40000000 in
theorem comes_1 {Post : Tables → Env → Array Value → State → Outcome → State → Prop} (hpost : ∀ tb e args s v u, (limb_1_1.after args s (.returned v) u = true ∧ limb_1_2.after args s (.returned v) u = true ∧ True) → FrameEnd s (.returned v) u (Jvm.fieldLocs frame_1_writes args s ++ Jvm.arrayLocs frame_1_arrays args s ++ Jvm.staticLocs frame_1_statics s) 16 128 → Post tb e args s (.returned v) u) :
    ArmFor flags0 classFile x code maxLocals ret World_1 tables_1 room_1 Calls_1 rest_1 Pre_1 Post := by
  intro l hfl _ _ p e ha hc hk s m args below hf hA hF happ hP
  obtain ⟨hcalls, hrest, hpre⟩ := hP
  obtain ⟨-, -, -, hnamed, -, -, -, hat⟩ := (Spec.applies_iff hf).mp happ
  obtain ⟨hg, hn⟩ := and_e (Cond.before_iff.mp (show (Jvm.Cond.and given_1 narrow_1).before args s = true from hpre))
  obtain ⟨gc, hg⟩ := and_e hg
  obtain ⟨ga0, hg⟩ := and_e hg
  obtain ⟨ga1, hg⟩ := and_e hg
  obtain ⟨ga2, hg⟩ := and_e hg
  obtain ⟨ga3, hg⟩ := and_e hg
  have ga4 := hg
  obtain ⟨w0, w1, w2, w3, w4, rfl⟩ : ∃ w0 w1 w2 w3 w4 : Value, args = #[w0, w1, w2, w3, w4] := by
    have hs : args.size = 5 := by simpa [Cond.value, given_1] using gc
    obtain ⟨L⟩ := args
    match L, hs with
    | [w0, w1, w2, w3, w4], _ => exact ⟨w0, w1, w2, w3, w4, rfl⟩
  have hw := fun d (hd : d ∈ tables_1) => atoms_spec (ws := Jvm.Cond.code x code maxLocals ret :: tables_1) hat d (List.mem_cons_of_mem _ hd)
  obtain ⟨i0, ei0⟩ := isL_v ga0
  obtain rfl : w0 = (.long i0) := Option.some.inj ei0
  obtain ⟨i1, ei1⟩ := isL_v ga1
  obtain rfl : w1 = (.long i1) := Option.some.inj ei1
  obtain ⟨i2, ei2⟩ := isL_v ga2
  obtain rfl : w2 = (.long i2) := Option.some.inj ei2
  obtain ⟨i3, ei3⟩ := isL_v ga3
  obtain rfl : w3 = (.long i3) := Option.some.inj ei3
  obtain ⟨i4, ei4⟩ := is_v ga4
  obtain rfl : w4 = (.int i4) := Option.some.inj ei4
  obtain ⟨n, o, h1, h2, h3, _, L, rfl, ⟨rfl, N⟩, hq⟩ := rmL l s _ hw tables_1 i0 i1 i2 i3 i4 s.heap s.heap.size (Nat.le_refl _) p e ha hc hk s m _ below hf ((Spec.applies_iff_loose hf).mp happ).1 ⟨rfl, State.Warmed39.refl s, rfl⟩ trivial
  refine ⟨n, _, h1, h2, h3, hpost _ _ _ _ _ _ ⟨Cond.after_iff.mpr rfl, Cond.after_iff.mpr (eq_i res_at (Term.int_eval (1)) rfl), trivial⟩ ⟨hq.1, hq.2.1, (hq.2.2.sift fun y hy => Or.inr (N y hy)).mono (by decide) (by decide)⟩⟩
theorem main_1_1 : Claimed_1_1 := comes_1 fun _ _ _ _ _ _ h hF => ⟨h.1, hF⟩
theorem main_1_2 : Claimed_1_2 := comes_1 fun _ _ _ _ _ _ h hF => ⟨h.2.1, hF⟩
end Jvm.Pilot.@@N@@
namespace Jvm.Pilot.@@N@@
open Jvm Jvm.ClassFile Sem Op Lib Jvm.Free Jvm.Stand Jvm.Pilot.@@N@@.Jvm.D
/-! MADE BY PROGRAM (witnessworld.py) out of the Statement's table words and the real class files: 17 classes; the members and pool entries that the words name. The judged class is class 1, her method 3. -/
namespace start1
open Jvm.ClassFile
def u (s : String) : CpInfo := .utf8 (stringToUtf16 s)
/-- a pool by its gaps: so many unusable entries, then the entry; so many at the end -/
def gap : Nat → List CpInfo → List CpInfo
  | 0, r => r
  | n + 1, r => .unusable :: gap n r
def poolList (es : List (Nat × CpInfo)) (last : Nat) : List CpInfo := es.foldr (fun e r => gap e.1 (e.2 :: r)) (gap last [])
def pool (es : List (Nat × CpInfo)) (last : Nat) : Array CpInfo := ⟨poolList es last⟩
def fileOf (pool : Array CpInfo) (this : Nat) (attrs : Array Attribute := #[]) (ms : Array MethodInfo := #[]) (fl : Nat := 33) (sup : Nat := 0) (ifs : Array Nat := #[]) (fds : Array FieldInfo := #[]) : ClassFile where
  minorVersion := 0
  majorVersion := 65
  constantPool := pool
  accessFlags := fl
  thisClass := this
  superClass := sup
  interfaces := ifs
  fields := fds
  methods := ms
  attributes := attrs
def plain (name : String) (sup : Option ClassId) : Class where
  name := name
  kind := .ordinary
  loader := none
  accessFlags := 33
  super := sup
  interfaces := #[]
  cf := none
  fields := #[]
  methods := #[]
  instanceTypes := #[]
  staticTypes := #[]
  resolved := #[]
  callSites := []
  init := .initialized
  statics := none
  mirror := none

def pool0 : Array CpInfo := pool [(5, u "<init>"), (0, u "()V"), (1, .class_ 10), (1, u "java/lang/Object")] 113

def k0c0 : Code := { maxStack := 0, maxLocals := 1, code := object_method_1_code, exceptionTable := #[], attributes := #[] }
def k0m0 : Method := { name := "<init>", desc := "()V", sig := { parameters := [], returnType := none }, accessFlags := 1, code := some k0c0 }
/-- java/lang/Object -/
def k0 : Class := { plain "java/lang/Object" none with
  accessFlags := 33
  interfaces := #[]
  cf := some (fileOf pool0 8 #[] #[{ accessFlags := 1, nameIndex := 5, descriptorIndex := 6, attributes := #[] }] 33 0 #[] #[])
  fields := #[]
  methods := #[k0m0]
  instanceTypes := #[]
  staticTypes := #[]
  resolved := Array.replicate 124 none
  statics := none }

def pool1 : Array CpInfo := pool [(2, .class_ 4), (1, u "java/lang/Object"), (0, u "<init>"), (0, u "()V"), (0, .class_ 8), (0, u "com/example/castellan/castellan/BoundsPlusPinLaw"), (0, .long 9007199254740992), (1, .long 4503599627370496), (1, .long 2251799813685247), (1, .long 1125899906842623), (1, .long 4503599627370495), (1, .integer 2147483647), (0, .class_ 21), (0, u "com/example/castellan/castellan/ProgressTracker$Bounds"), (0, .methodref 20 23), (0, .nameAndType 5 24), (0, u "(DD)V"), (0, .methodref 20 26), (0, .nameAndType 27 28), (0, u "plus"), (0, u "(Lcom/example/castellan/castellan/ProgressTracker$Bounds;)Lcom/example/castellan/castellan/ProgressTracker$Bounds;"), (0, .methodref 7 30), (0, .nameAndType 31 32), (0, u "down"), (0, u "(J)J"), (0, .methodref 7 34), (0, .nameAndType 35 32), (0, u "up"), (0, .methodref 20 37), (0, .nameAndType 38 39), (0, u "low"), (0, u "()D"), (0, .methodref 20 41), (0, .nameAndType 42 39), (0, u "high"), (0, u "TWO53"), (0, u "J"), (4, u "law"), (0, u "(JJJJI)Z")] 6

def k1m0 : Method := { name := "<init>", desc := "()V", sig := { parameters := [], returnType := none }, accessFlags := 1, code := none }
def k1c1 : Code := { maxStack := 4, maxLocals := 2, code := method_2_code, exceptionTable := #[], attributes := #[] }
def k1m1 : Method := { name := "down", desc := "(J)J", sig := { parameters := [.long], returnType := some .long }, accessFlags := 10, code := some k1c1 }
def k1c2 : Code := { maxStack := 4, maxLocals := 2, code := method_3_code, exceptionTable := #[], attributes := #[] }
def k1m2 : Method := { name := "up", desc := "(J)J", sig := { parameters := [.long], returnType := some .long }, accessFlags := 10, code := some k1c2 }
def k1c3 : Code := { maxStack := 8, maxLocals := 31, code := code, exceptionTable := #[], attributes := #[] }
def k1m3 : Method := { name := "law", desc := "(JJJJI)Z", sig := { parameters := [.long, .long, .long, .long, .int], returnType := some .boolean }, accessFlags := 9, code := some k1c3 }
/-- com/example/castellan/castellan/BoundsPlusPinLaw -/
def k1 : Class := { plain "com/example/castellan/castellan/BoundsPlusPinLaw" (some 0) with
  accessFlags := 49
  interfaces := #[]
  cf := some (fileOf pool1 7 #[] #[{ accessFlags := 1, nameIndex := 5, descriptorIndex := 6, attributes := #[] }, { accessFlags := 10, nameIndex := 31, descriptorIndex := 32, attributes := #[] }, { accessFlags := 10, nameIndex := 35, descriptorIndex := 32, attributes := #[] }, { accessFlags := 9, nameIndex := 49, descriptorIndex := 50, attributes := #[] }] 49 2 #[] #[{ accessFlags := 26, nameIndex := 43, descriptorIndex := 44, attributes := #[] }])
  fields := #[{ name := "TWO53", type := .long, accessFlags := 26, slot := 0, constantValue := 0 }]
  methods := #[k1m0, k1m1, k1m2, k1m3]
  instanceTypes := #[]
  staticTypes := #[.long]
  resolved := Array.replicate 57 none
  statics := none }

def pool2 : Array CpInfo := pool [(1, .methodref 2 3), (0, .class_ 4), (0, .nameAndType 5 6), (0, u "java/lang/Object"), (0, u "<init>"), (0, u "()V"), (0, .class_ 8), (0, u "java/lang/Record")] 13

def k2c0 : Code := { maxStack := 1, maxLocals := 1, code := jdk_30_method_1_code, exceptionTable := #[], attributes := #[] }
def k2m0 : Method := { name := "<init>", desc := "()V", sig := { parameters := [], returnType := none }, accessFlags := 4, code := some k2c0 }
/-- java/lang/Record -/
def k2 : Class := { plain "java/lang/Record" (some 0) with
  accessFlags := 1057
  interfaces := #[]
  cf := some (fileOf pool2 7 #[] #[{ accessFlags := 4, nameIndex := 5, descriptorIndex := 6, attributes := #[] }] 1057 2 #[] #[])
  fields := #[]
  methods := #[k2m0]
  instanceTypes := #[]
  staticTypes := #[]
  resolved := Array.replicate 22 none
  statics := none }

def pool3 : Array CpInfo := pool [(1, .class_ 2), (0, u "com/example/castellan/castellan/ProgressTracker$Amount"), (0, .class_ 4), (0, u "java/lang/Object"), (12, .class_ 18), (0, u "com/example/castellan/castellan/ProgressTracker")] 2

/-- com/example/castellan/castellan/ProgressTracker$Amount -/
def k3 : Class := { plain "com/example/castellan/castellan/ProgressTracker$Amount" (some 0) with
  accessFlags := 1536
  interfaces := #[]
  cf := some (fileOf pool3 1 #[.nestHost 17] #[] 1536 3 #[] #[])
  fields := #[]
  methods := #[]
  instanceTypes := #[]
  staticTypes := #[]
  resolved := Array.replicate 21 none
  statics := none }

def pool4 : Array CpInfo := pool [(1, .methodref 2 3), (0, .class_ 4), (0, .nameAndType 5 6), (0, u "java/lang/Record"), (0, u "<init>"), (0, u "()V"), (0, .fieldref 8 9), (0, .class_ 10), (0, .nameAndType 11 12), (0, u "com/example/castellan/castellan/ProgressTracker$Bounds"), (0, u "low"), (0, u "D"), (0, .fieldref 8 14), (0, .nameAndType 15 12), (0, u "high"), (0, .methodref 8 17), (0, .nameAndType 18 19), (0, u "sumDown"), (0, u "(DD)D"), (0, .methodref 8 21), (0, .nameAndType 22 19), (0, u "sumUp"), (0, .methodref 8 24), (0, .nameAndType 5 25), (0, u "(DD)V"), (1, .class_ 29), (1, u "java/lang/Math"), (17, .methodref 8 48), (0, .nameAndType 49 50), (0, u "sumError"), (0, u "(DDD)D"), (0, .methodref 27 52), (0, .nameAndType 53 54), (0, u "nextDown"), (0, u "(D)D"), (0, .methodref 27 56), (0, .nameAndType 57 54), (0, u "nextUp"), (13, u "plus"), (14, u "ZERO"), (0, u "Lcom/example/castellan/castellan/ProgressTracker$Bounds;"), (2, u "ONE"), (0, .class_ 92), (0, u "com/example/castellan/castellan/ProgressTracker$Amount"), (3, u "(Lcom/example/castellan/castellan/ProgressTracker$Bounds;)Lcom/example/castellan/castellan/ProgressTracker$Bounds;"), (6, u "()D"), (8, .class_ 113), (0, u "com/example/castellan/castellan/ProgressTracker")] 21

def k4c0 : Code := { maxStack := 3, maxLocals := 5, code := prog_8_method_1_code, exceptionTable := #[], attributes := #[] }
def k4m0 : Method := { name := "<init>", desc := "(DD)V", sig := { parameters := [.double, .double], returnType := none }, accessFlags := 0, code := some k4c0 }
def k4c1 : Code := { maxStack := 8, maxLocals := 2, code := prog_8_method_2_code, exceptionTable := #[], attributes := #[] }
def k4m1 : Method := { name := "plus", desc := "(Lcom/example/castellan/castellan/ProgressTracker$Bounds;)Lcom/example/castellan/castellan/ProgressTracker$Bounds;", sig := { parameters := [(.object "com/example/castellan/castellan/ProgressTracker$Bounds")], returnType := some (.object "com/example/castellan/castellan/ProgressTracker$Bounds") }, accessFlags := 0, code := some k4c1 }
def k4c2 : Code := { maxStack := 6, maxLocals := 6, code := prog_8_method_8_code, exceptionTable := #[], attributes := #[] }
def k4m2 : Method := { name := "sumDown", desc := "(DD)D", sig := { parameters := [.double, .double], returnType := some .double }, accessFlags := 10, code := some k4c2 }
def k4c3 : Code := { maxStack := 6, maxLocals := 6, code := prog_8_method_9_code, exceptionTable := #[], attributes := #[] }
def k4m3 : Method := { name := "sumUp", desc := "(DD)D", sig := { parameters := [.double, .double], returnType := some .double }, accessFlags := 10, code := some k4c3 }
def k4c4 : Code := { maxStack := 6, maxLocals := 10, code := prog_8_method_10_code, exceptionTable := #[], attributes := #[] }
def k4m4 : Method := { name := "sumError", desc := "(DDD)D", sig := { parameters := [.double, .double, .double], returnType := some .double }, accessFlags := 10, code := some k4c4 }
def k4c5 : Code := { maxStack := 2, maxLocals := 1, code := prog_8_method_18_code, exceptionTable := #[], attributes := #[] }
def k4m5 : Method := { name := "low", desc := "()D", sig := { parameters := [], returnType := some .double }, accessFlags := 1, code := some k4c5 }
def k4c6 : Code := { maxStack := 2, maxLocals := 1, code := prog_8_method_19_code, exceptionTable := #[], attributes := #[] }
def k4m6 : Method := { name := "high", desc := "()D", sig := { parameters := [], returnType := some .double }, accessFlags := 1, code := some k4c6 }
/-- com/example/castellan/castellan/ProgressTracker$Bounds -/
def k4 : Class := { plain "com/example/castellan/castellan/ProgressTracker$Bounds" (some 2) with
  accessFlags := 48
  interfaces := #[3]
  cf := some (fileOf pool4 8 #[.nestHost 112] #[{ accessFlags := 0, nameIndex := 5, descriptorIndex := 25, attributes := #[] }, { accessFlags := 0, nameIndex := 71, descriptorIndex := 96, attributes := #[] }, { accessFlags := 10, nameIndex := 18, descriptorIndex := 19, attributes := #[] }, { accessFlags := 10, nameIndex := 22, descriptorIndex := 19, attributes := #[] }, { accessFlags := 10, nameIndex := 49, descriptorIndex := 50, attributes := #[] }, { accessFlags := 1, nameIndex := 11, descriptorIndex := 103, attributes := #[] }, { accessFlags := 1, nameIndex := 15, descriptorIndex := 103, attributes := #[] }] 48 2 #[91] #[{ accessFlags := 18, nameIndex := 11, descriptorIndex := 12, attributes := #[] }, { accessFlags := 18, nameIndex := 15, descriptorIndex := 12, attributes := #[] }, { accessFlags := 24, nameIndex := 86, descriptorIndex := 87, attributes := #[] }, { accessFlags := 24, nameIndex := 90, descriptorIndex := 87, attributes := #[] }])
  fields := #[{ name := "low", type := .double, accessFlags := 18, slot := 0, constantValue := 0 }, { name := "high", type := .double, accessFlags := 18, slot := 1, constantValue := 0 }, { name := "ZERO", type := (.object "com/example/castellan/castellan/ProgressTracker$Bounds"), accessFlags := 24, slot := 0, constantValue := 0 }, { name := "ONE", type := (.object "com/example/castellan/castellan/ProgressTracker$Bounds"), accessFlags := 24, slot := 1, constantValue := 0 }]
  methods := #[k4m0, k4m1, k4m2, k4m3, k4m4, k4m5, k4m6]
  instanceTypes := #[.double, .double]
  staticTypes := #[(.object "com/example/castellan/castellan/ProgressTracker$Bounds"), (.object "com/example/castellan/castellan/ProgressTracker$Bounds")]
  resolved := Array.replicate 135 none
  statics := none }

def pool5 : Array CpInfo := pool [(1, .class_ 2), (0, u "java/lang/Math"), (1, .class_ 6), (1, u "java/lang/Object"), (0, u "<init>"), (0, u "()V"), (5, u "(D)D"), (64, .methodref 80 81), (0, .class_ 82), (0, .nameAndType 83 84), (0, u "java/lang/Double"), (0, u "doubleToRawLongBits"), (0, u "(D)J"), (13, .class_ 100), (1, u "java/lang/Math$RandomNumberGeneratorHolder"), (29, .long 18446744073709551615), (35, .methodref 80 167), (0, .nameAndType 168 169), (0, u "longBitsToDouble"), (0, u "(J)D"), (2, u "negativeZeroFloatBits"), (0, u "J"), (2, u "negativeZeroDoubleBits"), (28, .methodref 80 206), (0, .nameAndType 207 208), (0, u "isNaN"), (0, u "(D)Z"), (36, u "$assertionsDisabled"), (0, u "Z"), (80, .double 9218868437227405312), (2, .double 18442240474082181120), (7, u "twoToTheDoubleScaleDown"), (0, u "D"), (4, u "twoToTheDoubleScaleUp"), (9, u "E"), (3, u "PI"), (2, u "TAU"), (2, u "DEGREES_TO_RADIANS"), (0, u "RADIANS_TO_DEGREES"), (77, u "nextUp"), (0, u "nextDown")] 15

def k5m0 : Method := { name := "<init>", desc := "()V", sig := { parameters := [], returnType := none }, accessFlags := 2, code := none }
def k5c1 : Code := { maxStack := 6, maxLocals := 4, code := jdk_29_method_95_code, exceptionTable := #[], attributes := #[] }
def k5m1 : Method := { name := "nextUp", desc := "(D)D", sig := { parameters := [.double], returnType := some .double }, accessFlags := 9, code := some k5c1 }
def k5c2 : Code := { maxStack := 6, maxLocals := 2, code := jdk_29_method_97_code, exceptionTable := #[], attributes := #[] }
def k5m2 : Method := { name := "nextDown", desc := "(D)D", sig := { parameters := [.double], returnType := some .double }, accessFlags := 9, code := some k5c2 }
/-- java/lang/Math -/
def k5 : Class := { plain "java/lang/Math" (some 0) with
  accessFlags := 49
  interfaces := #[]
  cf := some (fileOf pool5 1 #[.nestMembers #[98]] #[{ accessFlags := 2, nameIndex := 7, descriptorIndex := 8, attributes := #[] }, { accessFlags := 9, nameIndex := 443, descriptorIndex := 14, attributes := #[] }, { accessFlags := 9, nameIndex := 444, descriptorIndex := 14, attributes := #[] }] 49 4 #[] #[{ accessFlags := 25, nameIndex := 354, descriptorIndex := 339, attributes := #[] }, { accessFlags := 25, nameIndex := 358, descriptorIndex := 339, attributes := #[] }, { accessFlags := 25, nameIndex := 361, descriptorIndex := 339, attributes := #[] }, { accessFlags := 26, nameIndex := 364, descriptorIndex := 339, attributes := #[] }, { accessFlags := 26, nameIndex := 365, descriptorIndex := 339, attributes := #[] }, { accessFlags := 26, nameIndex := 172, descriptorIndex := 173, attributes := #[] }, { accessFlags := 26, nameIndex := 176, descriptorIndex := 173, attributes := #[] }, { accessFlags := 8, nameIndex := 344, descriptorIndex := 339, attributes := #[] }, { accessFlags := 8, nameIndex := 338, descriptorIndex := 339, attributes := #[] }, { accessFlags := 4120, nameIndex := 245, descriptorIndex := 246, attributes := #[] }])
  fields := #[{ name := "E", type := .double, accessFlags := 25, slot := 0, constantValue := 0 }, { name := "PI", type := .double, accessFlags := 25, slot := 1, constantValue := 0 }, { name := "TAU", type := .double, accessFlags := 25, slot := 2, constantValue := 0 }, { name := "DEGREES_TO_RADIANS", type := .double, accessFlags := 26, slot := 3, constantValue := 0 }, { name := "RADIANS_TO_DEGREES", type := .double, accessFlags := 26, slot := 4, constantValue := 0 }, { name := "negativeZeroFloatBits", type := .long, accessFlags := 26, slot := 5, constantValue := 0 }, { name := "negativeZeroDoubleBits", type := .long, accessFlags := 26, slot := 6, constantValue := 0 }, { name := "twoToTheDoubleScaleUp", type := .double, accessFlags := 8, slot := 7, constantValue := 0 }, { name := "twoToTheDoubleScaleDown", type := .double, accessFlags := 8, slot := 8, constantValue := 0 }, { name := "$assertionsDisabled", type := .boolean, accessFlags := 4120, slot := 9, constantValue := 0 }]
  methods := #[k5m0, k5m1, k5m2]
  instanceTypes := #[]
  staticTypes := #[.double, .double, .double, .double, .double, .long, .long, .double, .double, .boolean]
  resolved := Array.replicate 460 none
  statics := none }

def pool6 : Array CpInfo := pool [(1, .class_ 2), (0, u "java/io/Serializable"), (0, .class_ 4), (0, u "java/lang/Object")] 2

/-- java/io/Serializable -/
def k6 : Class := { plain "java/io/Serializable" (some 0) with
  accessFlags := 1537
  interfaces := #[]
  cf := some (fileOf pool6 1 #[] #[] 1537 3 #[] #[])
  fields := #[]
  methods := #[]
  instanceTypes := #[]
  staticTypes := #[]
  resolved := Array.replicate 7 none
  statics := none }

def pool7 : Array CpInfo := pool [(2, .class_ 4), (1, u "java/lang/Object"), (0, u "<init>"), (0, u "()V"), (1, .class_ 10), (1, u "java/lang/Number"), (2, .class_ 14), (0, u "java/io/Serializable"), (0, u "serialVersionUID"), (0, u "J")] 20

def k7m0 : Method := { name := "<init>", desc := "()V", sig := { parameters := [], returnType := none }, accessFlags := 1, code := none }
/-- java/lang/Number -/
def k7 : Class := { plain "java/lang/Number" (some 0) with
  accessFlags := 1057
  interfaces := #[6]
  cf := some (fileOf pool7 8 #[] #[{ accessFlags := 1, nameIndex := 5, descriptorIndex := 6, attributes := #[] }] 1057 2 #[13] #[{ accessFlags := 26, nameIndex := 15, descriptorIndex := 16, attributes := #[] }])
  fields := #[{ name := "serialVersionUID", type := .long, accessFlags := 26, slot := 0, constantValue := 0 }]
  methods := #[k7m0]
  instanceTypes := #[]
  staticTypes := #[.long]
  resolved := Array.replicate 37 none
  statics := none }

def pool8 : Array CpInfo := pool [(1, .class_ 2), (0, u "java/lang/Comparable"), (0, .class_ 4), (0, u "java/lang/Object")] 7

/-- java/lang/Comparable -/
def k8 : Class := { plain "java/lang/Comparable" (some 0) with
  accessFlags := 1537
  interfaces := #[]
  cf := some (fileOf pool8 1 #[] #[] 1537 3 #[] #[])
  fields := #[]
  methods := #[]
  instanceTypes := #[]
  staticTypes := #[]
  resolved := Array.replicate 12 none
  statics := none }

def pool9 : Array CpInfo := pool [(1, .class_ 2), (0, u "java/lang/constant/Constable"), (0, .class_ 4), (0, u "java/lang/Object")] 6

/-- java/lang/constant/Constable -/
def k9 : Class := { plain "java/lang/constant/Constable" (some 0) with
  accessFlags := 1537
  interfaces := #[]
  cf := some (fileOf pool9 1 #[] #[] 1537 3 #[] #[])
  fields := #[]
  methods := #[]
  instanceTypes := #[]
  staticTypes := #[]
  resolved := Array.replicate 11 none
  statics := none }

def pool10 : Array CpInfo := pool [(1, .class_ 2), (0, u "java/lang/constant/ConstantDesc"), (0, .class_ 4), (0, u "java/lang/Object")] 32

/-- java/lang/constant/ConstantDesc -/
def k10 : Class := { plain "java/lang/constant/ConstantDesc" (some 0) with
  accessFlags := 1537
  interfaces := #[]
  cf := some (fileOf pool10 1 #[] #[] 1537 3 #[] #[])
  fields := #[]
  methods := #[]
  instanceTypes := #[]
  staticTypes := #[]
  resolved := Array.replicate 37 none
  statics := none }

def pool11 : Array CpInfo := pool [(1, .class_ 2), (0, u "java/lang/Double"), (11, u "(D)Z"), (34, u "(D)J"), (64, .class_ 116), (1, u "java/lang/Number"), (3, u "value"), (0, u "D"), (2, u "isNaN"), (11, u "doubleToRawLongBits"), (36, u "TYPE"), (0, u "Ljava/lang/Class;"), (0, .class_ 176), (0, u "java/lang/Comparable"), (0, .class_ 178), (0, u "java/lang/constant/Constable"), (0, .class_ 180), (0, u "java/lang/constant/ConstantDesc"), (0, u "POSITIVE_INFINITY"), (3, u "NEGATIVE_INFINITY"), (2, u "NaN"), (2, u "MAX_VALUE"), (0, u "MIN_NORMAL"), (0, u "MIN_VALUE"), (2, u "SIZE"), (0, u "I"), (1, u "PRECISION"), (1, u "MAX_EXPONENT"), (1, u "MIN_EXPONENT"), (1, u "BYTES"), (3, u "serialVersionUID"), (0, u "J"), (48, u "longBitsToDouble"), (0, u "(J)D")] 29

def k11c0 : Code := { maxStack := 4, maxLocals := 2, code := jdk_117_method_6_code, exceptionTable := #[], attributes := #[] }
def k11m0 : Method := { name := "isNaN", desc := "(D)Z", sig := { parameters := [.double], returnType := some .boolean }, accessFlags := 9, code := some k11c0 }
def k11m1 : Method := { name := "doubleToRawLongBits", desc := "(D)J", sig := { parameters := [.double], returnType := some .long }, accessFlags := 265, code := none }
def k11m2 : Method := { name := "longBitsToDouble", desc := "(J)D", sig := { parameters := [.long], returnType := some .double }, accessFlags := 265, code := none }
/-- java/lang/Double -/
def k11 : Class := { plain "java/lang/Double" (some 7) with
  accessFlags := 49
  interfaces := #[8, 9, 10]
  cf := some (fileOf pool11 1 #[] #[{ accessFlags := 9, nameIndex := 124, descriptorIndex := 14, attributes := #[] }, { accessFlags := 265, nameIndex := 136, descriptorIndex := 49, attributes := #[] }, { accessFlags := 265, nameIndex := 259, descriptorIndex := 260, attributes := #[] }] 49 114 #[175, 177, 179] #[{ accessFlags := 25, nameIndex := 181, descriptorIndex := 121, attributes := #[] }, { accessFlags := 25, nameIndex := 185, descriptorIndex := 121, attributes := #[] }, { accessFlags := 25, nameIndex := 188, descriptorIndex := 121, attributes := #[] }, { accessFlags := 25, nameIndex := 191, descriptorIndex := 121, attributes := #[] }, { accessFlags := 25, nameIndex := 192, descriptorIndex := 121, attributes := #[] }, { accessFlags := 25, nameIndex := 193, descriptorIndex := 121, attributes := #[] }, { accessFlags := 25, nameIndex := 196, descriptorIndex := 197, attributes := #[] }, { accessFlags := 25, nameIndex := 199, descriptorIndex := 197, attributes := #[] }, { accessFlags := 25, nameIndex := 201, descriptorIndex := 197, attributes := #[] }, { accessFlags := 25, nameIndex := 203, descriptorIndex := 197, attributes := #[] }, { accessFlags := 25, nameIndex := 205, descriptorIndex := 197, attributes := #[] }, { accessFlags := 25, nameIndex := 173, descriptorIndex := 174, attributes := #[] }, { accessFlags := 18, nameIndex := 120, descriptorIndex := 121, attributes := #[] }, { accessFlags := 26, nameIndex := 209, descriptorIndex := 210, attributes := #[] }])
  fields := #[{ name := "POSITIVE_INFINITY", type := .double, accessFlags := 25, slot := 0, constantValue := 0 }, { name := "NEGATIVE_INFINITY", type := .double, accessFlags := 25, slot := 1, constantValue := 0 }, { name := "NaN", type := .double, accessFlags := 25, slot := 2, constantValue := 0 }, { name := "MAX_VALUE", type := .double, accessFlags := 25, slot := 3, constantValue := 0 }, { name := "MIN_NORMAL", type := .double, accessFlags := 25, slot := 4, constantValue := 0 }, { name := "MIN_VALUE", type := .double, accessFlags := 25, slot := 5, constantValue := 0 }, { name := "SIZE", type := .int, accessFlags := 25, slot := 6, constantValue := 0 }, { name := "PRECISION", type := .int, accessFlags := 25, slot := 7, constantValue := 0 }, { name := "MAX_EXPONENT", type := .int, accessFlags := 25, slot := 8, constantValue := 0 }, { name := "MIN_EXPONENT", type := .int, accessFlags := 25, slot := 9, constantValue := 0 }, { name := "BYTES", type := .int, accessFlags := 25, slot := 10, constantValue := 0 }, { name := "TYPE", type := (.object "java/lang/Class"), accessFlags := 25, slot := 11, constantValue := 0 }, { name := "value", type := .double, accessFlags := 18, slot := 0, constantValue := 0 }, { name := "serialVersionUID", type := .long, accessFlags := 26, slot := 12, constantValue := 0 }]
  methods := #[k11m0, k11m1, k11m2]
  instanceTypes := #[.double]
  staticTypes := #[.double, .double, .double, .double, .double, .double, .int, .int, .int, .int, .int, (.object "java/lang/Class"), .long]
  resolved := Array.replicate 290 none
  statics := none }

def pool12 : Array CpInfo := pool [(1, u "java/lang/Cloneable"), (0, .class_ 1), (0, u "java/lang/Object"), (0, .class_ 3)] 3

/-- java/lang/Cloneable -/
def k12 : Class := { plain "java/lang/Cloneable" (some 0) with
  accessFlags := 1537
  interfaces := #[]
  cf := some (fileOf pool12 2 #[] #[] 1537 4 #[] #[])
  fields := #[]
  methods := #[]
  instanceTypes := #[]
  staticTypes := #[]
  resolved := Array.replicate 8 none
  statics := none }

/-- the primitive byte -/
def k13 : Class := { plain "byte" none with kind := .primitive 'B', accessFlags := 0x411 }
/-- [B -/
def k14 : Class := { plain "[B" (some 0) with kind := .array 13 .byte, interfaces := #[12, 6], accessFlags := 1041 }

/-- the primitive int -/
def k15 : Class := { plain "int" none with kind := .primitive 'I', accessFlags := 0x411 }
/-- [I -/
def k16 : Class := { plain "[I" (some 0) with kind := .array 15 .int, interfaces := #[12, 6], accessFlags := 1041 }

def heap : Heap := #[]
def classes : Array Class := #[k0, k1, k2, k3, k4, k5, k6, k7, k8, k9, k10, k11, k12, k13, k14, k15, k16]
def interned : List (Array UInt16 × Addr) := []
def slotsUsed : Nat := 0
def theMethod : MethodId := ⟨1, 3⟩
def args0 : Array Value := #[.long 5, .long 7, .long 9, .long 11, .int 3]
def aboutOver (below : List Frame) : State where
  vm := { classes := classes, interned := interned.toArray }
  heap := heap
  slotsUsed := slotsUsed
  threads := #[{ frames := .invoking theMethod args0 :: below }]
def below0 : List Frame := [.native { method := ⟨0, 0⟩, args := #[] }]
def about1 : State := aboutOver below0
def p0 : Program := .bare "" "" ""
def e0 : Env := launch0.env 0 0 0
theorem w_frames : about1.frames = Frame.invoking theMethod args0 :: below0 := rfl
set_option maxRecDepth 65536 in
theorem w_args : argsFit about1.vm theMethod args0 = true := by decide +kernel
set_option maxRecDepth 65536 in
theorem w_heap : heapFits about1 = true := by decide +kernel
set_option maxRecDepth 65536 in
theorem w_runnable : about1.curStatus? = some .runnable := by decide +kernel
set_option maxRecDepth 65536 in
theorem w_alone : about1.alone = true := by decide +kernel
set_option maxRecDepth 65536 in
theorem w_named : about1.methodNamed? x = some theMethod := by decide +kernel
set_option maxRecDepth 65536 in
theorem w_hears : about1.hears theMethod below0 = true := by decide +kernel
set_option maxRecDepth 65536 in
theorem w_ripe : about1.ripe theMethod args0 below0 = true := by decide +kernel
theorem w_running : about1.status = .running := rfl
set_option maxRecDepth 65536 in
theorem w_room : about1.hasRoom e0.platform room_1 = true :=
  launch0.hasRoom_least _ room_1 (by decide +kernel) (by decide +kernel) (by decide +kernel) (by decide +kernel) (by decide +kernel) (by decide +kernel)
theorem allAtoms_all (ts : List Jvm.Cond) (a : Array Jvm.Value) (st : Jvm.State) : (allAtoms ts).before a st = ts.all (fun c => c.before a st) := by
  induction ts with
  | nil => rfl
  | cons c t ih =>
    show (Jvm.Cond.and c (allAtoms t)).before a st = _
    rw [Jvm.Cond.before_and, ih, List.all_cons]
def words1 : List Jvm.Cond := Jvm.Cond.code x code maxLocals ret :: tables_1
/-- a 'code' word, met by the world's own term for the bytes: nothing is compared byte by byte -/
theorem code_word {y : MethodName} {bytes : ByteArray} {mx : Nat} {rt : Option FieldType} {a : Array Value} {s : State} {m : MethodId} {meth : Method} {c : Code} (h1 : s.methodNamed? y = some m) (h2 : s.vm.method? m = some meth) (h3 : meth.code = some c) (h4 : c.code = bytes)
    (h5 : (c.maxLocals == mx && c.exceptionTable.isEmpty && decide (c.maxStack ≤ mostOperands) && decide (meth.sig.returnType = rt) && !meth.locks && decide (parseMethodDescriptor y.desc = some meth.sig)) = true) : (Jvm.Cond.code y bytes mx rt).before a s = true := by
  simp only [Bool.and_eq_true, beq_iff_eq, Bool.not_eq_true', decide_eq_true_eq] at h5
  obtain ⟨⟨⟨⟨⟨g1, g2⟩, g3⟩, g4⟩, g5⟩, g6⟩ := h5
  simp [Cond.before, Cond.holds, Cond.value, h1, h2, h3, h4, g1, g2, g3, g4, g5, g6]
def isCode : Jvm.Cond → Bool
  | .code _ _ _ _ => true
  | _ => false
theorem all_split {L : List Jvm.Cond} {P : Jvm.Cond → Bool} (h1 : L.all (fun c => isCode c || P c) = true) (h2 : ∀ c ∈ L.filter isCode, P c = true) : L.all P = true := by
  refine List.all_eq_true.mpr fun c hc => ?_
  have h := List.all_eq_true.mp h1 c hc
  rcases Bool.eq_false_or_eq_true (isCode c) with hi | hi
  · exact h2 c (List.mem_filter.mpr ⟨hc, hi⟩)
  · simpa [hi] using h
set_option maxRecDepth 65536 in
theorem w_c0 : (Jvm.Cond.code x code maxLocals ret).before args0 about1 = true := code_word (m := ⟨1, 3⟩) (meth := k1m3) (c := k1c3) (by decide +kernel) rfl rfl rfl (by decide +kernel)
set_option maxRecDepth 65536 in
theorem w_c1 : (Jvm.Cond.code ({ cls := "com/example/castellan/castellan/ProgressTracker$Bounds", name := "<init>", desc := "(DD)V" } : Jvm.MethodName) prog_8_method_1_code (5 : Nat) (Option.none : Option Jvm.ClassFile.FieldType)).before args0 about1 = true := code_word (m := ⟨4, 0⟩) (meth := k4m0) (c := k4c0) (by decide +kernel) rfl rfl rfl (by decide +kernel)
set_option maxRecDepth 65536 in
theorem w_c2 : (Jvm.Cond.code ({ cls := "java/lang/Record", name := "<init>", desc := "()V" } : Jvm.MethodName) jdk_30_method_1_code (1 : Nat) (Option.none : Option Jvm.ClassFile.FieldType)).before args0 about1 = true := code_word (m := ⟨2, 0⟩) (meth := k2m0) (c := k2c0) (by decide +kernel) rfl rfl rfl (by decide +kernel)
set_option maxRecDepth 65536 in
theorem w_c3 : (Jvm.Cond.code ({ cls := "java/lang/Object", name := "<init>", desc := "()V" } : Jvm.MethodName) object_method_1_code (1 : Nat) (Option.none : Option Jvm.ClassFile.FieldType)).before args0 about1 = true := code_word (m := ⟨0, 0⟩) (meth := k0m0) (c := k0c0) (by decide +kernel) rfl rfl rfl (by decide +kernel)
set_option maxRecDepth 65536 in
theorem w_c4 : (Jvm.Cond.code ({ cls := "com/example/castellan/castellan/ProgressTracker$Bounds", name := "plus", desc := "(Lcom/example/castellan/castellan/ProgressTracker$Bounds;)Lcom/example/castellan/castellan/ProgressTracker$Bounds;" } : Jvm.MethodName) prog_8_method_2_code (2 : Nat) (Option.some (Jvm.ClassFile.FieldType.object "com/example/castellan/castellan/ProgressTracker$Bounds"))).before args0 about1 = true := code_word (m := ⟨4, 1⟩) (meth := k4m1) (c := k4c1) (by decide +kernel) rfl rfl rfl (by decide +kernel)
set_option maxRecDepth 65536 in
theorem w_c5 : (Jvm.Cond.code ({ cls := "com/example/castellan/castellan/ProgressTracker$Bounds", name := "sumDown", desc := "(DD)D" } : Jvm.MethodName) prog_8_method_8_code (6 : Nat) (Option.some Jvm.ClassFile.FieldType.double)).before args0 about1 = true := code_word (m := ⟨4, 2⟩) (meth := k4m2) (c := k4c2) (by decide +kernel) rfl rfl rfl (by decide +kernel)
set_option maxRecDepth 65536 in
theorem w_c6 : (Jvm.Cond.code ({ cls := "com/example/castellan/castellan/ProgressTracker$Bounds", name := "sumError", desc := "(DDD)D" } : Jvm.MethodName) prog_8_method_10_code (10 : Nat) (Option.some Jvm.ClassFile.FieldType.double)).before args0 about1 = true := code_word (m := ⟨4, 4⟩) (meth := k4m4) (c := k4c4) (by decide +kernel) rfl rfl rfl (by decide +kernel)
set_option maxRecDepth 65536 in
theorem w_c7 : (Jvm.Cond.code ({ cls := "com/example/castellan/castellan/ProgressTracker$Bounds", name := "sumUp", desc := "(DD)D" } : Jvm.MethodName) prog_8_method_9_code (6 : Nat) (Option.some Jvm.ClassFile.FieldType.double)).before args0 about1 = true := code_word (m := ⟨4, 3⟩) (meth := k4m3) (c := k4c3) (by decide +kernel) rfl rfl rfl (by decide +kernel)
set_option maxRecDepth 65536 in
theorem w_c8 : (Jvm.Cond.code ({ cls := "com/example/castellan/castellan/BoundsPlusPinLaw", name := "down", desc := "(J)J" } : Jvm.MethodName) method_2_code (2 : Nat) (Option.some Jvm.ClassFile.FieldType.long)).before args0 about1 = true := code_word (m := ⟨1, 1⟩) (meth := k1m1) (c := k1c1) (by decide +kernel) rfl rfl rfl (by decide +kernel)
set_option maxRecDepth 65536 in
theorem w_c9 : (Jvm.Cond.code ({ cls := "com/example/castellan/castellan/BoundsPlusPinLaw", name := "up", desc := "(J)J" } : Jvm.MethodName) method_3_code (2 : Nat) (Option.some Jvm.ClassFile.FieldType.long)).before args0 about1 = true := code_word (m := ⟨1, 2⟩) (meth := k1m2) (c := k1c2) (by decide +kernel) rfl rfl rfl (by decide +kernel)
set_option maxRecDepth 65536 in
theorem w_c10 : (Jvm.Cond.code ({ cls := "com/example/castellan/castellan/ProgressTracker$Bounds", name := "low", desc := "()D" } : Jvm.MethodName) prog_8_method_18_code (1 : Nat) (Option.some Jvm.ClassFile.FieldType.double)).before args0 about1 = true := code_word (m := ⟨4, 5⟩) (meth := k4m5) (c := k4c5) (by decide +kernel) rfl rfl rfl (by decide +kernel)
set_option maxRecDepth 65536 in
theorem w_c11 : (Jvm.Cond.code ({ cls := "com/example/castellan/castellan/ProgressTracker$Bounds", name := "high", desc := "()D" } : Jvm.MethodName) prog_8_method_19_code (1 : Nat) (Option.some Jvm.ClassFile.FieldType.double)).before args0 about1 = true := code_word (m := ⟨4, 6⟩) (meth := k4m6) (c := k4c6) (by decide +kernel) rfl rfl rfl (by decide +kernel)
set_option maxRecDepth 65536 in
theorem w_c12 : (Jvm.Cond.code ({ cls := "java/lang/Math", name := "nextUp", desc := "(D)D" } : Jvm.MethodName) jdk_29_method_95_code (4 : Nat) (Option.some Jvm.ClassFile.FieldType.double)).before args0 about1 = true := code_word (m := ⟨5, 1⟩) (meth := k5m1) (c := k5c1) (by decide +kernel) rfl rfl rfl (by decide +kernel)
set_option maxRecDepth 65536 in
theorem w_c13 : (Jvm.Cond.code ({ cls := "java/lang/Math", name := "nextDown", desc := "(D)D" } : Jvm.MethodName) jdk_29_method_97_code (2 : Nat) (Option.some Jvm.ClassFile.FieldType.double)).before args0 about1 = true := code_word (m := ⟨5, 2⟩) (meth := k5m2) (c := k5c2) (by decide +kernel) rfl rfl rfl (by decide +kernel)
set_option maxRecDepth 65536 in
theorem w_c14 : (Jvm.Cond.code ({ cls := "java/lang/Double", name := "isNaN", desc := "(D)Z" } : Jvm.MethodName) jdk_117_method_6_code (2 : Nat) (Option.some Jvm.ClassFile.FieldType.boolean)).before args0 about1 = true := code_word (m := ⟨11, 0⟩) (meth := k11m0) (c := k11c0) (by decide +kernel) rfl rfl rfl (by decide +kernel)
def codes1 : List Jvm.Cond := [Jvm.Cond.code x code maxLocals ret, Jvm.Cond.code ({ cls := "com/example/castellan/castellan/ProgressTracker$Bounds", name := "<init>", desc := "(DD)V" } : Jvm.MethodName) prog_8_method_1_code (5 : Nat) (Option.none : Option Jvm.ClassFile.FieldType), Jvm.Cond.code ({ cls := "java/lang/Record", name := "<init>", desc := "()V" } : Jvm.MethodName) jdk_30_method_1_code (1 : Nat) (Option.none : Option Jvm.ClassFile.FieldType), Jvm.Cond.code ({ cls := "java/lang/Object", name := "<init>", desc := "()V" } : Jvm.MethodName) object_method_1_code (1 : Nat) (Option.none : Option Jvm.ClassFile.FieldType), Jvm.Cond.code ({ cls := "com/example/castellan/castellan/ProgressTracker$Bounds", name := "plus", desc := "(Lcom/example/castellan/castellan/ProgressTracker$Bounds;)Lcom/example/castellan/castellan/ProgressTracker$Bounds;" } : Jvm.MethodName) prog_8_method_2_code (2 : Nat) (Option.some (Jvm.ClassFile.FieldType.object "com/example/castellan/castellan/ProgressTracker$Bounds")), Jvm.Cond.code ({ cls := "com/example/castellan/castellan/ProgressTracker$Bounds", name := "sumDown", desc := "(DD)D" } : Jvm.MethodName) prog_8_method_8_code (6 : Nat) (Option.some Jvm.ClassFile.FieldType.double), Jvm.Cond.code ({ cls := "com/example/castellan/castellan/ProgressTracker$Bounds", name := "sumError", desc := "(DDD)D" } : Jvm.MethodName) prog_8_method_10_code (10 : Nat) (Option.some Jvm.ClassFile.FieldType.double), Jvm.Cond.code ({ cls := "com/example/castellan/castellan/ProgressTracker$Bounds", name := "sumUp", desc := "(DD)D" } : Jvm.MethodName) prog_8_method_9_code (6 : Nat) (Option.some Jvm.ClassFile.FieldType.double), Jvm.Cond.code ({ cls := "com/example/castellan/castellan/BoundsPlusPinLaw", name := "down", desc := "(J)J" } : Jvm.MethodName) method_2_code (2 : Nat) (Option.some Jvm.ClassFile.FieldType.long), Jvm.Cond.code ({ cls := "com/example/castellan/castellan/BoundsPlusPinLaw", name := "up", desc := "(J)J" } : Jvm.MethodName) method_3_code (2 : Nat) (Option.some Jvm.ClassFile.FieldType.long), Jvm.Cond.code ({ cls := "com/example/castellan/castellan/ProgressTracker$Bounds", name := "low", desc := "()D" } : Jvm.MethodName) prog_8_method_18_code (1 : Nat) (Option.some Jvm.ClassFile.FieldType.double), Jvm.Cond.code ({ cls := "com/example/castellan/castellan/ProgressTracker$Bounds", name := "high", desc := "()D" } : Jvm.MethodName) prog_8_method_19_code (1 : Nat) (Option.some Jvm.ClassFile.FieldType.double), Jvm.Cond.code ({ cls := "java/lang/Math", name := "nextUp", desc := "(D)D" } : Jvm.MethodName) jdk_29_method_95_code (4 : Nat) (Option.some Jvm.ClassFile.FieldType.double), Jvm.Cond.code ({ cls := "java/lang/Math", name := "nextDown", desc := "(D)D" } : Jvm.MethodName) jdk_29_method_97_code (2 : Nat) (Option.some Jvm.ClassFile.FieldType.double), Jvm.Cond.code ({ cls := "java/lang/Double", name := "isNaN", desc := "(D)Z" } : Jvm.MethodName) jdk_117_method_6_code (2 : Nat) (Option.some Jvm.ClassFile.FieldType.boolean)]
set_option maxRecDepth 65536 in
theorem codes_eq : words1.filter isCode = codes1 := rfl
theorem w_codes : ∀ c ∈ words1.filter isCode, c.before args0 about1 = true := by
  rw [codes_eq]
  intro c hc
  simp only [codes1, List.mem_cons, List.not_mem_nil, or_false] at hc
  rcases hc with rfl | rfl | rfl | rfl | rfl | rfl | rfl | rfl | rfl | rfl | rfl | rfl | rfl | rfl | rfl
  · exact w_c0
  · exact w_c1
  · exact w_c2
  · exact w_c3
  · exact w_c4
  · exact w_c5
  · exact w_c6
  · exact w_c7
  · exact w_c8
  · exact w_c9
  · exact w_c10
  · exact w_c11
  · exact w_c12
  · exact w_c13
  · exact w_c14
set_option maxRecDepth 65536 in
theorem w_t1 : (words1.take 24).all (fun c => isCode c || c.before args0 about1) = true := by decide +kernel
set_option maxRecDepth 65536 in
theorem w_t2 : ((words1.drop 24).take 24).all (fun c => isCode c || c.before args0 about1) = true := by decide +kernel
set_option maxRecDepth 65536 in
theorem w_t3 : (((words1.drop 24).drop 24).take 24).all (fun c => isCode c || c.before args0 about1) = true := by decide +kernel
set_option maxRecDepth 65536 in
theorem w_t4 : (((words1.drop 24).drop 24).drop 24).all (fun c => isCode c || c.before args0 about1) = true := by decide +kernel
theorem w_tables : (allAtoms (Jvm.Cond.code x code maxLocals ret :: tables_1)).before args0 about1 = true := by
  rw [allAtoms_all]
  show words1.all (fun c => c.before args0 about1) = true
  refine all_split ?_ w_codes
  rw [← List.take_append_drop 24 words1, List.all_append, w_t1, ← List.take_append_drop 24 (words1.drop 24), List.all_append, w_t2, ← List.take_append_drop 24 ((words1.drop 24).drop 24), List.all_append, w_t3, w_t4]
  rfl
set_option maxRecDepth 65536 in
theorem w_case : (Jvm.Cond.and given_1 narrow_1).before args0 about1 = true := by decide +kernel
theorem w_applies : (headSpec (Jvm.Cond.code x code maxLocals ret :: tables_1) room_1).applies x e0.platform about1 = true :=
  (Spec.applies_iff w_frames).mpr ⟨w_running, w_runnable, w_alone, w_named, w_hears, w_ripe, w_room, w_tables⟩
theorem atStart : AtStart classFile x code maxLocals ret World_1 tables_1 room_1 Calls_1 rest_1 Pre_1 launch0 p0 e0 about1 theMethod args0 below0 :=
  ⟨lists_1, trivial, launch0.admits_env _ _ _, launch0.least_env, fairChoices_fair.cas, fairChoices_fair.clock, w_frames, w_args, w_heap, w_applies, trivial, trivial, w_case⟩
end start1
theorem witness_1 : WitnessClaimed_1 := ⟨start1.p0, start1.e0, start1.about1, start1.theMethod, start1.args0, start1.below0, start1.atStart⟩
end Jvm.Pilot.@@N@@
