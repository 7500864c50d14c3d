import JvmDerived
import JvmDerived.Pilot.@@N@@Statement
import JvmDerived.Pilot.@@N@@Code
set_option linter.unusedVariables false
set_option linter.unusedSimpArgs false
namespace Jvm.RoadKit
open Sem ClassFile Op Lib Jvm.Stand Jvm.Free Jvm.LawKit
section New
variable {p : Program} {l : Launch} {e : Env} {R : Room} {s : State} {m : MethodId} {args : Array Value} {below : List Frame} {meth : Method} {c : Code} {T : State} {locs : List Loc} {cells slots : Nat}
theorem retI (X : Stand p l e R s m args below meth c T locs cells slots) (hx : p.tables.exec = Jvm.exec) {pc : Nat} {Ls : Array Slot} {z : Int32} {rest : List Value} (hret : meth.sig.returnType = some .int) (hd : decode c.code pc = .ok (.ireturn, 1)) {fs : List Frame}
    (hl : ∀ (f : JFrame) (acts : List Action), f.method = m → f.locked = none → f.entered = [] → (doReturn e (T.setTop f) acts (some (.int z))).1 = T.setFrames fs) : Steps p.tables e below (T.setTop (mkF m pc Ls (.int z :: rest))) (T.setFrames fs) := by
  have hm' : T.vm.method? m = some meth := X.method'
  have hn : narrow .int (.int z) = .int z := rfl
  show Steps p.tables e below (T.setTop { method := m, pc := pc, locals := Ls, stack := _ :: rest, locked := none }) _
  jvm_step X.here [X.here.top, hx, hd, hm', hret, hn]
  first | (intro acts; rw [hl _ acts rfl rfl rfl]) | rw [hl _ _ rfl rfl rfl]
  exact Steps.refl _
end New
end Jvm.RoadKit
namespace Jvm.Pilot.@@N@@
open Jvm Jvm.ClassFile Sem Op Lib Jvm.Free Jvm.Stand Jvm.LawKit Jvm.RoadKit Bundle Jvm.Pilot.@@N@@.Jvm.D
theorem d7_0 : decode jdk_33_method_49_code 0 = .ok (.iload_n 0, 1) := by decide +kernel
theorem d7_1 : decode jdk_33_method_49_code 1 = .ok (.iload_n 0, 1) := by decide +kernel
theorem d7_2 : decode jdk_33_method_49_code 2 = .ok (.iconst 1, 1) := by decide +kernel
theorem d7_3 : decode jdk_33_method_49_code 3 = .ok (.iushr, 1) := by decide +kernel
theorem d7_4 : decode jdk_33_method_49_code 4 = .ok (.ldc_w 265, 3) := by decide +kernel
theorem wd_58 {Z : State} {a0 : Array Value} (hw : ∀ d ∈ tables_1, d.before a0 Z = true) : ((Jvm.Cond.constant "java/lang/Integer" (265 : Nat) (1431655765 : Int32))).before a0 Z = true := hw _ (List.mem_of_getElem? (i := 58) rfl)
theorem d7_7 : decode jdk_33_method_49_code 7 = .ok (.iand, 1) := by decide +kernel
theorem d7_8 : decode jdk_33_method_49_code 8 = .ok (.isub, 1) := by decide +kernel
theorem d7_9 : decode jdk_33_method_49_code 9 = .ok (.istore_n 0, 1) := by decide +kernel
def own_b1 (vi0 : Int32) : Int32 := (vi0 - (((vi0.toUInt32 >>> ((1 : Int32) &&& 31).toUInt32).toInt32) &&& (1431655765 : Int32)))
theorem d7_10 : decode jdk_33_method_49_code 10 = .ok (.iload_n 0, 1) := by decide +kernel
theorem d7_11 : decode jdk_33_method_49_code 11 = .ok (.ldc_w 266, 3) := by decide +kernel
theorem wd_59 {Z : State} {a0 : Array Value} (hw : ∀ d ∈ tables_1, d.before a0 Z = true) : ((Jvm.Cond.constant "java/lang/Integer" (266 : Nat) (858993459 : Int32))).before a0 Z = true := hw _ (List.mem_of_getElem? (i := 59) rfl)
theorem d7_14 : decode jdk_33_method_49_code 14 = .ok (.iand, 1) := by decide +kernel
theorem d7_15 : decode jdk_33_method_49_code 15 = .ok (.iload_n 0, 1) := by decide +kernel
theorem d7_16 : decode jdk_33_method_49_code 16 = .ok (.iconst 2, 1) := by decide +kernel
theorem d7_17 : decode jdk_33_method_49_code 17 = .ok (.iushr, 1) := by decide +kernel
theorem d7_18 : decode jdk_33_method_49_code 18 = .ok (.ldc_w 266, 3) := by decide +kernel
theorem d7_21 : decode jdk_33_method_49_code 21 = .ok (.iand, 1) := by decide +kernel
theorem d7_22 : decode jdk_33_method_49_code 22 = .ok (.iadd, 1) := by decide +kernel
theorem d7_23 : decode jdk_33_method_49_code 23 = .ok (.istore_n 0, 1) := by decide +kernel
def own_b2 (vi0 : Int32) : Int32 := (((own_b1 vi0) &&& (858993459 : Int32)) + ((((own_b1 vi0).toUInt32 >>> ((2 : Int32) &&& 31).toUInt32).toInt32) &&& (858993459 : Int32)))
theorem d7_24 : decode jdk_33_method_49_code 24 = .ok (.iload_n 0, 1) := by decide +kernel
theorem d7_25 : decode jdk_33_method_49_code 25 = .ok (.iload_n 0, 1) := by decide +kernel
theorem d7_26 : decode jdk_33_method_49_code 26 = .ok (.iconst 4, 1) := by decide +kernel
theorem d7_27 : decode jdk_33_method_49_code 27 = .ok (.iushr, 1) := by decide +kernel
theorem d7_28 : decode jdk_33_method_49_code 28 = .ok (.iadd, 1) := by decide +kernel
theorem d7_29 : decode jdk_33_method_49_code 29 = .ok (.ldc_w 267, 3) := by decide +kernel
theorem wd_60 {Z : State} {a0 : Array Value} (hw : ∀ d ∈ tables_1, d.before a0 Z = true) : ((Jvm.Cond.constant "java/lang/Integer" (267 : Nat) (252645135 : Int32))).before a0 Z = true := hw _ (List.mem_of_getElem? (i := 60) rfl)
theorem d7_32 : decode jdk_33_method_49_code 32 = .ok (.iand, 1) := by decide +kernel
theorem d7_33 : decode jdk_33_method_49_code 33 = .ok (.istore_n 0, 1) := by decide +kernel
def own_b3 (vi0 : Int32) : Int32 := (((own_b2 vi0) + (((own_b2 vi0).toUInt32 >>> ((4 : Int32) &&& 31).toUInt32).toInt32)) &&& (252645135 : Int32))
theorem d7_34 : decode jdk_33_method_49_code 34 = .ok (.iload_n 0, 1) := by decide +kernel
theorem d7_35 : decode jdk_33_method_49_code 35 = .ok (.iload_n 0, 1) := by decide +kernel
theorem d7_36 : decode jdk_33_method_49_code 36 = .ok (.bipush 8, 2) := by decide +kernel
theorem d7_38 : decode jdk_33_method_49_code 38 = .ok (.iushr, 1) := by decide +kernel
theorem d7_39 : decode jdk_33_method_49_code 39 = .ok (.iadd, 1) := by decide +kernel
theorem d7_40 : decode jdk_33_method_49_code 40 = .ok (.istore_n 0, 1) := by decide +kernel
def own_b4 (vi0 : Int32) : Int32 := ((own_b3 vi0) + (((own_b3 vi0).toUInt32 >>> ((8 : Int32) &&& 31).toUInt32).toInt32))
theorem d7_41 : decode jdk_33_method_49_code 41 = .ok (.iload_n 0, 1) := by decide +kernel
theorem d7_42 : decode jdk_33_method_49_code 42 = .ok (.iload_n 0, 1) := by decide +kernel
theorem d7_43 : decode jdk_33_method_49_code 43 = .ok (.bipush 16, 2) := by decide +kernel
theorem d7_45 : decode jdk_33_method_49_code 45 = .ok (.iushr, 1) := by decide +kernel
theorem d7_46 : decode jdk_33_method_49_code 46 = .ok (.iadd, 1) := by decide +kernel
theorem d7_47 : decode jdk_33_method_49_code 47 = .ok (.istore_n 0, 1) := by decide +kernel
def own_b5 (vi0 : Int32) : Int32 := ((own_b4 vi0) + (((own_b4 vi0).toUInt32 >>> ((16 : Int32) &&& 31).toUInt32).toInt32))
theorem d7_48 : decode jdk_33_method_49_code 48 = .ok (.iload_n 0, 1) := by decide +kernel
theorem d7_49 : decode jdk_33_method_49_code 49 = .ok (.bipush 63, 2) := by decide +kernel
theorem d7_51 : decode jdk_33_method_49_code 51 = .ok (.iand, 1) := by decide +kernel
theorem d7_52 : decode jdk_33_method_49_code 52 = .ok (.ireturn, 1) := by decide +kernel
def own_bc (vi0 : Int32) : Int32 := ((own_b5 vi0) &&& (63 : Int32))
theorem pn_java_lang_Integer : plainName "java/lang/Integer" = true := by first | (simp [plainName, overriddenIn]; done) | decide +kernel
theorem ef_7 (m : MethodId) (x0 : Int32) : entryFrame m #[(.int x0)] 1 = mkF m 0 #[.val (.int x0)] [] := by first | (simp [entryFrame, mkF, argsToLocals, Value.category]; done) | rfl
def Q7 (Z : State) (vi0 : Int32) (h0 : Heap) (n0 : Nat) (v : Option Value) (h : Heap) (L : List Loc) : Prop := v = some (.int (own_bc vi0)) ∧ Fr n0 L ∧ h = h0
set_option maxRecDepth 65536 in
set_option maxHeartbeats 40000000 in
theorem rm7 (l : Launch) (Z : State) (a0 : Array Value) (hw : ∀ d ∈ tables_1, d.before a0 Z = true) (ws : List Jvm.Cond) (vi0 : Int32) (h0 : Heap) (n0 : Nat) (Z0 : n0 ≤ h0.size) :
    MetFree l (⟨"java/lang/Integer", "bitCount", "(I)I"⟩ : MethodName) (head1 (Jvm.Cond.code (⟨"java/lang/Integer", "bitCount", "(I)I"⟩ : MethodName) jdk_33_method_49_code 1 (some .int) :: ws) ({ frames := 0, cells := 0, slots := 0, locals := 0 } : Room)) (fun a U => a = #[(.int vi0)] ∧ Z.Warmed39 U.vm ∧ U.heap = h0) (fun _ _ _ _ _ => True) (fun _ U o U' => ∃ v L, o = .returned v ∧ Q7 Z vi0 h0 n0 v U'.heap L ∧ FrameEnd U o U' L ({ frames := 0, cells := 0, slots := 0, locals := 0 } : Room).cells ({ frames := 0, cells := 0, slots := 0, locals := 0 } : Room).slots) := by
  refine MetFree.of_bodySF (plainFor_of_name pn_java_lang_Integer) hisR ?_
  intro p e s m args below meth c s₁ Bd hml0 hP hK
  obtain ⟨rfl, hZ, hh⟩ := hP
  have hx := Bd.exec
  have hby := Bd.bytes
  have hml : c.maxLocals = 1 := hml0
  have hown : s.vm.findClass "java/lang/Integer" = some m.cls := findClass_of_methodNamed Bd.named
  have hnm := (name_of_methodNamed Bd.named Bd.method).1
  have X0 : Stand p l e ({ frames := 0, cells := 0, slots := 0, locals := 0 } : Room) s m #[(.int vi0)] below meth c s₁ [] 0 0 := Stand.of_body Bd
  have e0 : s₁.heap = h0 := by rw [← hh, Bd.state]; rfl
  have N0 := Fr.nil n0
  have pre0 : ∀ t, Steps p.tables e below (s₁.setTop (mkF m 0 #[.val (.int vi0)] [])) t → Steps p.tables e below (s₁.setTop (entryFrame m #[(.int vi0)] 1)) t := fun t k => castTop (ef_7 m vi0) k
  obtain ⟨fs, hr, hrun, hended, hW, hsame⟩ := X0.leave (v := some (.int ((own_b5 vi0) &&& (63 : Int32)))) (fun h => by rw [Bd.returns] at h; cases h)
  refine ⟨_, _, pre0 _ ?_, hrun, hended, _, _, rfl, ?_, ⟨_, rfl⟩, hW, hsame.mono (by decide) (by decide)⟩
  · show Steps p.tables e below (s₁.setTop (mkF m 0 #[.val (.int vi0)] [])) _
    refine XS.iloadN X0.here hx rfl (hb hby d7_0) rfl ?_
    show Steps p.tables e below (s₁.setTop (mkF m 1 #[.val (.int vi0)] [(.int vi0)])) _
    refine XS.iloadN X0.here hx rfl (hb hby d7_1) rfl ?_
    show Steps p.tables e below (s₁.setTop (mkF m 2 #[.val (.int vi0)] [(.int vi0), (.int vi0)])) _
    refine XS.iconst X0.here hx rfl (hb hby d7_2) ?_
    show Steps p.tables e below (s₁.setTop (mkF m 3 #[.val (.int vi0)] [(.int (1 : Int32)), (.int vi0), (.int vi0)])) _
    refine XS.iushr X0.here hx rfl (hb hby d7_3) rfl ?_
    show Steps p.tables e below (s₁.setTop (mkF m 4 #[.val (.int vi0)] [(.int ((vi0.toUInt32 >>> ((1 : Int32) &&& 31).toUInt32).toInt32)), (.int vi0)])) _
    refine X0.ldcwInt hx hown (mvT hZ (wd_58 hw)) (g := (mkF m 4 #[.val (.int vi0)] [(.int ((vi0.toUInt32 >>> ((1 : Int32) &&& 31).toUInt32).toInt32)), (.int vi0)])) rfl (hb hby d7_4) _ ?_
    show Steps p.tables e below (s₁.setTop (mkF m 7 #[.val (.int vi0)] [(.int (1431655765 : Int32)), (.int ((vi0.toUInt32 >>> ((1 : Int32) &&& 31).toUInt32).toInt32)), (.int vi0)])) _
    refine XS.iand X0.here hx rfl (hb hby d7_7) rfl ?_
    show Steps p.tables e below (s₁.setTop (mkF m 8 #[.val (.int vi0)] [(.int (((vi0.toUInt32 >>> ((1 : Int32) &&& 31).toUInt32).toInt32) &&& (1431655765 : Int32))), (.int vi0)])) _
    refine XS.isub X0.here hx rfl (hb hby d7_8) rfl ?_
    show Steps p.tables e below (s₁.setTop (mkF m 9 #[.val (.int vi0)] [(.int (vi0 - (((vi0.toUInt32 >>> ((1 : Int32) &&& 31).toUInt32).toInt32) &&& (1431655765 : Int32))))])) _
    refine XS.istoreN X0.here hx rfl (hb hby d7_9) rfl (l' := #[.val (.int (vi0 - (((vi0.toUInt32 >>> ((1 : Int32) &&& 31).toUInt32).toInt32) &&& (1431655765 : Int32))))]) rfl ?_
    show Steps p.tables e below (s₁.setTop (mkF m 10 #[.val (.int (own_b1 vi0))] [])) _
    refine XS.iloadN X0.here hx rfl (hb hby d7_10) rfl ?_
    show Steps p.tables e below (s₁.setTop (mkF m 11 #[.val (.int (own_b1 vi0))] [(.int (own_b1 vi0))])) _
    refine X0.ldcwInt hx hown (mvT hZ (wd_59 hw)) (g := (mkF m 11 #[.val (.int (own_b1 vi0))] [(.int (own_b1 vi0))])) rfl (hb hby d7_11) _ ?_
    show Steps p.tables e below (s₁.setTop (mkF m 14 #[.val (.int (own_b1 vi0))] [(.int (858993459 : Int32)), (.int (own_b1 vi0))])) _
    refine XS.iand X0.here hx rfl (hb hby d7_14) rfl ?_
    show Steps p.tables e below (s₁.setTop (mkF m 15 #[.val (.int (own_b1 vi0))] [(.int ((own_b1 vi0) &&& (858993459 : Int32)))])) _
    refine XS.iloadN X0.here hx rfl (hb hby d7_15) rfl ?_
    show Steps p.tables e below (s₁.setTop (mkF m 16 #[.val (.int (own_b1 vi0))] [(.int (own_b1 vi0)), (.int ((own_b1 vi0) &&& (858993459 : Int32)))])) _
    refine XS.iconst X0.here hx rfl (hb hby d7_16) ?_
    show Steps p.tables e below (s₁.setTop (mkF m 17 #[.val (.int (own_b1 vi0))] [(.int (2 : Int32)), (.int (own_b1 vi0)), (.int ((own_b1 vi0) &&& (858993459 : Int32)))])) _
    refine XS.iushr X0.here hx rfl (hb hby d7_17) rfl ?_
    show Steps p.tables e below (s₁.setTop (mkF m 18 #[.val (.int (own_b1 vi0))] [(.int (((own_b1 vi0).toUInt32 >>> ((2 : Int32) &&& 31).toUInt32).toInt32)), (.int ((own_b1 vi0) &&& (858993459 : Int32)))])) _
    refine X0.ldcwInt hx hown (mvT hZ (wd_59 hw)) (g := (mkF m 18 #[.val (.int (own_b1 vi0))] [(.int (((own_b1 vi0).toUInt32 >>> ((2 : Int32) &&& 31).toUInt32).toInt32)), (.int ((own_b1 vi0) &&& (858993459 : Int32)))])) rfl (hb hby d7_18) _ ?_
    show Steps p.tables e below (s₁.setTop (mkF m 21 #[.val (.int (own_b1 vi0))] [(.int (858993459 : Int32)), (.int (((own_b1 vi0).toUInt32 >>> ((2 : Int32) &&& 31).toUInt32).toInt32)), (.int ((own_b1 vi0) &&& (858993459 : Int32)))])) _
    refine XS.iand X0.here hx rfl (hb hby d7_21) rfl ?_
    show Steps p.tables e below (s₁.setTop (mkF m 22 #[.val (.int (own_b1 vi0))] [(.int ((((own_b1 vi0).toUInt32 >>> ((2 : Int32) &&& 31).toUInt32).toInt32) &&& (858993459 : Int32))), (.int ((own_b1 vi0) &&& (858993459 : Int32)))])) _
    refine XS.iadd X0.here hx rfl (hb hby d7_22) rfl ?_
    show Steps p.tables e below (s₁.setTop (mkF m 23 #[.val (.int (own_b1 vi0))] [(.int (((own_b1 vi0) &&& (858993459 : Int32)) + ((((own_b1 vi0).toUInt32 >>> ((2 : Int32) &&& 31).toUInt32).toInt32) &&& (858993459 : Int32))))])) _
    refine XS.istoreN X0.here hx rfl (hb hby d7_23) rfl (l' := #[.val (.int (((own_b1 vi0) &&& (858993459 : Int32)) + ((((own_b1 vi0).toUInt32 >>> ((2 : Int32) &&& 31).toUInt32).toInt32) &&& (858993459 : Int32))))]) rfl ?_
    show Steps p.tables e below (s₁.setTop (mkF m 24 #[.val (.int (own_b2 vi0))] [])) _
    refine XS.iloadN X0.here hx rfl (hb hby d7_24) rfl ?_
    show Steps p.tables e below (s₁.setTop (mkF m 25 #[.val (.int (own_b2 vi0))] [(.int (own_b2 vi0))])) _
    refine XS.iloadN X0.here hx rfl (hb hby d7_25) rfl ?_
    show Steps p.tables e below (s₁.setTop (mkF m 26 #[.val (.int (own_b2 vi0))] [(.int (own_b2 vi0)), (.int (own_b2 vi0))])) _
    refine XS.iconst X0.here hx rfl (hb hby d7_26) ?_
    show Steps p.tables e below (s₁.setTop (mkF m 27 #[.val (.int (own_b2 vi0))] [(.int (4 : Int32)), (.int (own_b2 vi0)), (.int (own_b2 vi0))])) _
    refine XS.iushr X0.here hx rfl (hb hby d7_27) rfl ?_
    show Steps p.tables e below (s₁.setTop (mkF m 28 #[.val (.int (own_b2 vi0))] [(.int (((own_b2 vi0).toUInt32 >>> ((4 : Int32) &&& 31).toUInt32).toInt32)), (.int (own_b2 vi0))])) _
    refine XS.iadd X0.here hx rfl (hb hby d7_28) rfl ?_
    show Steps p.tables e below (s₁.setTop (mkF m 29 #[.val (.int (own_b2 vi0))] [(.int ((own_b2 vi0) + (((own_b2 vi0).toUInt32 >>> ((4 : Int32) &&& 31).toUInt32).toInt32)))])) _
    refine X0.ldcwInt hx hown (mvT hZ (wd_60 hw)) (g := (mkF m 29 #[.val (.int (own_b2 vi0))] [(.int ((own_b2 vi0) + (((own_b2 vi0).toUInt32 >>> ((4 : Int32) &&& 31).toUInt32).toInt32)))])) rfl (hb hby d7_29) _ ?_
    show Steps p.tables e below (s₁.setTop (mkF m 32 #[.val (.int (own_b2 vi0))] [(.int (252645135 : Int32)), (.int ((own_b2 vi0) + (((own_b2 vi0).toUInt32 >>> ((4 : Int32) &&& 31).toUInt32).toInt32)))])) _
    refine XS.iand X0.here hx rfl (hb hby d7_32) rfl ?_
    show Steps p.tables e below (s₁.setTop (mkF m 33 #[.val (.int (own_b2 vi0))] [(.int (((own_b2 vi0) + (((own_b2 vi0).toUInt32 >>> ((4 : Int32) &&& 31).toUInt32).toInt32)) &&& (252645135 : Int32)))])) _
    refine XS.istoreN X0.here hx rfl (hb hby d7_33) rfl (l' := #[.val (.int (((own_b2 vi0) + (((own_b2 vi0).toUInt32 >>> ((4 : Int32) &&& 31).toUInt32).toInt32)) &&& (252645135 : Int32)))]) rfl ?_
    show Steps p.tables e below (s₁.setTop (mkF m 34 #[.val (.int (own_b3 vi0))] [])) _
    refine XS.iloadN X0.here hx rfl (hb hby d7_34) rfl ?_
    show Steps p.tables e below (s₁.setTop (mkF m 35 #[.val (.int (own_b3 vi0))] [(.int (own_b3 vi0))])) _
    refine XS.iloadN X0.here hx rfl (hb hby d7_35) rfl ?_
    show Steps p.tables e below (s₁.setTop (mkF m 36 #[.val (.int (own_b3 vi0))] [(.int (own_b3 vi0)), (.int (own_b3 vi0))])) _
    refine XS.bipush X0.here hx rfl (hb hby d7_36) ?_
    show Steps p.tables e below (s₁.setTop (mkF m 38 #[.val (.int (own_b3 vi0))] [(.int (8 : Int32)), (.int (own_b3 vi0)), (.int (own_b3 vi0))])) _
    refine XS.iushr X0.here hx rfl (hb hby d7_38) rfl ?_
    show Steps p.tables e below (s₁.setTop (mkF m 39 #[.val (.int (own_b3 vi0))] [(.int (((own_b3 vi0).toUInt32 >>> ((8 : Int32) &&& 31).toUInt32).toInt32)), (.int (own_b3 vi0))])) _
    refine XS.iadd X0.here hx rfl (hb hby d7_39) rfl ?_
    show Steps p.tables e below (s₁.setTop (mkF m 40 #[.val (.int (own_b3 vi0))] [(.int ((own_b3 vi0) + (((own_b3 vi0).toUInt32 >>> ((8 : Int32) &&& 31).toUInt32).toInt32)))])) _
    refine XS.istoreN X0.here hx rfl (hb hby d7_40) rfl (l' := #[.val (.int ((own_b3 vi0) + (((own_b3 vi0).toUInt32 >>> ((8 : Int32) &&& 31).toUInt32).toInt32)))]) rfl ?_
    show Steps p.tables e below (s₁.setTop (mkF m 41 #[.val (.int (own_b4 vi0))] [])) _
    refine XS.iloadN X0.here hx rfl (hb hby d7_41) rfl ?_
    show Steps p.tables e below (s₁.setTop (mkF m 42 #[.val (.int (own_b4 vi0))] [(.int (own_b4 vi0))])) _
    refine XS.iloadN X0.here hx rfl (hb hby d7_42) rfl ?_
    show Steps p.tables e below (s₁.setTop (mkF m 43 #[.val (.int (own_b4 vi0))] [(.int (own_b4 vi0)), (.int (own_b4 vi0))])) _
    refine XS.bipush X0.here hx rfl (hb hby d7_43) ?_
    show Steps p.tables e below (s₁.setTop (mkF m 45 #[.val (.int (own_b4 vi0))] [(.int (16 : Int32)), (.int (own_b4 vi0)), (.int (own_b4 vi0))])) _
    refine XS.iushr X0.here hx rfl (hb hby d7_45) rfl ?_
    show Steps p.tables e below (s₁.setTop (mkF m 46 #[.val (.int (own_b4 vi0))] [(.int (((own_b4 vi0).toUInt32 >>> ((16 : Int32) &&& 31).toUInt32).toInt32)), (.int (own_b4 vi0))])) _
    refine XS.iadd X0.here hx rfl (hb hby d7_46) rfl ?_
    show Steps p.tables e below (s₁.setTop (mkF m 47 #[.val (.int (own_b4 vi0))] [(.int ((own_b4 vi0) + (((own_b4 vi0).toUInt32 >>> ((16 : Int32) &&& 31).toUInt32).toInt32)))])) _
    refine XS.istoreN X0.here hx rfl (hb hby d7_47) rfl (l' := #[.val (.int ((own_b4 vi0) + (((own_b4 vi0).toUInt32 >>> ((16 : Int32) &&& 31).toUInt32).toInt32)))]) rfl ?_
    show Steps p.tables e below (s₁.setTop (mkF m 48 #[.val (.int (own_b5 vi0))] [])) _
    refine XS.iloadN X0.here hx rfl (hb hby d7_48) rfl ?_
    show Steps p.tables e below (s₁.setTop (mkF m 49 #[.val (.int (own_b5 vi0))] [(.int (own_b5 vi0))])) _
    refine XS.bipush X0.here hx rfl (hb hby d7_49) ?_
    show Steps p.tables e below (s₁.setTop (mkF m 51 #[.val (.int (own_b5 vi0))] [(.int (63 : Int32)), (.int (own_b5 vi0))])) _
    refine XS.iand X0.here hx rfl (hb hby d7_51) rfl ?_
    show Steps p.tables e below (s₁.setTop (mkF m 52 #[.val (.int (own_b5 vi0))] [(.int ((own_b5 vi0) &&& (63 : Int32)))])) _
    exact retI X0 hx Bd.returns (hb hby d7_52) hr
  · show Q7 Z vi0 h0 n0 _ s₁.heap _
    rw [e0]
    exact ⟨rfl, N0, rfl⟩
theorem d8_0 : decode jdk_33_method_48_code 0 = .ok (.iload_n 0, 1) := by decide +kernel
theorem d8_1 : decode jdk_33_method_48_code 1 = .ok (.iconst (-1), 1) := by decide +kernel
theorem d8_2 : decode jdk_33_method_48_code 2 = .ok (.ixor, 1) := by decide +kernel
theorem d8_3 : decode jdk_33_method_48_code 3 = .ok (.iload_n 0, 1) := by decide +kernel
theorem d8_4 : decode jdk_33_method_48_code 4 = .ok (.iconst 1, 1) := by decide +kernel
theorem d8_5 : decode jdk_33_method_48_code 5 = .ok (.isub, 1) := by decide +kernel
theorem d8_6 : decode jdk_33_method_48_code 6 = .ok (.iand, 1) := by decide +kernel
theorem d8_7 : decode jdk_33_method_48_code 7 = .ok (.istore_n 0, 1) := by decide +kernel
theorem d8_8 : decode jdk_33_method_48_code 8 = .ok (.iload_n 0, 1) := by decide +kernel
theorem d8_9 : decode jdk_33_method_48_code 9 = .ok (.ifCond .gt 8, 3) := by decide +kernel
theorem d8_12 : decode jdk_33_method_48_code 12 = .ok (.iload_n 0, 1) := by decide +kernel
theorem d8_13 : decode jdk_33_method_48_code 13 = .ok (.bipush 32, 2) := by decide +kernel
theorem d8_15 : decode jdk_33_method_48_code 15 = .ok (.iand, 1) := by decide +kernel
theorem d8_16 : decode jdk_33_method_48_code 16 = .ok (.ireturn, 1) := by decide +kernel
theorem ef_8_k0 (m : MethodId)  : entryFrame m #[(.int (1 : Int32))] 2 = mkF m 0 #[.val (.int (1 : Int32)), .unset] [] := by first | (simp [entryFrame, mkF, argsToLocals, Value.category]; done) | rfl
def Q8_k0 (Z : State)  (h0 : Heap) (n0 : Nat) (v : Option Value) (h : Heap) (L : List Loc) : Prop := v = some (.int (0 : Int32)) ∧ Fr n0 L ∧ h = h0
set_option maxRecDepth 65536 in
set_option maxHeartbeats 40000000 in
theorem rm8_k0 (l : Launch) (Z : State) (a0 : Array Value) (hw : ∀ d ∈ tables_1, d.before a0 Z = true) (ws : List Jvm.Cond)  (h0 : Heap) (n0 : Nat) (Z0 : n0 ≤ h0.size) :
    MetFree l (⟨"java/lang/Integer", "numberOfTrailingZeros", "(I)I"⟩ : MethodName) (head1 (Jvm.Cond.code (⟨"java/lang/Integer", "numberOfTrailingZeros", "(I)I"⟩ : MethodName) jdk_33_method_48_code 2 (some .int) :: ws) ({ frames := 0, cells := 0, slots := 0, locals := 0 } : Room)) (fun a U => a = #[(.int (1 : Int32))] ∧ Z.Warmed39 U.vm ∧ U.heap = h0) (fun _ _ _ _ _ => True) (fun _ U o U' => ∃ v L, o = .returned v ∧ Q8_k0 Z  h0 n0 v U'.heap L ∧ FrameEnd U o U' L ({ frames := 0, cells := 0, slots := 0, locals := 0 } : Room).cells ({ frames := 0, cells := 0, slots := 0, locals := 0 } : Room).slots) := by
  refine MetFree.of_bodySF (plainFor_of_name pn_java_lang_Integer) hisR ?_
  intro p e s m args below meth c s₁ Bd hml0 hP hK
  obtain ⟨rfl, hZ, hh⟩ := hP
  have hx := Bd.exec
  have hby := Bd.bytes
  have hml : c.maxLocals = 2 := hml0
  have hown : s.vm.findClass "java/lang/Integer" = some m.cls := findClass_of_methodNamed Bd.named
  have hnm := (name_of_methodNamed Bd.named Bd.method).1
  have X0 : Stand p l e ({ frames := 0, cells := 0, slots := 0, locals := 0 } : Room) s m #[(.int (1 : Int32))] below meth c s₁ [] 0 0 := Stand.of_body Bd
  have e0 : s₁.heap = h0 := by rw [← hh, Bd.state]; rfl
  have N0 := Fr.nil n0
  have pre0 : ∀ t, Steps p.tables e below (s₁.setTop (mkF m 0 #[.val (.int (1 : Int32)), .unset] [])) t → Steps p.tables e below (s₁.setTop (entryFrame m #[(.int (1 : Int32))] 2)) t := fun t k => castTop (ef_8_k0 m ) k
  obtain ⟨fs, hr, hrun, hended, hW, hsame⟩ := X0.leave (v := some (.int ((((1 : Int32) ^^^ (-1 : Int32)) &&& (0 : Int32)) &&& (32 : Int32)))) (fun h => by rw [Bd.returns] at h; cases h)
  refine ⟨_, _, pre0 _ ?_, hrun, hended, _, _, rfl, ?_, ⟨_, rfl⟩, hW, hsame.mono (by decide) (by decide)⟩
  · show Steps p.tables e below (s₁.setTop (mkF m 0 #[.val (.int (1 : Int32)), .unset] [])) _
    refine XS.iloadN X0.here hx rfl (hb hby d8_0) rfl ?_
    show Steps p.tables e below (s₁.setTop (mkF m 1 #[.val (.int (1 : Int32)), .unset] [(.int (1 : Int32))])) _
    refine XS.iconst X0.here hx rfl (hb hby d8_1) ?_
    show Steps p.tables e below (s₁.setTop (mkF m 2 #[.val (.int (1 : Int32)), .unset] [(.int (-1 : Int32)), (.int (1 : Int32))])) _
    refine XS.ixor X0.here hx rfl (hb hby d8_2) rfl ?_
    show Steps p.tables e below (s₁.setTop (mkF m 3 #[.val (.int (1 : Int32)), .unset] [(.int ((1 : Int32) ^^^ (-1 : Int32)))])) _
    refine XS.iloadN X0.here hx rfl (hb hby d8_3) rfl ?_
    show Steps p.tables e below (s₁.setTop (mkF m 4 #[.val (.int (1 : Int32)), .unset] [(.int (1 : Int32)), (.int ((1 : Int32) ^^^ (-1 : Int32)))])) _
    refine XS.iconst X0.here hx rfl (hb hby d8_4) ?_
    show Steps p.tables e below (s₁.setTop (mkF m 5 #[.val (.int (1 : Int32)), .unset] [(.int (1 : Int32)), (.int (1 : Int32)), (.int ((1 : Int32) ^^^ (-1 : Int32)))])) _
    refine XS.isub X0.here hx rfl (hb hby d8_5) rfl ?_
    show Steps p.tables e below (s₁.setTop (mkF m 6 #[.val (.int (1 : Int32)), .unset] [(.int (0 : Int32)), (.int ((1 : Int32) ^^^ (-1 : Int32)))])) _
    refine XS.iand X0.here hx rfl (hb hby d8_6) rfl ?_
    show Steps p.tables e below (s₁.setTop (mkF m 7 #[.val (.int (1 : Int32)), .unset] [(.int (((1 : Int32) ^^^ (-1 : Int32)) &&& (0 : Int32)))])) _
    refine XS.istoreN X0.here hx rfl (hb hby d8_7) rfl (l' := #[.val (.int (((1 : Int32) ^^^ (-1 : Int32)) &&& (0 : Int32))), .unset]) rfl ?_
    show Steps p.tables e below (s₁.setTop (mkF m 8 #[.val (.int (((1 : Int32) ^^^ (-1 : Int32)) &&& (0 : Int32))), .unset] [])) _
    refine XS.iloadN X0.here hx rfl (hb hby d8_8) rfl ?_
    show Steps p.tables e below (s₁.setTop (mkF m 9 #[.val (.int (((1 : Int32) ^^^ (-1 : Int32)) &&& (0 : Int32))), .unset] [(.int (((1 : Int32) ^^^ (-1 : Int32)) &&& (0 : Int32)))])) _
    refine XS.ifNo X0.here hx rfl (hb hby d8_9) rfl ((if0 _ _).trans (flt (by decide : ¬ ((0 : Int32) < (((1 : Int32) ^^^ (-1 : Int32)) &&& (0 : Int32))))).2.2.1) ?_
    show Steps p.tables e below (s₁.setTop (mkF m 12 #[.val (.int (((1 : Int32) ^^^ (-1 : Int32)) &&& (0 : Int32))), .unset] [])) _
    refine XS.iloadN X0.here hx rfl (hb hby d8_12) rfl ?_
    show Steps p.tables e below (s₁.setTop (mkF m 13 #[.val (.int (((1 : Int32) ^^^ (-1 : Int32)) &&& (0 : Int32))), .unset] [(.int (((1 : Int32) ^^^ (-1 : Int32)) &&& (0 : Int32)))])) _
    refine XS.bipush X0.here hx rfl (hb hby d8_13) ?_
    show Steps p.tables e below (s₁.setTop (mkF m 15 #[.val (.int (((1 : Int32) ^^^ (-1 : Int32)) &&& (0 : Int32))), .unset] [(.int (32 : Int32)), (.int (((1 : Int32) ^^^ (-1 : Int32)) &&& (0 : Int32)))])) _
    refine XS.iand X0.here hx rfl (hb hby d8_15) rfl ?_
    show Steps p.tables e below (s₁.setTop (mkF m 16 #[.val (.int (((1 : Int32) ^^^ (-1 : Int32)) &&& (0 : Int32))), .unset] [(.int ((((1 : Int32) ^^^ (-1 : Int32)) &&& (0 : Int32)) &&& (32 : Int32)))])) _
    exact retI X0 hx Bd.returns (hb hby d8_16) hr
  · show Q8_k0 Z  h0 n0 _ s₁.heap _
    rw [e0]
    exact ⟨(congrArg (fun z => some (Value.int z)) (by decide : ((((1 : Int32) ^^^ (-1 : Int32)) &&& (0 : Int32)) &&& (32 : Int32)) = (0 : Int32))), N0, rfl⟩
theorem d8_17 : decode jdk_33_method_48_code 17 = .ok (.iconst 1, 1) := by decide +kernel
theorem d8_18 : decode jdk_33_method_48_code 18 = .ok (.istore_n 1, 1) := by decide +kernel
theorem d8_19 : decode jdk_33_method_48_code 19 = .ok (.iload_n 0, 1) := by decide +kernel
theorem d8_20 : decode jdk_33_method_48_code 20 = .ok (.ldc_w 264, 3) := by decide +kernel
theorem wd_76 {Z : State} {a0 : Array Value} (hw : ∀ d ∈ tables_1, d.before a0 Z = true) : ((Jvm.Cond.constant "java/lang/Integer" (264 : Nat) (65536 : Int32))).before a0 Z = true := hw _ (List.mem_of_getElem? (i := 76) rfl)
theorem d8_23 : decode jdk_33_method_48_code 23 = .ok (.if_icmp .le 11, 3) := by decide +kernel
theorem d8_34 : decode jdk_33_method_48_code 34 = .ok (.iload_n 0, 1) := by decide +kernel
theorem d8_35 : decode jdk_33_method_48_code 35 = .ok (.sipush 256, 3) := by decide +kernel
theorem d8_38 : decode jdk_33_method_48_code 38 = .ok (.if_icmp .le 11, 3) := by decide +kernel
theorem d8_49 : decode jdk_33_method_48_code 49 = .ok (.iload_n 0, 1) := by decide +kernel
theorem d8_50 : decode jdk_33_method_48_code 50 = .ok (.bipush 16, 2) := by decide +kernel
theorem d8_52 : decode jdk_33_method_48_code 52 = .ok (.if_icmp .le 10, 3) := by decide +kernel
theorem d8_62 : decode jdk_33_method_48_code 62 = .ok (.iload_n 0, 1) := by decide +kernel
theorem d8_63 : decode jdk_33_method_48_code 63 = .ok (.iconst 4, 1) := by decide +kernel
theorem d8_64 : decode jdk_33_method_48_code 64 = .ok (.if_icmp .le 10, 3) := by decide +kernel
theorem d8_74 : decode jdk_33_method_48_code 74 = .ok (.iload_n 1, 1) := by decide +kernel
theorem d8_75 : decode jdk_33_method_48_code 75 = .ok (.iload_n 0, 1) := by decide +kernel
theorem d8_76 : decode jdk_33_method_48_code 76 = .ok (.iconst 1, 1) := by decide +kernel
theorem d8_77 : decode jdk_33_method_48_code 77 = .ok (.iushr, 1) := by decide +kernel
theorem d8_78 : decode jdk_33_method_48_code 78 = .ok (.iadd, 1) := by decide +kernel
theorem d8_79 : decode jdk_33_method_48_code 79 = .ok (.ireturn, 1) := by decide +kernel
theorem ef_8_k1 (m : MethodId)  : entryFrame m #[(.int (2 : Int32))] 2 = mkF m 0 #[.val (.int (2 : Int32)), .unset] [] := by first | (simp [entryFrame, mkF, argsToLocals, Value.category]; done) | rfl
def Q8_k1 (Z : State)  (h0 : Heap) (n0 : Nat) (v : Option Value) (h : Heap) (L : List Loc) : Prop := v = some (.int (1 : Int32)) ∧ Fr n0 L ∧ h = h0
set_option maxRecDepth 65536 in
set_option maxHeartbeats 40000000 in
theorem rm8_k1 (l : Launch) (Z : State) (a0 : Array Value) (hw : ∀ d ∈ tables_1, d.before a0 Z = true) (ws : List Jvm.Cond)  (h0 : Heap) (n0 : Nat) (Z0 : n0 ≤ h0.size) :
    MetFree l (⟨"java/lang/Integer", "numberOfTrailingZeros", "(I)I"⟩ : MethodName) (head1 (Jvm.Cond.code (⟨"java/lang/Integer", "numberOfTrailingZeros", "(I)I"⟩ : MethodName) jdk_33_method_48_code 2 (some .int) :: ws) ({ frames := 0, cells := 0, slots := 0, locals := 0 } : Room)) (fun a U => a = #[(.int (2 : Int32))] ∧ Z.Warmed39 U.vm ∧ U.heap = h0) (fun _ _ _ _ _ => True) (fun _ U o U' => ∃ v L, o = .returned v ∧ Q8_k1 Z  h0 n0 v U'.heap L ∧ FrameEnd U o U' L ({ frames := 0, cells := 0, slots := 0, locals := 0 } : Room).cells ({ frames := 0, cells := 0, slots := 0, locals := 0 } : Room).slots) := by
  refine MetFree.of_bodySF (plainFor_of_name pn_java_lang_Integer) hisR ?_
  intro p e s m args below meth c s₁ Bd hml0 hP hK
  obtain ⟨rfl, hZ, hh⟩ := hP
  have hx := Bd.exec
  have hby := Bd.bytes
  have hml : c.maxLocals = 2 := hml0
  have hown : s.vm.findClass "java/lang/Integer" = some m.cls := findClass_of_methodNamed Bd.named
  have hnm := (name_of_methodNamed Bd.named Bd.method).1
  have X0 : Stand p l e ({ frames := 0, cells := 0, slots := 0, locals := 0 } : Room) s m #[(.int (2 : Int32))] below meth c s₁ [] 0 0 := Stand.of_body Bd
  have e0 : s₁.heap = h0 := by rw [← hh, Bd.state]; rfl
  have N0 := Fr.nil n0
  have pre0 : ∀ t, Steps p.tables e below (s₁.setTop (mkF m 0 #[.val (.int (2 : Int32)), .unset] [])) t → Steps p.tables e below (s₁.setTop (entryFrame m #[(.int (2 : Int32))] 2)) t := fun t k => castTop (ef_8_k1 m ) k
  obtain ⟨fs, hr, hrun, hended, hW, hsame⟩ := X0.leave (v := some (.int ((1 : Int32) + (((((2 : Int32) ^^^ (-1 : Int32)) &&& (1 : Int32)).toUInt32 >>> ((1 : Int32) &&& 31).toUInt32).toInt32)))) (fun h => by rw [Bd.returns] at h; cases h)
  refine ⟨_, _, pre0 _ ?_, hrun, hended, _, _, rfl, ?_, ⟨_, rfl⟩, hW, hsame.mono (by decide) (by decide)⟩
  · show Steps p.tables e below (s₁.setTop (mkF m 0 #[.val (.int (2 : Int32)), .unset] [])) _
    refine XS.iloadN X0.here hx rfl (hb hby d8_0) rfl ?_
    show Steps p.tables e below (s₁.setTop (mkF m 1 #[.val (.int (2 : Int32)), .unset] [(.int (2 : Int32))])) _
    refine XS.iconst X0.here hx rfl (hb hby d8_1) ?_
    show Steps p.tables e below (s₁.setTop (mkF m 2 #[.val (.int (2 : Int32)), .unset] [(.int (-1 : Int32)), (.int (2 : Int32))])) _
    refine XS.ixor X0.here hx rfl (hb hby d8_2) rfl ?_
    show Steps p.tables e below (s₁.setTop (mkF m 3 #[.val (.int (2 : Int32)), .unset] [(.int ((2 : Int32) ^^^ (-1 : Int32)))])) _
    refine XS.iloadN X0.here hx rfl (hb hby d8_3) rfl ?_
    show Steps p.tables e below (s₁.setTop (mkF m 4 #[.val (.int (2 : Int32)), .unset] [(.int (2 : Int32)), (.int ((2 : Int32) ^^^ (-1 : Int32)))])) _
    refine XS.iconst X0.here hx rfl (hb hby d8_4) ?_
    show Steps p.tables e below (s₁.setTop (mkF m 5 #[.val (.int (2 : Int32)), .unset] [(.int (1 : Int32)), (.int (2 : Int32)), (.int ((2 : Int32) ^^^ (-1 : Int32)))])) _
    refine XS.isub X0.here hx rfl (hb hby d8_5) rfl ?_
    show Steps p.tables e below (s₁.setTop (mkF m 6 #[.val (.int (2 : Int32)), .unset] [(.int (1 : Int32)), (.int ((2 : Int32) ^^^ (-1 : Int32)))])) _
    refine XS.iand X0.here hx rfl (hb hby d8_6) rfl ?_
    show Steps p.tables e below (s₁.setTop (mkF m 7 #[.val (.int (2 : Int32)), .unset] [(.int (((2 : Int32) ^^^ (-1 : Int32)) &&& (1 : Int32)))])) _
    refine XS.istoreN X0.here hx rfl (hb hby d8_7) rfl (l' := #[.val (.int (((2 : Int32) ^^^ (-1 : Int32)) &&& (1 : Int32))), .unset]) rfl ?_
    show Steps p.tables e below (s₁.setTop (mkF m 8 #[.val (.int (((2 : Int32) ^^^ (-1 : Int32)) &&& (1 : Int32))), .unset] [])) _
    refine XS.iloadN X0.here hx rfl (hb hby d8_8) rfl ?_
    show Steps p.tables e below (s₁.setTop (mkF m 9 #[.val (.int (((2 : Int32) ^^^ (-1 : Int32)) &&& (1 : Int32))), .unset] [(.int (((2 : Int32) ^^^ (-1 : Int32)) &&& (1 : Int32)))])) _
    refine XS.ifYes X0.here hx rfl (pc0 := 9) (pc' := 17) rfl (hb hby d8_9) rfl ((if0 _ _).trans (tlt (by decide : (0 : Int32) < (((2 : Int32) ^^^ (-1 : Int32)) &&& (1 : Int32)))).2.2.1) (by decide) (by decide) ?_
    show Steps p.tables e below (s₁.setTop (mkF m 17 #[.val (.int (((2 : Int32) ^^^ (-1 : Int32)) &&& (1 : Int32))), .unset] [])) _
    refine XS.iconst X0.here hx rfl (hb hby d8_17) ?_
    show Steps p.tables e below (s₁.setTop (mkF m 18 #[.val (.int (((2 : Int32) ^^^ (-1 : Int32)) &&& (1 : Int32))), .unset] [(.int (1 : Int32))])) _
    refine XS.istoreN X0.here hx rfl (hb hby d8_18) rfl (l' := #[.val (.int (((2 : Int32) ^^^ (-1 : Int32)) &&& (1 : Int32))), .val (.int (1 : Int32))]) rfl ?_
    show Steps p.tables e below (s₁.setTop (mkF m 19 #[.val (.int (((2 : Int32) ^^^ (-1 : Int32)) &&& (1 : Int32))), .val (.int (1 : Int32))] [])) _
    refine XS.iloadN X0.here hx rfl (hb hby d8_19) rfl ?_
    show Steps p.tables e below (s₁.setTop (mkF m 20 #[.val (.int (((2 : Int32) ^^^ (-1 : Int32)) &&& (1 : Int32))), .val (.int (1 : Int32))] [(.int (((2 : Int32) ^^^ (-1 : Int32)) &&& (1 : Int32)))])) _
    refine X0.ldcwInt hx hown (mvT hZ (wd_76 hw)) (g := (mkF m 20 #[.val (.int (((2 : Int32) ^^^ (-1 : Int32)) &&& (1 : Int32))), .val (.int (1 : Int32))] [(.int (((2 : Int32) ^^^ (-1 : Int32)) &&& (1 : Int32)))])) rfl (hb hby d8_20) _ ?_
    show Steps p.tables e below (s₁.setTop (mkF m 23 #[.val (.int (((2 : Int32) ^^^ (-1 : Int32)) &&& (1 : Int32))), .val (.int (1 : Int32))] [(.int (65536 : Int32)), (.int (((2 : Int32) ^^^ (-1 : Int32)) &&& (1 : Int32)))])) _
    refine XS.icmpYes X0.here hx rfl (pc0 := 23) (pc' := 34) rfl (hb hby d8_23) rfl (flt (by decide : ¬ ((65536 : Int32) < (((2 : Int32) ^^^ (-1 : Int32)) &&& (1 : Int32))))).2.2.2 (by decide) (by decide) ?_
    show Steps p.tables e below (s₁.setTop (mkF m 34 #[.val (.int (((2 : Int32) ^^^ (-1 : Int32)) &&& (1 : Int32))), .val (.int (1 : Int32))] [])) _
    refine XS.iloadN X0.here hx rfl (hb hby d8_34) rfl ?_
    show Steps p.tables e below (s₁.setTop (mkF m 35 #[.val (.int (((2 : Int32) ^^^ (-1 : Int32)) &&& (1 : Int32))), .val (.int (1 : Int32))] [(.int (((2 : Int32) ^^^ (-1 : Int32)) &&& (1 : Int32)))])) _
    refine XS.sipush X0.here hx rfl (hb hby d8_35) ?_
    show Steps p.tables e below (s₁.setTop (mkF m 38 #[.val (.int (((2 : Int32) ^^^ (-1 : Int32)) &&& (1 : Int32))), .val (.int (1 : Int32))] [(.int (256 : Int32)), (.int (((2 : Int32) ^^^ (-1 : Int32)) &&& (1 : Int32)))])) _
    refine XS.icmpYes X0.here hx rfl (pc0 := 38) (pc' := 49) rfl (hb hby d8_38) rfl (flt (by decide : ¬ ((256 : Int32) < (((2 : Int32) ^^^ (-1 : Int32)) &&& (1 : Int32))))).2.2.2 (by decide) (by decide) ?_
    show Steps p.tables e below (s₁.setTop (mkF m 49 #[.val (.int (((2 : Int32) ^^^ (-1 : Int32)) &&& (1 : Int32))), .val (.int (1 : Int32))] [])) _
    refine XS.iloadN X0.here hx rfl (hb hby d8_49) rfl ?_
    show Steps p.tables e below (s₁.setTop (mkF m 50 #[.val (.int (((2 : Int32) ^^^ (-1 : Int32)) &&& (1 : Int32))), .val (.int (1 : Int32))] [(.int (((2 : Int32) ^^^ (-1 : Int32)) &&& (1 : Int32)))])) _
    refine XS.bipush X0.here hx rfl (hb hby d8_50) ?_
    show Steps p.tables e below (s₁.setTop (mkF m 52 #[.val (.int (((2 : Int32) ^^^ (-1 : Int32)) &&& (1 : Int32))), .val (.int (1 : Int32))] [(.int (16 : Int32)), (.int (((2 : Int32) ^^^ (-1 : Int32)) &&& (1 : Int32)))])) _
    refine XS.icmpYes X0.here hx rfl (pc0 := 52) (pc' := 62) rfl (hb hby d8_52) rfl (flt (by decide : ¬ ((16 : Int32) < (((2 : Int32) ^^^ (-1 : Int32)) &&& (1 : Int32))))).2.2.2 (by decide) (by decide) ?_
    show Steps p.tables e below (s₁.setTop (mkF m 62 #[.val (.int (((2 : Int32) ^^^ (-1 : Int32)) &&& (1 : Int32))), .val (.int (1 : Int32))] [])) _
    refine XS.iloadN X0.here hx rfl (hb hby d8_62) rfl ?_
    show Steps p.tables e below (s₁.setTop (mkF m 63 #[.val (.int (((2 : Int32) ^^^ (-1 : Int32)) &&& (1 : Int32))), .val (.int (1 : Int32))] [(.int (((2 : Int32) ^^^ (-1 : Int32)) &&& (1 : Int32)))])) _
    refine XS.iconst X0.here hx rfl (hb hby d8_63) ?_
    show Steps p.tables e below (s₁.setTop (mkF m 64 #[.val (.int (((2 : Int32) ^^^ (-1 : Int32)) &&& (1 : Int32))), .val (.int (1 : Int32))] [(.int (4 : Int32)), (.int (((2 : Int32) ^^^ (-1 : Int32)) &&& (1 : Int32)))])) _
    refine XS.icmpYes X0.here hx rfl (pc0 := 64) (pc' := 74) rfl (hb hby d8_64) rfl (flt (by decide : ¬ ((4 : Int32) < (((2 : Int32) ^^^ (-1 : Int32)) &&& (1 : Int32))))).2.2.2 (by decide) (by decide) ?_
    show Steps p.tables e below (s₁.setTop (mkF m 74 #[.val (.int (((2 : Int32) ^^^ (-1 : Int32)) &&& (1 : Int32))), .val (.int (1 : Int32))] [])) _
    refine XS.iloadN X0.here hx rfl (hb hby d8_74) rfl ?_
    show Steps p.tables e below (s₁.setTop (mkF m 75 #[.val (.int (((2 : Int32) ^^^ (-1 : Int32)) &&& (1 : Int32))), .val (.int (1 : Int32))] [(.int (1 : Int32))])) _
    refine XS.iloadN X0.here hx rfl (hb hby d8_75) rfl ?_
    show Steps p.tables e below (s₁.setTop (mkF m 76 #[.val (.int (((2 : Int32) ^^^ (-1 : Int32)) &&& (1 : Int32))), .val (.int (1 : Int32))] [(.int (((2 : Int32) ^^^ (-1 : Int32)) &&& (1 : Int32))), (.int (1 : Int32))])) _
    refine XS.iconst X0.here hx rfl (hb hby d8_76) ?_
    show Steps p.tables e below (s₁.setTop (mkF m 77 #[.val (.int (((2 : Int32) ^^^ (-1 : Int32)) &&& (1 : Int32))), .val (.int (1 : Int32))] [(.int (1 : Int32)), (.int (((2 : Int32) ^^^ (-1 : Int32)) &&& (1 : Int32))), (.int (1 : Int32))])) _
    refine XS.iushr X0.here hx rfl (hb hby d8_77) rfl ?_
    show Steps p.tables e below (s₁.setTop (mkF m 78 #[.val (.int (((2 : Int32) ^^^ (-1 : Int32)) &&& (1 : Int32))), .val (.int (1 : Int32))] [(.int (((((2 : Int32) ^^^ (-1 : Int32)) &&& (1 : Int32)).toUInt32 >>> ((1 : Int32) &&& 31).toUInt32).toInt32)), (.int (1 : Int32))])) _
    refine XS.iadd X0.here hx rfl (hb hby d8_78) rfl ?_
    show Steps p.tables e below (s₁.setTop (mkF m 79 #[.val (.int (((2 : Int32) ^^^ (-1 : Int32)) &&& (1 : Int32))), .val (.int (1 : Int32))] [(.int ((1 : Int32) + (((((2 : Int32) ^^^ (-1 : Int32)) &&& (1 : Int32)).toUInt32 >>> ((1 : Int32) &&& 31).toUInt32).toInt32)))])) _
    exact retI X0 hx Bd.returns (hb hby d8_79) hr
  · show Q8_k1 Z  h0 n0 _ s₁.heap _
    rw [e0]
    exact ⟨(congrArg (fun z => some (Value.int z)) (by decide : ((1 : Int32) + (((((2 : Int32) ^^^ (-1 : Int32)) &&& (1 : Int32)).toUInt32 >>> ((1 : Int32) &&& 31).toUInt32).toInt32)) = (1 : Int32))), N0, rfl⟩
theorem ef_8_k2 (m : MethodId)  : entryFrame m #[(.int (4 : Int32))] 2 = mkF m 0 #[.val (.int (4 : Int32)), .unset] [] := by first | (simp [entryFrame, mkF, argsToLocals, Value.category]; done) | rfl
def Q8_k2 (Z : State)  (h0 : Heap) (n0 : Nat) (v : Option Value) (h : Heap) (L : List Loc) : Prop := v = some (.int (2 : Int32)) ∧ Fr n0 L ∧ h = h0
set_option maxRecDepth 65536 in
set_option maxHeartbeats 40000000 in
theorem rm8_k2 (l : Launch) (Z : State) (a0 : Array Value) (hw : ∀ d ∈ tables_1, d.before a0 Z = true) (ws : List Jvm.Cond)  (h0 : Heap) (n0 : Nat) (Z0 : n0 ≤ h0.size) :
    MetFree l (⟨"java/lang/Integer", "numberOfTrailingZeros", "(I)I"⟩ : MethodName) (head1 (Jvm.Cond.code (⟨"java/lang/Integer", "numberOfTrailingZeros", "(I)I"⟩ : MethodName) jdk_33_method_48_code 2 (some .int) :: ws) ({ frames := 0, cells := 0, slots := 0, locals := 0 } : Room)) (fun a U => a = #[(.int (4 : Int32))] ∧ Z.Warmed39 U.vm ∧ U.heap = h0) (fun _ _ _ _ _ => True) (fun _ U o U' => ∃ v L, o = .returned v ∧ Q8_k2 Z  h0 n0 v U'.heap L ∧ FrameEnd U o U' L ({ frames := 0, cells := 0, slots := 0, locals := 0 } : Room).cells ({ frames := 0, cells := 0, slots := 0, locals := 0 } : Room).slots) := by
  refine MetFree.of_bodySF (plainFor_of_name pn_java_lang_Integer) hisR ?_
  intro p e s m args below meth c s₁ Bd hml0 hP hK
  obtain ⟨rfl, hZ, hh⟩ := hP
  have hx := Bd.exec
  have hby := Bd.bytes
  have hml : c.maxLocals = 2 := hml0
  have hown : s.vm.findClass "java/lang/Integer" = some m.cls := findClass_of_methodNamed Bd.named
  have hnm := (name_of_methodNamed Bd.named Bd.method).1
  have X0 : Stand p l e ({ frames := 0, cells := 0, slots := 0, locals := 0 } : Room) s m #[(.int (4 : Int32))] below meth c s₁ [] 0 0 := Stand.of_body Bd
  have e0 : s₁.heap = h0 := by rw [← hh, Bd.state]; rfl
  have N0 := Fr.nil n0
  have pre0 : ∀ t, Steps p.tables e below (s₁.setTop (mkF m 0 #[.val (.int (4 : Int32)), .unset] [])) t → Steps p.tables e below (s₁.setTop (entryFrame m #[(.int (4 : Int32))] 2)) t := fun t k => castTop (ef_8_k2 m ) k
  obtain ⟨fs, hr, hrun, hended, hW, hsame⟩ := X0.leave (v := some (.int ((1 : Int32) + (((((4 : Int32) ^^^ (-1 : Int32)) &&& (3 : Int32)).toUInt32 >>> ((1 : Int32) &&& 31).toUInt32).toInt32)))) (fun h => by rw [Bd.returns] at h; cases h)
  refine ⟨_, _, pre0 _ ?_, hrun, hended, _, _, rfl, ?_, ⟨_, rfl⟩, hW, hsame.mono (by decide) (by decide)⟩
  · show Steps p.tables e below (s₁.setTop (mkF m 0 #[.val (.int (4 : Int32)), .unset] [])) _
    refine XS.iloadN X0.here hx rfl (hb hby d8_0) rfl ?_
    show Steps p.tables e below (s₁.setTop (mkF m 1 #[.val (.int (4 : Int32)), .unset] [(.int (4 : Int32))])) _
    refine XS.iconst X0.here hx rfl (hb hby d8_1) ?_
    show Steps p.tables e below (s₁.setTop (mkF m 2 #[.val (.int (4 : Int32)), .unset] [(.int (-1 : Int32)), (.int (4 : Int32))])) _
    refine XS.ixor X0.here hx rfl (hb hby d8_2) rfl ?_
    show Steps p.tables e below (s₁.setTop (mkF m 3 #[.val (.int (4 : Int32)), .unset] [(.int ((4 : Int32) ^^^ (-1 : Int32)))])) _
    refine XS.iloadN X0.here hx rfl (hb hby d8_3) rfl ?_
    show Steps p.tables e below (s₁.setTop (mkF m 4 #[.val (.int (4 : Int32)), .unset] [(.int (4 : Int32)), (.int ((4 : Int32) ^^^ (-1 : Int32)))])) _
    refine XS.iconst X0.here hx rfl (hb hby d8_4) ?_
    show Steps p.tables e below (s₁.setTop (mkF m 5 #[.val (.int (4 : Int32)), .unset] [(.int (1 : Int32)), (.int (4 : Int32)), (.int ((4 : Int32) ^^^ (-1 : Int32)))])) _
    refine XS.isub X0.here hx rfl (hb hby d8_5) rfl ?_
    show Steps p.tables e below (s₁.setTop (mkF m 6 #[.val (.int (4 : Int32)), .unset] [(.int (3 : Int32)), (.int ((4 : Int32) ^^^ (-1 : Int32)))])) _
    refine XS.iand X0.here hx rfl (hb hby d8_6) rfl ?_
    show Steps p.tables e below (s₁.setTop (mkF m 7 #[.val (.int (4 : Int32)), .unset] [(.int (((4 : Int32) ^^^ (-1 : Int32)) &&& (3 : Int32)))])) _
    refine XS.istoreN X0.here hx rfl (hb hby d8_7) rfl (l' := #[.val (.int (((4 : Int32) ^^^ (-1 : Int32)) &&& (3 : Int32))), .unset]) rfl ?_
    show Steps p.tables e below (s₁.setTop (mkF m 8 #[.val (.int (((4 : Int32) ^^^ (-1 : Int32)) &&& (3 : Int32))), .unset] [])) _
    refine XS.iloadN X0.here hx rfl (hb hby d8_8) rfl ?_
    show Steps p.tables e below (s₁.setTop (mkF m 9 #[.val (.int (((4 : Int32) ^^^ (-1 : Int32)) &&& (3 : Int32))), .unset] [(.int (((4 : Int32) ^^^ (-1 : Int32)) &&& (3 : Int32)))])) _
    refine XS.ifYes X0.here hx rfl (pc0 := 9) (pc' := 17) rfl (hb hby d8_9) rfl ((if0 _ _).trans (tlt (by decide : (0 : Int32) < (((4 : Int32) ^^^ (-1 : Int32)) &&& (3 : Int32)))).2.2.1) (by decide) (by decide) ?_
    show Steps p.tables e below (s₁.setTop (mkF m 17 #[.val (.int (((4 : Int32) ^^^ (-1 : Int32)) &&& (3 : Int32))), .unset] [])) _
    refine XS.iconst X0.here hx rfl (hb hby d8_17) ?_
    show Steps p.tables e below (s₁.setTop (mkF m 18 #[.val (.int (((4 : Int32) ^^^ (-1 : Int32)) &&& (3 : Int32))), .unset] [(.int (1 : Int32))])) _
    refine XS.istoreN X0.here hx rfl (hb hby d8_18) rfl (l' := #[.val (.int (((4 : Int32) ^^^ (-1 : Int32)) &&& (3 : Int32))), .val (.int (1 : Int32))]) rfl ?_
    show Steps p.tables e below (s₁.setTop (mkF m 19 #[.val (.int (((4 : Int32) ^^^ (-1 : Int32)) &&& (3 : Int32))), .val (.int (1 : Int32))] [])) _
    refine XS.iloadN X0.here hx rfl (hb hby d8_19) rfl ?_
    show Steps p.tables e below (s₁.setTop (mkF m 20 #[.val (.int (((4 : Int32) ^^^ (-1 : Int32)) &&& (3 : Int32))), .val (.int (1 : Int32))] [(.int (((4 : Int32) ^^^ (-1 : Int32)) &&& (3 : Int32)))])) _
    refine X0.ldcwInt hx hown (mvT hZ (wd_76 hw)) (g := (mkF m 20 #[.val (.int (((4 : Int32) ^^^ (-1 : Int32)) &&& (3 : Int32))), .val (.int (1 : Int32))] [(.int (((4 : Int32) ^^^ (-1 : Int32)) &&& (3 : Int32)))])) rfl (hb hby d8_20) _ ?_
    show Steps p.tables e below (s₁.setTop (mkF m 23 #[.val (.int (((4 : Int32) ^^^ (-1 : Int32)) &&& (3 : Int32))), .val (.int (1 : Int32))] [(.int (65536 : Int32)), (.int (((4 : Int32) ^^^ (-1 : Int32)) &&& (3 : Int32)))])) _
    refine XS.icmpYes X0.here hx rfl (pc0 := 23) (pc' := 34) rfl (hb hby d8_23) rfl (flt (by decide : ¬ ((65536 : Int32) < (((4 : Int32) ^^^ (-1 : Int32)) &&& (3 : Int32))))).2.2.2 (by decide) (by decide) ?_
    show Steps p.tables e below (s₁.setTop (mkF m 34 #[.val (.int (((4 : Int32) ^^^ (-1 : Int32)) &&& (3 : Int32))), .val (.int (1 : Int32))] [])) _
    refine XS.iloadN X0.here hx rfl (hb hby d8_34) rfl ?_
    show Steps p.tables e below (s₁.setTop (mkF m 35 #[.val (.int (((4 : Int32) ^^^ (-1 : Int32)) &&& (3 : Int32))), .val (.int (1 : Int32))] [(.int (((4 : Int32) ^^^ (-1 : Int32)) &&& (3 : Int32)))])) _
    refine XS.sipush X0.here hx rfl (hb hby d8_35) ?_
    show Steps p.tables e below (s₁.setTop (mkF m 38 #[.val (.int (((4 : Int32) ^^^ (-1 : Int32)) &&& (3 : Int32))), .val (.int (1 : Int32))] [(.int (256 : Int32)), (.int (((4 : Int32) ^^^ (-1 : Int32)) &&& (3 : Int32)))])) _
    refine XS.icmpYes X0.here hx rfl (pc0 := 38) (pc' := 49) rfl (hb hby d8_38) rfl (flt (by decide : ¬ ((256 : Int32) < (((4 : Int32) ^^^ (-1 : Int32)) &&& (3 : Int32))))).2.2.2 (by decide) (by decide) ?_
    show Steps p.tables e below (s₁.setTop (mkF m 49 #[.val (.int (((4 : Int32) ^^^ (-1 : Int32)) &&& (3 : Int32))), .val (.int (1 : Int32))] [])) _
    refine XS.iloadN X0.here hx rfl (hb hby d8_49) rfl ?_
    show Steps p.tables e below (s₁.setTop (mkF m 50 #[.val (.int (((4 : Int32) ^^^ (-1 : Int32)) &&& (3 : Int32))), .val (.int (1 : Int32))] [(.int (((4 : Int32) ^^^ (-1 : Int32)) &&& (3 : Int32)))])) _
    refine XS.bipush X0.here hx rfl (hb hby d8_50) ?_
    show Steps p.tables e below (s₁.setTop (mkF m 52 #[.val (.int (((4 : Int32) ^^^ (-1 : Int32)) &&& (3 : Int32))), .val (.int (1 : Int32))] [(.int (16 : Int32)), (.int (((4 : Int32) ^^^ (-1 : Int32)) &&& (3 : Int32)))])) _
    refine XS.icmpYes X0.here hx rfl (pc0 := 52) (pc' := 62) rfl (hb hby d8_52) rfl (flt (by decide : ¬ ((16 : Int32) < (((4 : Int32) ^^^ (-1 : Int32)) &&& (3 : Int32))))).2.2.2 (by decide) (by decide) ?_
    show Steps p.tables e below (s₁.setTop (mkF m 62 #[.val (.int (((4 : Int32) ^^^ (-1 : Int32)) &&& (3 : Int32))), .val (.int (1 : Int32))] [])) _
    refine XS.iloadN X0.here hx rfl (hb hby d8_62) rfl ?_
    show Steps p.tables e below (s₁.setTop (mkF m 63 #[.val (.int (((4 : Int32) ^^^ (-1 : Int32)) &&& (3 : Int32))), .val (.int (1 : Int32))] [(.int (((4 : Int32) ^^^ (-1 : Int32)) &&& (3 : Int32)))])) _
    refine XS.iconst X0.here hx rfl (hb hby d8_63) ?_
    show Steps p.tables e below (s₁.setTop (mkF m 64 #[.val (.int (((4 : Int32) ^^^ (-1 : Int32)) &&& (3 : Int32))), .val (.int (1 : Int32))] [(.int (4 : Int32)), (.int (((4 : Int32) ^^^ (-1 : Int32)) &&& (3 : Int32)))])) _
    refine XS.icmpYes X0.here hx rfl (pc0 := 64) (pc' := 74) rfl (hb hby d8_64) rfl (flt (by decide : ¬ ((4 : Int32) < (((4 : Int32) ^^^ (-1 : Int32)) &&& (3 : Int32))))).2.2.2 (by decide) (by decide) ?_
    show Steps p.tables e below (s₁.setTop (mkF m 74 #[.val (.int (((4 : Int32) ^^^ (-1 : Int32)) &&& (3 : Int32))), .val (.int (1 : Int32))] [])) _
    refine XS.iloadN X0.here hx rfl (hb hby d8_74) rfl ?_
    show Steps p.tables e below (s₁.setTop (mkF m 75 #[.val (.int (((4 : Int32) ^^^ (-1 : Int32)) &&& (3 : Int32))), .val (.int (1 : Int32))] [(.int (1 : Int32))])) _
    refine XS.iloadN X0.here hx rfl (hb hby d8_75) rfl ?_
    show Steps p.tables e below (s₁.setTop (mkF m 76 #[.val (.int (((4 : Int32) ^^^ (-1 : Int32)) &&& (3 : Int32))), .val (.int (1 : Int32))] [(.int (((4 : Int32) ^^^ (-1 : Int32)) &&& (3 : Int32))), (.int (1 : Int32))])) _
    refine XS.iconst X0.here hx rfl (hb hby d8_76) ?_
    show Steps p.tables e below (s₁.setTop (mkF m 77 #[.val (.int (((4 : Int32) ^^^ (-1 : Int32)) &&& (3 : Int32))), .val (.int (1 : Int32))] [(.int (1 : Int32)), (.int (((4 : Int32) ^^^ (-1 : Int32)) &&& (3 : Int32))), (.int (1 : Int32))])) _
    refine XS.iushr X0.here hx rfl (hb hby d8_77) rfl ?_
    show Steps p.tables e below (s₁.setTop (mkF m 78 #[.val (.int (((4 : Int32) ^^^ (-1 : Int32)) &&& (3 : Int32))), .val (.int (1 : Int32))] [(.int (((((4 : Int32) ^^^ (-1 : Int32)) &&& (3 : Int32)).toUInt32 >>> ((1 : Int32) &&& 31).toUInt32).toInt32)), (.int (1 : Int32))])) _
    refine XS.iadd X0.here hx rfl (hb hby d8_78) rfl ?_
    show Steps p.tables e below (s₁.setTop (mkF m 79 #[.val (.int (((4 : Int32) ^^^ (-1 : Int32)) &&& (3 : Int32))), .val (.int (1 : Int32))] [(.int ((1 : Int32) + (((((4 : Int32) ^^^ (-1 : Int32)) &&& (3 : Int32)).toUInt32 >>> ((1 : Int32) &&& 31).toUInt32).toInt32)))])) _
    exact retI X0 hx Bd.returns (hb hby d8_79) hr
  · show Q8_k2 Z  h0 n0 _ s₁.heap _
    rw [e0]
    exact ⟨(congrArg (fun z => some (Value.int z)) (by decide : ((1 : Int32) + (((((4 : Int32) ^^^ (-1 : Int32)) &&& (3 : Int32)).toUInt32 >>> ((1 : Int32) &&& 31).toUInt32).toInt32)) = (2 : Int32))), N0, rfl⟩
theorem d8_67 : decode jdk_33_method_48_code 67 = .ok (.iinc 1 2, 3) := by decide +kernel
theorem d8_70 : decode jdk_33_method_48_code 70 = .ok (.iload_n 0, 1) := by decide +kernel
theorem d8_71 : decode jdk_33_method_48_code 71 = .ok (.iconst 2, 1) := by decide +kernel
theorem d8_72 : decode jdk_33_method_48_code 72 = .ok (.iushr, 1) := by decide +kernel
theorem d8_73 : decode jdk_33_method_48_code 73 = .ok (.istore_n 0, 1) := by decide +kernel
theorem ef_8_k3 (m : MethodId)  : entryFrame m #[(.int (8 : Int32))] 2 = mkF m 0 #[.val (.int (8 : Int32)), .unset] [] := by first | (simp [entryFrame, mkF, argsToLocals, Value.category]; done) | rfl
def Q8_k3 (Z : State)  (h0 : Heap) (n0 : Nat) (v : Option Value) (h : Heap) (L : List Loc) : Prop := v = some (.int (3 : Int32)) ∧ Fr n0 L ∧ h = h0
set_option maxRecDepth 65536 in
set_option maxHeartbeats 40000000 in
theorem rm8_k3 (l : Launch) (Z : State) (a0 : Array Value) (hw : ∀ d ∈ tables_1, d.before a0 Z = true) (ws : List Jvm.Cond)  (h0 : Heap) (n0 : Nat) (Z0 : n0 ≤ h0.size) :
    MetFree l (⟨"java/lang/Integer", "numberOfTrailingZeros", "(I)I"⟩ : MethodName) (head1 (Jvm.Cond.code (⟨"java/lang/Integer", "numberOfTrailingZeros", "(I)I"⟩ : MethodName) jdk_33_method_48_code 2 (some .int) :: ws) ({ frames := 0, cells := 0, slots := 0, locals := 0 } : Room)) (fun a U => a = #[(.int (8 : Int32))] ∧ Z.Warmed39 U.vm ∧ U.heap = h0) (fun _ _ _ _ _ => True) (fun _ U o U' => ∃ v L, o = .returned v ∧ Q8_k3 Z  h0 n0 v U'.heap L ∧ FrameEnd U o U' L ({ frames := 0, cells := 0, slots := 0, locals := 0 } : Room).cells ({ frames := 0, cells := 0, slots := 0, locals := 0 } : Room).slots) := by
  refine MetFree.of_bodySF (plainFor_of_name pn_java_lang_Integer) hisR ?_
  intro p e s m args below meth c s₁ Bd hml0 hP hK
  obtain ⟨rfl, hZ, hh⟩ := hP
  have hx := Bd.exec
  have hby := Bd.bytes
  have hml : c.maxLocals = 2 := hml0
  have hown : s.vm.findClass "java/lang/Integer" = some m.cls := findClass_of_methodNamed Bd.named
  have hnm := (name_of_methodNamed Bd.named Bd.method).1
  have X0 : Stand p l e ({ frames := 0, cells := 0, slots := 0, locals := 0 } : Room) s m #[(.int (8 : Int32))] below meth c s₁ [] 0 0 := Stand.of_body Bd
  have e0 : s₁.heap = h0 := by rw [← hh, Bd.state]; rfl
  have N0 := Fr.nil n0
  have pre0 : ∀ t, Steps p.tables e below (s₁.setTop (mkF m 0 #[.val (.int (8 : Int32)), .unset] [])) t → Steps p.tables e below (s₁.setTop (entryFrame m #[(.int (8 : Int32))] 2)) t := fun t k => castTop (ef_8_k3 m ) k
  obtain ⟨fs, hr, hrun, hended, hW, hsame⟩ := X0.leave (v := some (.int (((1 : Int32) + (2 : Int32)) + (((((((8 : Int32) ^^^ (-1 : Int32)) &&& (7 : Int32)).toUInt32 >>> ((2 : Int32) &&& 31).toUInt32).toInt32).toUInt32 >>> ((1 : Int32) &&& 31).toUInt32).toInt32)))) (fun h => by rw [Bd.returns] at h; cases h)
  refine ⟨_, _, pre0 _ ?_, hrun, hended, _, _, rfl, ?_, ⟨_, rfl⟩, hW, hsame.mono (by decide) (by decide)⟩
  · show Steps p.tables e below (s₁.setTop (mkF m 0 #[.val (.int (8 : Int32)), .unset] [])) _
    refine XS.iloadN X0.here hx rfl (hb hby d8_0) rfl ?_
    show Steps p.tables e below (s₁.setTop (mkF m 1 #[.val (.int (8 : Int32)), .unset] [(.int (8 : Int32))])) _
    refine XS.iconst X0.here hx rfl (hb hby d8_1) ?_
    show Steps p.tables e below (s₁.setTop (mkF m 2 #[.val (.int (8 : Int32)), .unset] [(.int (-1 : Int32)), (.int (8 : Int32))])) _
    refine XS.ixor X0.here hx rfl (hb hby d8_2) rfl ?_
    show Steps p.tables e below (s₁.setTop (mkF m 3 #[.val (.int (8 : Int32)), .unset] [(.int ((8 : Int32) ^^^ (-1 : Int32)))])) _
    refine XS.iloadN X0.here hx rfl (hb hby d8_3) rfl ?_
    show Steps p.tables e below (s₁.setTop (mkF m 4 #[.val (.int (8 : Int32)), .unset] [(.int (8 : Int32)), (.int ((8 : Int32) ^^^ (-1 : Int32)))])) _
    refine XS.iconst X0.here hx rfl (hb hby d8_4) ?_
    show Steps p.tables e below (s₁.setTop (mkF m 5 #[.val (.int (8 : Int32)), .unset] [(.int (1 : Int32)), (.int (8 : Int32)), (.int ((8 : Int32) ^^^ (-1 : Int32)))])) _
    refine XS.isub X0.here hx rfl (hb hby d8_5) rfl ?_
    show Steps p.tables e below (s₁.setTop (mkF m 6 #[.val (.int (8 : Int32)), .unset] [(.int (7 : Int32)), (.int ((8 : Int32) ^^^ (-1 : Int32)))])) _
    refine XS.iand X0.here hx rfl (hb hby d8_6) rfl ?_
    show Steps p.tables e below (s₁.setTop (mkF m 7 #[.val (.int (8 : Int32)), .unset] [(.int (((8 : Int32) ^^^ (-1 : Int32)) &&& (7 : Int32)))])) _
    refine XS.istoreN X0.here hx rfl (hb hby d8_7) rfl (l' := #[.val (.int (((8 : Int32) ^^^ (-1 : Int32)) &&& (7 : Int32))), .unset]) rfl ?_
    show Steps p.tables e below (s₁.setTop (mkF m 8 #[.val (.int (((8 : Int32) ^^^ (-1 : Int32)) &&& (7 : Int32))), .unset] [])) _
    refine XS.iloadN X0.here hx rfl (hb hby d8_8) rfl ?_
    show Steps p.tables e below (s₁.setTop (mkF m 9 #[.val (.int (((8 : Int32) ^^^ (-1 : Int32)) &&& (7 : Int32))), .unset] [(.int (((8 : Int32) ^^^ (-1 : Int32)) &&& (7 : Int32)))])) _
    refine XS.ifYes X0.here hx rfl (pc0 := 9) (pc' := 17) rfl (hb hby d8_9) rfl ((if0 _ _).trans (tlt (by decide : (0 : Int32) < (((8 : Int32) ^^^ (-1 : Int32)) &&& (7 : Int32)))).2.2.1) (by decide) (by decide) ?_
    show Steps p.tables e below (s₁.setTop (mkF m 17 #[.val (.int (((8 : Int32) ^^^ (-1 : Int32)) &&& (7 : Int32))), .unset] [])) _
    refine XS.iconst X0.here hx rfl (hb hby d8_17) ?_
    show Steps p.tables e below (s₁.setTop (mkF m 18 #[.val (.int (((8 : Int32) ^^^ (-1 : Int32)) &&& (7 : Int32))), .unset] [(.int (1 : Int32))])) _
    refine XS.istoreN X0.here hx rfl (hb hby d8_18) rfl (l' := #[.val (.int (((8 : Int32) ^^^ (-1 : Int32)) &&& (7 : Int32))), .val (.int (1 : Int32))]) rfl ?_
    show Steps p.tables e below (s₁.setTop (mkF m 19 #[.val (.int (((8 : Int32) ^^^ (-1 : Int32)) &&& (7 : Int32))), .val (.int (1 : Int32))] [])) _
    refine XS.iloadN X0.here hx rfl (hb hby d8_19) rfl ?_
    show Steps p.tables e below (s₁.setTop (mkF m 20 #[.val (.int (((8 : Int32) ^^^ (-1 : Int32)) &&& (7 : Int32))), .val (.int (1 : Int32))] [(.int (((8 : Int32) ^^^ (-1 : Int32)) &&& (7 : Int32)))])) _
    refine X0.ldcwInt hx hown (mvT hZ (wd_76 hw)) (g := (mkF m 20 #[.val (.int (((8 : Int32) ^^^ (-1 : Int32)) &&& (7 : Int32))), .val (.int (1 : Int32))] [(.int (((8 : Int32) ^^^ (-1 : Int32)) &&& (7 : Int32)))])) rfl (hb hby d8_20) _ ?_
    show Steps p.tables e below (s₁.setTop (mkF m 23 #[.val (.int (((8 : Int32) ^^^ (-1 : Int32)) &&& (7 : Int32))), .val (.int (1 : Int32))] [(.int (65536 : Int32)), (.int (((8 : Int32) ^^^ (-1 : Int32)) &&& (7 : Int32)))])) _
    refine XS.icmpYes X0.here hx rfl (pc0 := 23) (pc' := 34) rfl (hb hby d8_23) rfl (flt (by decide : ¬ ((65536 : Int32) < (((8 : Int32) ^^^ (-1 : Int32)) &&& (7 : Int32))))).2.2.2 (by decide) (by decide) ?_
    show Steps p.tables e below (s₁.setTop (mkF m 34 #[.val (.int (((8 : Int32) ^^^ (-1 : Int32)) &&& (7 : Int32))), .val (.int (1 : Int32))] [])) _
    refine XS.iloadN X0.here hx rfl (hb hby d8_34) rfl ?_
    show Steps p.tables e below (s₁.setTop (mkF m 35 #[.val (.int (((8 : Int32) ^^^ (-1 : Int32)) &&& (7 : Int32))), .val (.int (1 : Int32))] [(.int (((8 : Int32) ^^^ (-1 : Int32)) &&& (7 : Int32)))])) _
    refine XS.sipush X0.here hx rfl (hb hby d8_35) ?_
    show Steps p.tables e below (s₁.setTop (mkF m 38 #[.val (.int (((8 : Int32) ^^^ (-1 : Int32)) &&& (7 : Int32))), .val (.int (1 : Int32))] [(.int (256 : Int32)), (.int (((8 : Int32) ^^^ (-1 : Int32)) &&& (7 : Int32)))])) _
    refine XS.icmpYes X0.here hx rfl (pc0 := 38) (pc' := 49) rfl (hb hby d8_38) rfl (flt (by decide : ¬ ((256 : Int32) < (((8 : Int32) ^^^ (-1 : Int32)) &&& (7 : Int32))))).2.2.2 (by decide) (by decide) ?_
    show Steps p.tables e below (s₁.setTop (mkF m 49 #[.val (.int (((8 : Int32) ^^^ (-1 : Int32)) &&& (7 : Int32))), .val (.int (1 : Int32))] [])) _
    refine XS.iloadN X0.here hx rfl (hb hby d8_49) rfl ?_
    show Steps p.tables e below (s₁.setTop (mkF m 50 #[.val (.int (((8 : Int32) ^^^ (-1 : Int32)) &&& (7 : Int32))), .val (.int (1 : Int32))] [(.int (((8 : Int32) ^^^ (-1 : Int32)) &&& (7 : Int32)))])) _
    refine XS.bipush X0.here hx rfl (hb hby d8_50) ?_
    show Steps p.tables e below (s₁.setTop (mkF m 52 #[.val (.int (((8 : Int32) ^^^ (-1 : Int32)) &&& (7 : Int32))), .val (.int (1 : Int32))] [(.int (16 : Int32)), (.int (((8 : Int32) ^^^ (-1 : Int32)) &&& (7 : Int32)))])) _
    refine XS.icmpYes X0.here hx rfl (pc0 := 52) (pc' := 62) rfl (hb hby d8_52) rfl (flt (by decide : ¬ ((16 : Int32) < (((8 : Int32) ^^^ (-1 : Int32)) &&& (7 : Int32))))).2.2.2 (by decide) (by decide) ?_
    show Steps p.tables e below (s₁.setTop (mkF m 62 #[.val (.int (((8 : Int32) ^^^ (-1 : Int32)) &&& (7 : Int32))), .val (.int (1 : Int32))] [])) _
    refine XS.iloadN X0.here hx rfl (hb hby d8_62) rfl ?_
    show Steps p.tables e below (s₁.setTop (mkF m 63 #[.val (.int (((8 : Int32) ^^^ (-1 : Int32)) &&& (7 : Int32))), .val (.int (1 : Int32))] [(.int (((8 : Int32) ^^^ (-1 : Int32)) &&& (7 : Int32)))])) _
    refine XS.iconst X0.here hx rfl (hb hby d8_63) ?_
    show Steps p.tables e below (s₁.setTop (mkF m 64 #[.val (.int (((8 : Int32) ^^^ (-1 : Int32)) &&& (7 : Int32))), .val (.int (1 : Int32))] [(.int (4 : Int32)), (.int (((8 : Int32) ^^^ (-1 : Int32)) &&& (7 : Int32)))])) _
    refine XS.icmpNo X0.here hx rfl (hb hby d8_64) rfl (tlt (by decide : (4 : Int32) < (((8 : Int32) ^^^ (-1 : Int32)) &&& (7 : Int32)))).2.2.2 ?_
    show Steps p.tables e below (s₁.setTop (mkF m 67 #[.val (.int (((8 : Int32) ^^^ (-1 : Int32)) &&& (7 : Int32))), .val (.int (1 : Int32))] [])) _
    refine XS.iinc X0.here hx rfl (hb hby d8_67) rfl (l' := #[.val (.int (((8 : Int32) ^^^ (-1 : Int32)) &&& (7 : Int32))), .val (.int ((1 : Int32) + (2 : Int32)))]) rfl ?_
    show Steps p.tables e below (s₁.setTop (mkF m 70 #[.val (.int (((8 : Int32) ^^^ (-1 : Int32)) &&& (7 : Int32))), .val (.int ((1 : Int32) + (2 : Int32)))] [])) _
    refine XS.iloadN X0.here hx rfl (hb hby d8_70) rfl ?_
    show Steps p.tables e below (s₁.setTop (mkF m 71 #[.val (.int (((8 : Int32) ^^^ (-1 : Int32)) &&& (7 : Int32))), .val (.int ((1 : Int32) + (2 : Int32)))] [(.int (((8 : Int32) ^^^ (-1 : Int32)) &&& (7 : Int32)))])) _
    refine XS.iconst X0.here hx rfl (hb hby d8_71) ?_
    show Steps p.tables e below (s₁.setTop (mkF m 72 #[.val (.int (((8 : Int32) ^^^ (-1 : Int32)) &&& (7 : Int32))), .val (.int ((1 : Int32) + (2 : Int32)))] [(.int (2 : Int32)), (.int (((8 : Int32) ^^^ (-1 : Int32)) &&& (7 : Int32)))])) _
    refine XS.iushr X0.here hx rfl (hb hby d8_72) rfl ?_
    show Steps p.tables e below (s₁.setTop (mkF m 73 #[.val (.int (((8 : Int32) ^^^ (-1 : Int32)) &&& (7 : Int32))), .val (.int ((1 : Int32) + (2 : Int32)))] [(.int (((((8 : Int32) ^^^ (-1 : Int32)) &&& (7 : Int32)).toUInt32 >>> ((2 : Int32) &&& 31).toUInt32).toInt32))])) _
    refine XS.istoreN X0.here hx rfl (hb hby d8_73) rfl (l' := #[.val (.int (((((8 : Int32) ^^^ (-1 : Int32)) &&& (7 : Int32)).toUInt32 >>> ((2 : Int32) &&& 31).toUInt32).toInt32)), .val (.int ((1 : Int32) + (2 : Int32)))]) rfl ?_
    show Steps p.tables e below (s₁.setTop (mkF m 74 #[.val (.int (((((8 : Int32) ^^^ (-1 : Int32)) &&& (7 : Int32)).toUInt32 >>> ((2 : Int32) &&& 31).toUInt32).toInt32)), .val (.int ((1 : Int32) + (2 : Int32)))] [])) _
    refine XS.iloadN X0.here hx rfl (hb hby d8_74) rfl ?_
    show Steps p.tables e below (s₁.setTop (mkF m 75 #[.val (.int (((((8 : Int32) ^^^ (-1 : Int32)) &&& (7 : Int32)).toUInt32 >>> ((2 : Int32) &&& 31).toUInt32).toInt32)), .val (.int ((1 : Int32) + (2 : Int32)))] [(.int ((1 : Int32) + (2 : Int32)))])) _
    refine XS.iloadN X0.here hx rfl (hb hby d8_75) rfl ?_
    show Steps p.tables e below (s₁.setTop (mkF m 76 #[.val (.int (((((8 : Int32) ^^^ (-1 : Int32)) &&& (7 : Int32)).toUInt32 >>> ((2 : Int32) &&& 31).toUInt32).toInt32)), .val (.int ((1 : Int32) + (2 : Int32)))] [(.int (((((8 : Int32) ^^^ (-1 : Int32)) &&& (7 : Int32)).toUInt32 >>> ((2 : Int32) &&& 31).toUInt32).toInt32)), (.int ((1 : Int32) + (2 : Int32)))])) _
    refine XS.iconst X0.here hx rfl (hb hby d8_76) ?_
    show Steps p.tables e below (s₁.setTop (mkF m 77 #[.val (.int (((((8 : Int32) ^^^ (-1 : Int32)) &&& (7 : Int32)).toUInt32 >>> ((2 : Int32) &&& 31).toUInt32).toInt32)), .val (.int ((1 : Int32) + (2 : Int32)))] [(.int (1 : Int32)), (.int (((((8 : Int32) ^^^ (-1 : Int32)) &&& (7 : Int32)).toUInt32 >>> ((2 : Int32) &&& 31).toUInt32).toInt32)), (.int ((1 : Int32) + (2 : Int32)))])) _
    refine XS.iushr X0.here hx rfl (hb hby d8_77) rfl ?_
    show Steps p.tables e below (s₁.setTop (mkF m 78 #[.val (.int (((((8 : Int32) ^^^ (-1 : Int32)) &&& (7 : Int32)).toUInt32 >>> ((2 : Int32) &&& 31).toUInt32).toInt32)), .val (.int ((1 : Int32) + (2 : Int32)))] [(.int (((((((8 : Int32) ^^^ (-1 : Int32)) &&& (7 : Int32)).toUInt32 >>> ((2 : Int32) &&& 31).toUInt32).toInt32).toUInt32 >>> ((1 : Int32) &&& 31).toUInt32).toInt32)), (.int ((1 : Int32) + (2 : Int32)))])) _
    refine XS.iadd X0.here hx rfl (hb hby d8_78) rfl ?_
    show Steps p.tables e below (s₁.setTop (mkF m 79 #[.val (.int (((((8 : Int32) ^^^ (-1 : Int32)) &&& (7 : Int32)).toUInt32 >>> ((2 : Int32) &&& 31).toUInt32).toInt32)), .val (.int ((1 : Int32) + (2 : Int32)))] [(.int (((1 : Int32) + (2 : Int32)) + (((((((8 : Int32) ^^^ (-1 : Int32)) &&& (7 : Int32)).toUInt32 >>> ((2 : Int32) &&& 31).toUInt32).toInt32).toUInt32 >>> ((1 : Int32) &&& 31).toUInt32).toInt32)))])) _
    exact retI X0 hx Bd.returns (hb hby d8_79) hr
  · show Q8_k3 Z  h0 n0 _ s₁.heap _
    rw [e0]
    exact ⟨(congrArg (fun z => some (Value.int z)) (by decide : (((1 : Int32) + (2 : Int32)) + (((((((8 : Int32) ^^^ (-1 : Int32)) &&& (7 : Int32)).toUInt32 >>> ((2 : Int32) &&& 31).toUInt32).toInt32).toUInt32 >>> ((1 : Int32) &&& 31).toUInt32).toInt32)) = (3 : Int32))), N0, rfl⟩
theorem ef_8_k4 (m : MethodId)  : entryFrame m #[(.int (16 : Int32))] 2 = mkF m 0 #[.val (.int (16 : Int32)), .unset] [] := by first | (simp [entryFrame, mkF, argsToLocals, Value.category]; done) | rfl
def Q8_k4 (Z : State)  (h0 : Heap) (n0 : Nat) (v : Option Value) (h : Heap) (L : List Loc) : Prop := v = some (.int (4 : Int32)) ∧ Fr n0 L ∧ h = h0
set_option maxRecDepth 65536 in
set_option maxHeartbeats 40000000 in
theorem rm8_k4 (l : Launch) (Z : State) (a0 : Array Value) (hw : ∀ d ∈ tables_1, d.before a0 Z = true) (ws : List Jvm.Cond)  (h0 : Heap) (n0 : Nat) (Z0 : n0 ≤ h0.size) :
    MetFree l (⟨"java/lang/Integer", "numberOfTrailingZeros", "(I)I"⟩ : MethodName) (head1 (Jvm.Cond.code (⟨"java/lang/Integer", "numberOfTrailingZeros", "(I)I"⟩ : MethodName) jdk_33_method_48_code 2 (some .int) :: ws) ({ frames := 0, cells := 0, slots := 0, locals := 0 } : Room)) (fun a U => a = #[(.int (16 : Int32))] ∧ Z.Warmed39 U.vm ∧ U.heap = h0) (fun _ _ _ _ _ => True) (fun _ U o U' => ∃ v L, o = .returned v ∧ Q8_k4 Z  h0 n0 v U'.heap L ∧ FrameEnd U o U' L ({ frames := 0, cells := 0, slots := 0, locals := 0 } : Room).cells ({ frames := 0, cells := 0, slots := 0, locals := 0 } : Room).slots) := by
  refine MetFree.of_bodySF (plainFor_of_name pn_java_lang_Integer) hisR ?_
  intro p e s m args below meth c s₁ Bd hml0 hP hK
  obtain ⟨rfl, hZ, hh⟩ := hP
  have hx := Bd.exec
  have hby := Bd.bytes
  have hml : c.maxLocals = 2 := hml0
  have hown : s.vm.findClass "java/lang/Integer" = some m.cls := findClass_of_methodNamed Bd.named
  have hnm := (name_of_methodNamed Bd.named Bd.method).1
  have X0 : Stand p l e ({ frames := 0, cells := 0, slots := 0, locals := 0 } : Room) s m #[(.int (16 : Int32))] below meth c s₁ [] 0 0 := Stand.of_body Bd
  have e0 : s₁.heap = h0 := by rw [← hh, Bd.state]; rfl
  have N0 := Fr.nil n0
  have pre0 : ∀ t, Steps p.tables e below (s₁.setTop (mkF m 0 #[.val (.int (16 : Int32)), .unset] [])) t → Steps p.tables e below (s₁.setTop (entryFrame m #[(.int (16 : Int32))] 2)) t := fun t k => castTop (ef_8_k4 m ) k
  obtain ⟨fs, hr, hrun, hended, hW, hsame⟩ := X0.leave (v := some (.int (((1 : Int32) + (2 : Int32)) + (((((((16 : Int32) ^^^ (-1 : Int32)) &&& (15 : Int32)).toUInt32 >>> ((2 : Int32) &&& 31).toUInt32).toInt32).toUInt32 >>> ((1 : Int32) &&& 31).toUInt32).toInt32)))) (fun h => by rw [Bd.returns] at h; cases h)
  refine ⟨_, _, pre0 _ ?_, hrun, hended, _, _, rfl, ?_, ⟨_, rfl⟩, hW, hsame.mono (by decide) (by decide)⟩
  · show Steps p.tables e below (s₁.setTop (mkF m 0 #[.val (.int (16 : Int32)), .unset] [])) _
    refine XS.iloadN X0.here hx rfl (hb hby d8_0) rfl ?_
    show Steps p.tables e below (s₁.setTop (mkF m 1 #[.val (.int (16 : Int32)), .unset] [(.int (16 : Int32))])) _
    refine XS.iconst X0.here hx rfl (hb hby d8_1) ?_
    show Steps p.tables e below (s₁.setTop (mkF m 2 #[.val (.int (16 : Int32)), .unset] [(.int (-1 : Int32)), (.int (16 : Int32))])) _
    refine XS.ixor X0.here hx rfl (hb hby d8_2) rfl ?_
    show Steps p.tables e below (s₁.setTop (mkF m 3 #[.val (.int (16 : Int32)), .unset] [(.int ((16 : Int32) ^^^ (-1 : Int32)))])) _
    refine XS.iloadN X0.here hx rfl (hb hby d8_3) rfl ?_
    show Steps p.tables e below (s₁.setTop (mkF m 4 #[.val (.int (16 : Int32)), .unset] [(.int (16 : Int32)), (.int ((16 : Int32) ^^^ (-1 : Int32)))])) _
    refine XS.iconst X0.here hx rfl (hb hby d8_4) ?_
    show Steps p.tables e below (s₁.setTop (mkF m 5 #[.val (.int (16 : Int32)), .unset] [(.int (1 : Int32)), (.int (16 : Int32)), (.int ((16 : Int32) ^^^ (-1 : Int32)))])) _
    refine XS.isub X0.here hx rfl (hb hby d8_5) rfl ?_
    show Steps p.tables e below (s₁.setTop (mkF m 6 #[.val (.int (16 : Int32)), .unset] [(.int (15 : Int32)), (.int ((16 : Int32) ^^^ (-1 : Int32)))])) _
    refine XS.iand X0.here hx rfl (hb hby d8_6) rfl ?_
    show Steps p.tables e below (s₁.setTop (mkF m 7 #[.val (.int (16 : Int32)), .unset] [(.int (((16 : Int32) ^^^ (-1 : Int32)) &&& (15 : Int32)))])) _
    refine XS.istoreN X0.here hx rfl (hb hby d8_7) rfl (l' := #[.val (.int (((16 : Int32) ^^^ (-1 : Int32)) &&& (15 : Int32))), .unset]) rfl ?_
    show Steps p.tables e below (s₁.setTop (mkF m 8 #[.val (.int (((16 : Int32) ^^^ (-1 : Int32)) &&& (15 : Int32))), .unset] [])) _
    refine XS.iloadN X0.here hx rfl (hb hby d8_8) rfl ?_
    show Steps p.tables e below (s₁.setTop (mkF m 9 #[.val (.int (((16 : Int32) ^^^ (-1 : Int32)) &&& (15 : Int32))), .unset] [(.int (((16 : Int32) ^^^ (-1 : Int32)) &&& (15 : Int32)))])) _
    refine XS.ifYes X0.here hx rfl (pc0 := 9) (pc' := 17) rfl (hb hby d8_9) rfl ((if0 _ _).trans (tlt (by decide : (0 : Int32) < (((16 : Int32) ^^^ (-1 : Int32)) &&& (15 : Int32)))).2.2.1) (by decide) (by decide) ?_
    show Steps p.tables e below (s₁.setTop (mkF m 17 #[.val (.int (((16 : Int32) ^^^ (-1 : Int32)) &&& (15 : Int32))), .unset] [])) _
    refine XS.iconst X0.here hx rfl (hb hby d8_17) ?_
    show Steps p.tables e below (s₁.setTop (mkF m 18 #[.val (.int (((16 : Int32) ^^^ (-1 : Int32)) &&& (15 : Int32))), .unset] [(.int (1 : Int32))])) _
    refine XS.istoreN X0.here hx rfl (hb hby d8_18) rfl (l' := #[.val (.int (((16 : Int32) ^^^ (-1 : Int32)) &&& (15 : Int32))), .val (.int (1 : Int32))]) rfl ?_
    show Steps p.tables e below (s₁.setTop (mkF m 19 #[.val (.int (((16 : Int32) ^^^ (-1 : Int32)) &&& (15 : Int32))), .val (.int (1 : Int32))] [])) _
    refine XS.iloadN X0.here hx rfl (hb hby d8_19) rfl ?_
    show Steps p.tables e below (s₁.setTop (mkF m 20 #[.val (.int (((16 : Int32) ^^^ (-1 : Int32)) &&& (15 : Int32))), .val (.int (1 : Int32))] [(.int (((16 : Int32) ^^^ (-1 : Int32)) &&& (15 : Int32)))])) _
    refine X0.ldcwInt hx hown (mvT hZ (wd_76 hw)) (g := (mkF m 20 #[.val (.int (((16 : Int32) ^^^ (-1 : Int32)) &&& (15 : Int32))), .val (.int (1 : Int32))] [(.int (((16 : Int32) ^^^ (-1 : Int32)) &&& (15 : Int32)))])) rfl (hb hby d8_20) _ ?_
    show Steps p.tables e below (s₁.setTop (mkF m 23 #[.val (.int (((16 : Int32) ^^^ (-1 : Int32)) &&& (15 : Int32))), .val (.int (1 : Int32))] [(.int (65536 : Int32)), (.int (((16 : Int32) ^^^ (-1 : Int32)) &&& (15 : Int32)))])) _
    refine XS.icmpYes X0.here hx rfl (pc0 := 23) (pc' := 34) rfl (hb hby d8_23) rfl (flt (by decide : ¬ ((65536 : Int32) < (((16 : Int32) ^^^ (-1 : Int32)) &&& (15 : Int32))))).2.2.2 (by decide) (by decide) ?_
    show Steps p.tables e below (s₁.setTop (mkF m 34 #[.val (.int (((16 : Int32) ^^^ (-1 : Int32)) &&& (15 : Int32))), .val (.int (1 : Int32))] [])) _
    refine XS.iloadN X0.here hx rfl (hb hby d8_34) rfl ?_
    show Steps p.tables e below (s₁.setTop (mkF m 35 #[.val (.int (((16 : Int32) ^^^ (-1 : Int32)) &&& (15 : Int32))), .val (.int (1 : Int32))] [(.int (((16 : Int32) ^^^ (-1 : Int32)) &&& (15 : Int32)))])) _
    refine XS.sipush X0.here hx rfl (hb hby d8_35) ?_
    show Steps p.tables e below (s₁.setTop (mkF m 38 #[.val (.int (((16 : Int32) ^^^ (-1 : Int32)) &&& (15 : Int32))), .val (.int (1 : Int32))] [(.int (256 : Int32)), (.int (((16 : Int32) ^^^ (-1 : Int32)) &&& (15 : Int32)))])) _
    refine XS.icmpYes X0.here hx rfl (pc0 := 38) (pc' := 49) rfl (hb hby d8_38) rfl (flt (by decide : ¬ ((256 : Int32) < (((16 : Int32) ^^^ (-1 : Int32)) &&& (15 : Int32))))).2.2.2 (by decide) (by decide) ?_
    show Steps p.tables e below (s₁.setTop (mkF m 49 #[.val (.int (((16 : Int32) ^^^ (-1 : Int32)) &&& (15 : Int32))), .val (.int (1 : Int32))] [])) _
    refine XS.iloadN X0.here hx rfl (hb hby d8_49) rfl ?_
    show Steps p.tables e below (s₁.setTop (mkF m 50 #[.val (.int (((16 : Int32) ^^^ (-1 : Int32)) &&& (15 : Int32))), .val (.int (1 : Int32))] [(.int (((16 : Int32) ^^^ (-1 : Int32)) &&& (15 : Int32)))])) _
    refine XS.bipush X0.here hx rfl (hb hby d8_50) ?_
    show Steps p.tables e below (s₁.setTop (mkF m 52 #[.val (.int (((16 : Int32) ^^^ (-1 : Int32)) &&& (15 : Int32))), .val (.int (1 : Int32))] [(.int (16 : Int32)), (.int (((16 : Int32) ^^^ (-1 : Int32)) &&& (15 : Int32)))])) _
    refine XS.icmpYes X0.here hx rfl (pc0 := 52) (pc' := 62) rfl (hb hby d8_52) rfl (flt (by decide : ¬ ((16 : Int32) < (((16 : Int32) ^^^ (-1 : Int32)) &&& (15 : Int32))))).2.2.2 (by decide) (by decide) ?_
    show Steps p.tables e below (s₁.setTop (mkF m 62 #[.val (.int (((16 : Int32) ^^^ (-1 : Int32)) &&& (15 : Int32))), .val (.int (1 : Int32))] [])) _
    refine XS.iloadN X0.here hx rfl (hb hby d8_62) rfl ?_
    show Steps p.tables e below (s₁.setTop (mkF m 63 #[.val (.int (((16 : Int32) ^^^ (-1 : Int32)) &&& (15 : Int32))), .val (.int (1 : Int32))] [(.int (((16 : Int32) ^^^ (-1 : Int32)) &&& (15 : Int32)))])) _
    refine XS.iconst X0.here hx rfl (hb hby d8_63) ?_
    show Steps p.tables e below (s₁.setTop (mkF m 64 #[.val (.int (((16 : Int32) ^^^ (-1 : Int32)) &&& (15 : Int32))), .val (.int (1 : Int32))] [(.int (4 : Int32)), (.int (((16 : Int32) ^^^ (-1 : Int32)) &&& (15 : Int32)))])) _
    refine XS.icmpNo X0.here hx rfl (hb hby d8_64) rfl (tlt (by decide : (4 : Int32) < (((16 : Int32) ^^^ (-1 : Int32)) &&& (15 : Int32)))).2.2.2 ?_
    show Steps p.tables e below (s₁.setTop (mkF m 67 #[.val (.int (((16 : Int32) ^^^ (-1 : Int32)) &&& (15 : Int32))), .val (.int (1 : Int32))] [])) _
    refine XS.iinc X0.here hx rfl (hb hby d8_67) rfl (l' := #[.val (.int (((16 : Int32) ^^^ (-1 : Int32)) &&& (15 : Int32))), .val (.int ((1 : Int32) + (2 : Int32)))]) rfl ?_
    show Steps p.tables e below (s₁.setTop (mkF m 70 #[.val (.int (((16 : Int32) ^^^ (-1 : Int32)) &&& (15 : Int32))), .val (.int ((1 : Int32) + (2 : Int32)))] [])) _
    refine XS.iloadN X0.here hx rfl (hb hby d8_70) rfl ?_
    show Steps p.tables e below (s₁.setTop (mkF m 71 #[.val (.int (((16 : Int32) ^^^ (-1 : Int32)) &&& (15 : Int32))), .val (.int ((1 : Int32) + (2 : Int32)))] [(.int (((16 : Int32) ^^^ (-1 : Int32)) &&& (15 : Int32)))])) _
    refine XS.iconst X0.here hx rfl (hb hby d8_71) ?_
    show Steps p.tables e below (s₁.setTop (mkF m 72 #[.val (.int (((16 : Int32) ^^^ (-1 : Int32)) &&& (15 : Int32))), .val (.int ((1 : Int32) + (2 : Int32)))] [(.int (2 : Int32)), (.int (((16 : Int32) ^^^ (-1 : Int32)) &&& (15 : Int32)))])) _
    refine XS.iushr X0.here hx rfl (hb hby d8_72) rfl ?_
    show Steps p.tables e below (s₁.setTop (mkF m 73 #[.val (.int (((16 : Int32) ^^^ (-1 : Int32)) &&& (15 : Int32))), .val (.int ((1 : Int32) + (2 : Int32)))] [(.int (((((16 : Int32) ^^^ (-1 : Int32)) &&& (15 : Int32)).toUInt32 >>> ((2 : Int32) &&& 31).toUInt32).toInt32))])) _
    refine XS.istoreN X0.here hx rfl (hb hby d8_73) rfl (l' := #[.val (.int (((((16 : Int32) ^^^ (-1 : Int32)) &&& (15 : Int32)).toUInt32 >>> ((2 : Int32) &&& 31).toUInt32).toInt32)), .val (.int ((1 : Int32) + (2 : Int32)))]) rfl ?_
    show Steps p.tables e below (s₁.setTop (mkF m 74 #[.val (.int (((((16 : Int32) ^^^ (-1 : Int32)) &&& (15 : Int32)).toUInt32 >>> ((2 : Int32) &&& 31).toUInt32).toInt32)), .val (.int ((1 : Int32) + (2 : Int32)))] [])) _
    refine XS.iloadN X0.here hx rfl (hb hby d8_74) rfl ?_
    show Steps p.tables e below (s₁.setTop (mkF m 75 #[.val (.int (((((16 : Int32) ^^^ (-1 : Int32)) &&& (15 : Int32)).toUInt32 >>> ((2 : Int32) &&& 31).toUInt32).toInt32)), .val (.int ((1 : Int32) + (2 : Int32)))] [(.int ((1 : Int32) + (2 : Int32)))])) _
    refine XS.iloadN X0.here hx rfl (hb hby d8_75) rfl ?_
    show Steps p.tables e below (s₁.setTop (mkF m 76 #[.val (.int (((((16 : Int32) ^^^ (-1 : Int32)) &&& (15 : Int32)).toUInt32 >>> ((2 : Int32) &&& 31).toUInt32).toInt32)), .val (.int ((1 : Int32) + (2 : Int32)))] [(.int (((((16 : Int32) ^^^ (-1 : Int32)) &&& (15 : Int32)).toUInt32 >>> ((2 : Int32) &&& 31).toUInt32).toInt32)), (.int ((1 : Int32) + (2 : Int32)))])) _
    refine XS.iconst X0.here hx rfl (hb hby d8_76) ?_
    show Steps p.tables e below (s₁.setTop (mkF m 77 #[.val (.int (((((16 : Int32) ^^^ (-1 : Int32)) &&& (15 : Int32)).toUInt32 >>> ((2 : Int32) &&& 31).toUInt32).toInt32)), .val (.int ((1 : Int32) + (2 : Int32)))] [(.int (1 : Int32)), (.int (((((16 : Int32) ^^^ (-1 : Int32)) &&& (15 : Int32)).toUInt32 >>> ((2 : Int32) &&& 31).toUInt32).toInt32)), (.int ((1 : Int32) + (2 : Int32)))])) _
    refine XS.iushr X0.here hx rfl (hb hby d8_77) rfl ?_
    show Steps p.tables e below (s₁.setTop (mkF m 78 #[.val (.int (((((16 : Int32) ^^^ (-1 : Int32)) &&& (15 : Int32)).toUInt32 >>> ((2 : Int32) &&& 31).toUInt32).toInt32)), .val (.int ((1 : Int32) + (2 : Int32)))] [(.int (((((((16 : Int32) ^^^ (-1 : Int32)) &&& (15 : Int32)).toUInt32 >>> ((2 : Int32) &&& 31).toUInt32).toInt32).toUInt32 >>> ((1 : Int32) &&& 31).toUInt32).toInt32)), (.int ((1 : Int32) + (2 : Int32)))])) _
    refine XS.iadd X0.here hx rfl (hb hby d8_78) rfl ?_
    show Steps p.tables e below (s₁.setTop (mkF m 79 #[.val (.int (((((16 : Int32) ^^^ (-1 : Int32)) &&& (15 : Int32)).toUInt32 >>> ((2 : Int32) &&& 31).toUInt32).toInt32)), .val (.int ((1 : Int32) + (2 : Int32)))] [(.int (((1 : Int32) + (2 : Int32)) + (((((((16 : Int32) ^^^ (-1 : Int32)) &&& (15 : Int32)).toUInt32 >>> ((2 : Int32) &&& 31).toUInt32).toInt32).toUInt32 >>> ((1 : Int32) &&& 31).toUInt32).toInt32)))])) _
    exact retI X0 hx Bd.returns (hb hby d8_79) hr
  · show Q8_k4 Z  h0 n0 _ s₁.heap _
    rw [e0]
    exact ⟨(congrArg (fun z => some (Value.int z)) (by decide : (((1 : Int32) + (2 : Int32)) + (((((((16 : Int32) ^^^ (-1 : Int32)) &&& (15 : Int32)).toUInt32 >>> ((2 : Int32) &&& 31).toUInt32).toInt32).toUInt32 >>> ((1 : Int32) &&& 31).toUInt32).toInt32)) = (4 : Int32))), N0, rfl⟩
theorem d8_55 : decode jdk_33_method_48_code 55 = .ok (.iinc 1 4, 3) := by decide +kernel
theorem d8_58 : decode jdk_33_method_48_code 58 = .ok (.iload_n 0, 1) := by decide +kernel
theorem d8_59 : decode jdk_33_method_48_code 59 = .ok (.iconst 4, 1) := by decide +kernel
theorem d8_60 : decode jdk_33_method_48_code 60 = .ok (.iushr, 1) := by decide +kernel
theorem d8_61 : decode jdk_33_method_48_code 61 = .ok (.istore_n 0, 1) := by decide +kernel
theorem ef_8_k5 (m : MethodId)  : entryFrame m #[(.int (32 : Int32))] 2 = mkF m 0 #[.val (.int (32 : Int32)), .unset] [] := by first | (simp [entryFrame, mkF, argsToLocals, Value.category]; done) | rfl
def Q8_k5 (Z : State)  (h0 : Heap) (n0 : Nat) (v : Option Value) (h : Heap) (L : List Loc) : Prop := v = some (.int (5 : Int32)) ∧ Fr n0 L ∧ h = h0
set_option maxRecDepth 65536 in
set_option maxHeartbeats 40000000 in
theorem rm8_k5 (l : Launch) (Z : State) (a0 : Array Value) (hw : ∀ d ∈ tables_1, d.before a0 Z = true) (ws : List Jvm.Cond)  (h0 : Heap) (n0 : Nat) (Z0 : n0 ≤ h0.size) :
    MetFree l (⟨"java/lang/Integer", "numberOfTrailingZeros", "(I)I"⟩ : MethodName) (head1 (Jvm.Cond.code (⟨"java/lang/Integer", "numberOfTrailingZeros", "(I)I"⟩ : MethodName) jdk_33_method_48_code 2 (some .int) :: ws) ({ frames := 0, cells := 0, slots := 0, locals := 0 } : Room)) (fun a U => a = #[(.int (32 : Int32))] ∧ Z.Warmed39 U.vm ∧ U.heap = h0) (fun _ _ _ _ _ => True) (fun _ U o U' => ∃ v L, o = .returned v ∧ Q8_k5 Z  h0 n0 v U'.heap L ∧ FrameEnd U o U' L ({ frames := 0, cells := 0, slots := 0, locals := 0 } : Room).cells ({ frames := 0, cells := 0, slots := 0, locals := 0 } : Room).slots) := by
  refine MetFree.of_bodySF (plainFor_of_name pn_java_lang_Integer) hisR ?_
  intro p e s m args below meth c s₁ Bd hml0 hP hK
  obtain ⟨rfl, hZ, hh⟩ := hP
  have hx := Bd.exec
  have hby := Bd.bytes
  have hml : c.maxLocals = 2 := hml0
  have hown : s.vm.findClass "java/lang/Integer" = some m.cls := findClass_of_methodNamed Bd.named
  have hnm := (name_of_methodNamed Bd.named Bd.method).1
  have X0 : Stand p l e ({ frames := 0, cells := 0, slots := 0, locals := 0 } : Room) s m #[(.int (32 : Int32))] below meth c s₁ [] 0 0 := Stand.of_body Bd
  have e0 : s₁.heap = h0 := by rw [← hh, Bd.state]; rfl
  have N0 := Fr.nil n0
  have pre0 : ∀ t, Steps p.tables e below (s₁.setTop (mkF m 0 #[.val (.int (32 : Int32)), .unset] [])) t → Steps p.tables e below (s₁.setTop (entryFrame m #[(.int (32 : Int32))] 2)) t := fun t k => castTop (ef_8_k5 m ) k
  obtain ⟨fs, hr, hrun, hended, hW, hsame⟩ := X0.leave (v := some (.int (((1 : Int32) + (4 : Int32)) + (((((((32 : Int32) ^^^ (-1 : Int32)) &&& (31 : Int32)).toUInt32 >>> ((4 : Int32) &&& 31).toUInt32).toInt32).toUInt32 >>> ((1 : Int32) &&& 31).toUInt32).toInt32)))) (fun h => by rw [Bd.returns] at h; cases h)
  refine ⟨_, _, pre0 _ ?_, hrun, hended, _, _, rfl, ?_, ⟨_, rfl⟩, hW, hsame.mono (by decide) (by decide)⟩
  · show Steps p.tables e below (s₁.setTop (mkF m 0 #[.val (.int (32 : Int32)), .unset] [])) _
    refine XS.iloadN X0.here hx rfl (hb hby d8_0) rfl ?_
    show Steps p.tables e below (s₁.setTop (mkF m 1 #[.val (.int (32 : Int32)), .unset] [(.int (32 : Int32))])) _
    refine XS.iconst X0.here hx rfl (hb hby d8_1) ?_
    show Steps p.tables e below (s₁.setTop (mkF m 2 #[.val (.int (32 : Int32)), .unset] [(.int (-1 : Int32)), (.int (32 : Int32))])) _
    refine XS.ixor X0.here hx rfl (hb hby d8_2) rfl ?_
    show Steps p.tables e below (s₁.setTop (mkF m 3 #[.val (.int (32 : Int32)), .unset] [(.int ((32 : Int32) ^^^ (-1 : Int32)))])) _
    refine XS.iloadN X0.here hx rfl (hb hby d8_3) rfl ?_
    show Steps p.tables e below (s₁.setTop (mkF m 4 #[.val (.int (32 : Int32)), .unset] [(.int (32 : Int32)), (.int ((32 : Int32) ^^^ (-1 : Int32)))])) _
    refine XS.iconst X0.here hx rfl (hb hby d8_4) ?_
    show Steps p.tables e below (s₁.setTop (mkF m 5 #[.val (.int (32 : Int32)), .unset] [(.int (1 : Int32)), (.int (32 : Int32)), (.int ((32 : Int32) ^^^ (-1 : Int32)))])) _
    refine XS.isub X0.here hx rfl (hb hby d8_5) rfl ?_
    show Steps p.tables e below (s₁.setTop (mkF m 6 #[.val (.int (32 : Int32)), .unset] [(.int (31 : Int32)), (.int ((32 : Int32) ^^^ (-1 : Int32)))])) _
    refine XS.iand X0.here hx rfl (hb hby d8_6) rfl ?_
    show Steps p.tables e below (s₁.setTop (mkF m 7 #[.val (.int (32 : Int32)), .unset] [(.int (((32 : Int32) ^^^ (-1 : Int32)) &&& (31 : Int32)))])) _
    refine XS.istoreN X0.here hx rfl (hb hby d8_7) rfl (l' := #[.val (.int (((32 : Int32) ^^^ (-1 : Int32)) &&& (31 : Int32))), .unset]) rfl ?_
    show Steps p.tables e below (s₁.setTop (mkF m 8 #[.val (.int (((32 : Int32) ^^^ (-1 : Int32)) &&& (31 : Int32))), .unset] [])) _
    refine XS.iloadN X0.here hx rfl (hb hby d8_8) rfl ?_
    show Steps p.tables e below (s₁.setTop (mkF m 9 #[.val (.int (((32 : Int32) ^^^ (-1 : Int32)) &&& (31 : Int32))), .unset] [(.int (((32 : Int32) ^^^ (-1 : Int32)) &&& (31 : Int32)))])) _
    refine XS.ifYes X0.here hx rfl (pc0 := 9) (pc' := 17) rfl (hb hby d8_9) rfl ((if0 _ _).trans (tlt (by decide : (0 : Int32) < (((32 : Int32) ^^^ (-1 : Int32)) &&& (31 : Int32)))).2.2.1) (by decide) (by decide) ?_
    show Steps p.tables e below (s₁.setTop (mkF m 17 #[.val (.int (((32 : Int32) ^^^ (-1 : Int32)) &&& (31 : Int32))), .unset] [])) _
    refine XS.iconst X0.here hx rfl (hb hby d8_17) ?_
    show Steps p.tables e below (s₁.setTop (mkF m 18 #[.val (.int (((32 : Int32) ^^^ (-1 : Int32)) &&& (31 : Int32))), .unset] [(.int (1 : Int32))])) _
    refine XS.istoreN X0.here hx rfl (hb hby d8_18) rfl (l' := #[.val (.int (((32 : Int32) ^^^ (-1 : Int32)) &&& (31 : Int32))), .val (.int (1 : Int32))]) rfl ?_
    show Steps p.tables e below (s₁.setTop (mkF m 19 #[.val (.int (((32 : Int32) ^^^ (-1 : Int32)) &&& (31 : Int32))), .val (.int (1 : Int32))] [])) _
    refine XS.iloadN X0.here hx rfl (hb hby d8_19) rfl ?_
    show Steps p.tables e below (s₁.setTop (mkF m 20 #[.val (.int (((32 : Int32) ^^^ (-1 : Int32)) &&& (31 : Int32))), .val (.int (1 : Int32))] [(.int (((32 : Int32) ^^^ (-1 : Int32)) &&& (31 : Int32)))])) _
    refine X0.ldcwInt hx hown (mvT hZ (wd_76 hw)) (g := (mkF m 20 #[.val (.int (((32 : Int32) ^^^ (-1 : Int32)) &&& (31 : Int32))), .val (.int (1 : Int32))] [(.int (((32 : Int32) ^^^ (-1 : Int32)) &&& (31 : Int32)))])) rfl (hb hby d8_20) _ ?_
    show Steps p.tables e below (s₁.setTop (mkF m 23 #[.val (.int (((32 : Int32) ^^^ (-1 : Int32)) &&& (31 : Int32))), .val (.int (1 : Int32))] [(.int (65536 : Int32)), (.int (((32 : Int32) ^^^ (-1 : Int32)) &&& (31 : Int32)))])) _
    refine XS.icmpYes X0.here hx rfl (pc0 := 23) (pc' := 34) rfl (hb hby d8_23) rfl (flt (by decide : ¬ ((65536 : Int32) < (((32 : Int32) ^^^ (-1 : Int32)) &&& (31 : Int32))))).2.2.2 (by decide) (by decide) ?_
    show Steps p.tables e below (s₁.setTop (mkF m 34 #[.val (.int (((32 : Int32) ^^^ (-1 : Int32)) &&& (31 : Int32))), .val (.int (1 : Int32))] [])) _
    refine XS.iloadN X0.here hx rfl (hb hby d8_34) rfl ?_
    show Steps p.tables e below (s₁.setTop (mkF m 35 #[.val (.int (((32 : Int32) ^^^ (-1 : Int32)) &&& (31 : Int32))), .val (.int (1 : Int32))] [(.int (((32 : Int32) ^^^ (-1 : Int32)) &&& (31 : Int32)))])) _
    refine XS.sipush X0.here hx rfl (hb hby d8_35) ?_
    show Steps p.tables e below (s₁.setTop (mkF m 38 #[.val (.int (((32 : Int32) ^^^ (-1 : Int32)) &&& (31 : Int32))), .val (.int (1 : Int32))] [(.int (256 : Int32)), (.int (((32 : Int32) ^^^ (-1 : Int32)) &&& (31 : Int32)))])) _
    refine XS.icmpYes X0.here hx rfl (pc0 := 38) (pc' := 49) rfl (hb hby d8_38) rfl (flt (by decide : ¬ ((256 : Int32) < (((32 : Int32) ^^^ (-1 : Int32)) &&& (31 : Int32))))).2.2.2 (by decide) (by decide) ?_
    show Steps p.tables e below (s₁.setTop (mkF m 49 #[.val (.int (((32 : Int32) ^^^ (-1 : Int32)) &&& (31 : Int32))), .val (.int (1 : Int32))] [])) _
    refine XS.iloadN X0.here hx rfl (hb hby d8_49) rfl ?_
    show Steps p.tables e below (s₁.setTop (mkF m 50 #[.val (.int (((32 : Int32) ^^^ (-1 : Int32)) &&& (31 : Int32))), .val (.int (1 : Int32))] [(.int (((32 : Int32) ^^^ (-1 : Int32)) &&& (31 : Int32)))])) _
    refine XS.bipush X0.here hx rfl (hb hby d8_50) ?_
    show Steps p.tables e below (s₁.setTop (mkF m 52 #[.val (.int (((32 : Int32) ^^^ (-1 : Int32)) &&& (31 : Int32))), .val (.int (1 : Int32))] [(.int (16 : Int32)), (.int (((32 : Int32) ^^^ (-1 : Int32)) &&& (31 : Int32)))])) _
    refine XS.icmpNo X0.here hx rfl (hb hby d8_52) rfl (tlt (by decide : (16 : Int32) < (((32 : Int32) ^^^ (-1 : Int32)) &&& (31 : Int32)))).2.2.2 ?_
    show Steps p.tables e below (s₁.setTop (mkF m 55 #[.val (.int (((32 : Int32) ^^^ (-1 : Int32)) &&& (31 : Int32))), .val (.int (1 : Int32))] [])) _
    refine XS.iinc X0.here hx rfl (hb hby d8_55) rfl (l' := #[.val (.int (((32 : Int32) ^^^ (-1 : Int32)) &&& (31 : Int32))), .val (.int ((1 : Int32) + (4 : Int32)))]) rfl ?_
    show Steps p.tables e below (s₁.setTop (mkF m 58 #[.val (.int (((32 : Int32) ^^^ (-1 : Int32)) &&& (31 : Int32))), .val (.int ((1 : Int32) + (4 : Int32)))] [])) _
    refine XS.iloadN X0.here hx rfl (hb hby d8_58) rfl ?_
    show Steps p.tables e below (s₁.setTop (mkF m 59 #[.val (.int (((32 : Int32) ^^^ (-1 : Int32)) &&& (31 : Int32))), .val (.int ((1 : Int32) + (4 : Int32)))] [(.int (((32 : Int32) ^^^ (-1 : Int32)) &&& (31 : Int32)))])) _
    refine XS.iconst X0.here hx rfl (hb hby d8_59) ?_
    show Steps p.tables e below (s₁.setTop (mkF m 60 #[.val (.int (((32 : Int32) ^^^ (-1 : Int32)) &&& (31 : Int32))), .val (.int ((1 : Int32) + (4 : Int32)))] [(.int (4 : Int32)), (.int (((32 : Int32) ^^^ (-1 : Int32)) &&& (31 : Int32)))])) _
    refine XS.iushr X0.here hx rfl (hb hby d8_60) rfl ?_
    show Steps p.tables e below (s₁.setTop (mkF m 61 #[.val (.int (((32 : Int32) ^^^ (-1 : Int32)) &&& (31 : Int32))), .val (.int ((1 : Int32) + (4 : Int32)))] [(.int (((((32 : Int32) ^^^ (-1 : Int32)) &&& (31 : Int32)).toUInt32 >>> ((4 : Int32) &&& 31).toUInt32).toInt32))])) _
    refine XS.istoreN X0.here hx rfl (hb hby d8_61) rfl (l' := #[.val (.int (((((32 : Int32) ^^^ (-1 : Int32)) &&& (31 : Int32)).toUInt32 >>> ((4 : Int32) &&& 31).toUInt32).toInt32)), .val (.int ((1 : Int32) + (4 : Int32)))]) rfl ?_
    show Steps p.tables e below (s₁.setTop (mkF m 62 #[.val (.int (((((32 : Int32) ^^^ (-1 : Int32)) &&& (31 : Int32)).toUInt32 >>> ((4 : Int32) &&& 31).toUInt32).toInt32)), .val (.int ((1 : Int32) + (4 : Int32)))] [])) _
    refine XS.iloadN X0.here hx rfl (hb hby d8_62) rfl ?_
    show Steps p.tables e below (s₁.setTop (mkF m 63 #[.val (.int (((((32 : Int32) ^^^ (-1 : Int32)) &&& (31 : Int32)).toUInt32 >>> ((4 : Int32) &&& 31).toUInt32).toInt32)), .val (.int ((1 : Int32) + (4 : Int32)))] [(.int (((((32 : Int32) ^^^ (-1 : Int32)) &&& (31 : Int32)).toUInt32 >>> ((4 : Int32) &&& 31).toUInt32).toInt32))])) _
    refine XS.iconst X0.here hx rfl (hb hby d8_63) ?_
    show Steps p.tables e below (s₁.setTop (mkF m 64 #[.val (.int (((((32 : Int32) ^^^ (-1 : Int32)) &&& (31 : Int32)).toUInt32 >>> ((4 : Int32) &&& 31).toUInt32).toInt32)), .val (.int ((1 : Int32) + (4 : Int32)))] [(.int (4 : Int32)), (.int (((((32 : Int32) ^^^ (-1 : Int32)) &&& (31 : Int32)).toUInt32 >>> ((4 : Int32) &&& 31).toUInt32).toInt32))])) _
    refine XS.icmpYes X0.here hx rfl (pc0 := 64) (pc' := 74) rfl (hb hby d8_64) rfl (flt (by decide : ¬ ((4 : Int32) < (((((32 : Int32) ^^^ (-1 : Int32)) &&& (31 : Int32)).toUInt32 >>> ((4 : Int32) &&& 31).toUInt32).toInt32)))).2.2.2 (by decide) (by decide) ?_
    show Steps p.tables e below (s₁.setTop (mkF m 74 #[.val (.int (((((32 : Int32) ^^^ (-1 : Int32)) &&& (31 : Int32)).toUInt32 >>> ((4 : Int32) &&& 31).toUInt32).toInt32)), .val (.int ((1 : Int32) + (4 : Int32)))] [])) _
    refine XS.iloadN X0.here hx rfl (hb hby d8_74) rfl ?_
    show Steps p.tables e below (s₁.setTop (mkF m 75 #[.val (.int (((((32 : Int32) ^^^ (-1 : Int32)) &&& (31 : Int32)).toUInt32 >>> ((4 : Int32) &&& 31).toUInt32).toInt32)), .val (.int ((1 : Int32) + (4 : Int32)))] [(.int ((1 : Int32) + (4 : Int32)))])) _
    refine XS.iloadN X0.here hx rfl (hb hby d8_75) rfl ?_
    show Steps p.tables e below (s₁.setTop (mkF m 76 #[.val (.int (((((32 : Int32) ^^^ (-1 : Int32)) &&& (31 : Int32)).toUInt32 >>> ((4 : Int32) &&& 31).toUInt32).toInt32)), .val (.int ((1 : Int32) + (4 : Int32)))] [(.int (((((32 : Int32) ^^^ (-1 : Int32)) &&& (31 : Int32)).toUInt32 >>> ((4 : Int32) &&& 31).toUInt32).toInt32)), (.int ((1 : Int32) + (4 : Int32)))])) _
    refine XS.iconst X0.here hx rfl (hb hby d8_76) ?_
    show Steps p.tables e below (s₁.setTop (mkF m 77 #[.val (.int (((((32 : Int32) ^^^ (-1 : Int32)) &&& (31 : Int32)).toUInt32 >>> ((4 : Int32) &&& 31).toUInt32).toInt32)), .val (.int ((1 : Int32) + (4 : Int32)))] [(.int (1 : Int32)), (.int (((((32 : Int32) ^^^ (-1 : Int32)) &&& (31 : Int32)).toUInt32 >>> ((4 : Int32) &&& 31).toUInt32).toInt32)), (.int ((1 : Int32) + (4 : Int32)))])) _
    refine XS.iushr X0.here hx rfl (hb hby d8_77) rfl ?_
    show Steps p.tables e below (s₁.setTop (mkF m 78 #[.val (.int (((((32 : Int32) ^^^ (-1 : Int32)) &&& (31 : Int32)).toUInt32 >>> ((4 : Int32) &&& 31).toUInt32).toInt32)), .val (.int ((1 : Int32) + (4 : Int32)))] [(.int (((((((32 : Int32) ^^^ (-1 : Int32)) &&& (31 : Int32)).toUInt32 >>> ((4 : Int32) &&& 31).toUInt32).toInt32).toUInt32 >>> ((1 : Int32) &&& 31).toUInt32).toInt32)), (.int ((1 : Int32) + (4 : Int32)))])) _
    refine XS.iadd X0.here hx rfl (hb hby d8_78) rfl ?_
    show Steps p.tables e below (s₁.setTop (mkF m 79 #[.val (.int (((((32 : Int32) ^^^ (-1 : Int32)) &&& (31 : Int32)).toUInt32 >>> ((4 : Int32) &&& 31).toUInt32).toInt32)), .val (.int ((1 : Int32) + (4 : Int32)))] [(.int (((1 : Int32) + (4 : Int32)) + (((((((32 : Int32) ^^^ (-1 : Int32)) &&& (31 : Int32)).toUInt32 >>> ((4 : Int32) &&& 31).toUInt32).toInt32).toUInt32 >>> ((1 : Int32) &&& 31).toUInt32).toInt32)))])) _
    exact retI X0 hx Bd.returns (hb hby d8_79) hr
  · show Q8_k5 Z  h0 n0 _ s₁.heap _
    rw [e0]
    exact ⟨(congrArg (fun z => some (Value.int z)) (by decide : (((1 : Int32) + (4 : Int32)) + (((((((32 : Int32) ^^^ (-1 : Int32)) &&& (31 : Int32)).toUInt32 >>> ((4 : Int32) &&& 31).toUInt32).toInt32).toUInt32 >>> ((1 : Int32) &&& 31).toUInt32).toInt32)) = (5 : Int32))), N0, rfl⟩
theorem ef_8_k6 (m : MethodId)  : entryFrame m #[(.int (64 : Int32))] 2 = mkF m 0 #[.val (.int (64 : Int32)), .unset] [] := by first | (simp [entryFrame, mkF, argsToLocals, Value.category]; done) | rfl
def Q8_k6 (Z : State)  (h0 : Heap) (n0 : Nat) (v : Option Value) (h : Heap) (L : List Loc) : Prop := v = some (.int (6 : Int32)) ∧ Fr n0 L ∧ h = h0
set_option maxRecDepth 65536 in
set_option maxHeartbeats 40000000 in
theorem rm8_k6 (l : Launch) (Z : State) (a0 : Array Value) (hw : ∀ d ∈ tables_1, d.before a0 Z = true) (ws : List Jvm.Cond)  (h0 : Heap) (n0 : Nat) (Z0 : n0 ≤ h0.size) :
    MetFree l (⟨"java/lang/Integer", "numberOfTrailingZeros", "(I)I"⟩ : MethodName) (head1 (Jvm.Cond.code (⟨"java/lang/Integer", "numberOfTrailingZeros", "(I)I"⟩ : MethodName) jdk_33_method_48_code 2 (some .int) :: ws) ({ frames := 0, cells := 0, slots := 0, locals := 0 } : Room)) (fun a U => a = #[(.int (64 : Int32))] ∧ Z.Warmed39 U.vm ∧ U.heap = h0) (fun _ _ _ _ _ => True) (fun _ U o U' => ∃ v L, o = .returned v ∧ Q8_k6 Z  h0 n0 v U'.heap L ∧ FrameEnd U o U' L ({ frames := 0, cells := 0, slots := 0, locals := 0 } : Room).cells ({ frames := 0, cells := 0, slots := 0, locals := 0 } : Room).slots) := by
  refine MetFree.of_bodySF (plainFor_of_name pn_java_lang_Integer) hisR ?_
  intro p e s m args below meth c s₁ Bd hml0 hP hK
  obtain ⟨rfl, hZ, hh⟩ := hP
  have hx := Bd.exec
  have hby := Bd.bytes
  have hml : c.maxLocals = 2 := hml0
  have hown : s.vm.findClass "java/lang/Integer" = some m.cls := findClass_of_methodNamed Bd.named
  have hnm := (name_of_methodNamed Bd.named Bd.method).1
  have X0 : Stand p l e ({ frames := 0, cells := 0, slots := 0, locals := 0 } : Room) s m #[(.int (64 : Int32))] below meth c s₁ [] 0 0 := Stand.of_body Bd
  have e0 : s₁.heap = h0 := by rw [← hh, Bd.state]; rfl
  have N0 := Fr.nil n0
  have pre0 : ∀ t, Steps p.tables e below (s₁.setTop (mkF m 0 #[.val (.int (64 : Int32)), .unset] [])) t → Steps p.tables e below (s₁.setTop (entryFrame m #[(.int (64 : Int32))] 2)) t := fun t k => castTop (ef_8_k6 m ) k
  obtain ⟨fs, hr, hrun, hended, hW, hsame⟩ := X0.leave (v := some (.int (((1 : Int32) + (4 : Int32)) + (((((((64 : Int32) ^^^ (-1 : Int32)) &&& (63 : Int32)).toUInt32 >>> ((4 : Int32) &&& 31).toUInt32).toInt32).toUInt32 >>> ((1 : Int32) &&& 31).toUInt32).toInt32)))) (fun h => by rw [Bd.returns] at h; cases h)
  refine ⟨_, _, pre0 _ ?_, hrun, hended, _, _, rfl, ?_, ⟨_, rfl⟩, hW, hsame.mono (by decide) (by decide)⟩
  · show Steps p.tables e below (s₁.setTop (mkF m 0 #[.val (.int (64 : Int32)), .unset] [])) _
    refine XS.iloadN X0.here hx rfl (hb hby d8_0) rfl ?_
    show Steps p.tables e below (s₁.setTop (mkF m 1 #[.val (.int (64 : Int32)), .unset] [(.int (64 : Int32))])) _
    refine XS.iconst X0.here hx rfl (hb hby d8_1) ?_
    show Steps p.tables e below (s₁.setTop (mkF m 2 #[.val (.int (64 : Int32)), .unset] [(.int (-1 : Int32)), (.int (64 : Int32))])) _
    refine XS.ixor X0.here hx rfl (hb hby d8_2) rfl ?_
    show Steps p.tables e below (s₁.setTop (mkF m 3 #[.val (.int (64 : Int32)), .unset] [(.int ((64 : Int32) ^^^ (-1 : Int32)))])) _
    refine XS.iloadN X0.here hx rfl (hb hby d8_3) rfl ?_
    show Steps p.tables e below (s₁.setTop (mkF m 4 #[.val (.int (64 : Int32)), .unset] [(.int (64 : Int32)), (.int ((64 : Int32) ^^^ (-1 : Int32)))])) _
    refine XS.iconst X0.here hx rfl (hb hby d8_4) ?_
    show Steps p.tables e below (s₁.setTop (mkF m 5 #[.val (.int (64 : Int32)), .unset] [(.int (1 : Int32)), (.int (64 : Int32)), (.int ((64 : Int32) ^^^ (-1 : Int32)))])) _
    refine XS.isub X0.here hx rfl (hb hby d8_5) rfl ?_
    show Steps p.tables e below (s₁.setTop (mkF m 6 #[.val (.int (64 : Int32)), .unset] [(.int (63 : Int32)), (.int ((64 : Int32) ^^^ (-1 : Int32)))])) _
    refine XS.iand X0.here hx rfl (hb hby d8_6) rfl ?_
    show Steps p.tables e below (s₁.setTop (mkF m 7 #[.val (.int (64 : Int32)), .unset] [(.int (((64 : Int32) ^^^ (-1 : Int32)) &&& (63 : Int32)))])) _
    refine XS.istoreN X0.here hx rfl (hb hby d8_7) rfl (l' := #[.val (.int (((64 : Int32) ^^^ (-1 : Int32)) &&& (63 : Int32))), .unset]) rfl ?_
    show Steps p.tables e below (s₁.setTop (mkF m 8 #[.val (.int (((64 : Int32) ^^^ (-1 : Int32)) &&& (63 : Int32))), .unset] [])) _
    refine XS.iloadN X0.here hx rfl (hb hby d8_8) rfl ?_
    show Steps p.tables e below (s₁.setTop (mkF m 9 #[.val (.int (((64 : Int32) ^^^ (-1 : Int32)) &&& (63 : Int32))), .unset] [(.int (((64 : Int32) ^^^ (-1 : Int32)) &&& (63 : Int32)))])) _
    refine XS.ifYes X0.here hx rfl (pc0 := 9) (pc' := 17) rfl (hb hby d8_9) rfl ((if0 _ _).trans (tlt (by decide : (0 : Int32) < (((64 : Int32) ^^^ (-1 : Int32)) &&& (63 : Int32)))).2.2.1) (by decide) (by decide) ?_
    show Steps p.tables e below (s₁.setTop (mkF m 17 #[.val (.int (((64 : Int32) ^^^ (-1 : Int32)) &&& (63 : Int32))), .unset] [])) _
    refine XS.iconst X0.here hx rfl (hb hby d8_17) ?_
    show Steps p.tables e below (s₁.setTop (mkF m 18 #[.val (.int (((64 : Int32) ^^^ (-1 : Int32)) &&& (63 : Int32))), .unset] [(.int (1 : Int32))])) _
    refine XS.istoreN X0.here hx rfl (hb hby d8_18) rfl (l' := #[.val (.int (((64 : Int32) ^^^ (-1 : Int32)) &&& (63 : Int32))), .val (.int (1 : Int32))]) rfl ?_
    show Steps p.tables e below (s₁.setTop (mkF m 19 #[.val (.int (((64 : Int32) ^^^ (-1 : Int32)) &&& (63 : Int32))), .val (.int (1 : Int32))] [])) _
    refine XS.iloadN X0.here hx rfl (hb hby d8_19) rfl ?_
    show Steps p.tables e below (s₁.setTop (mkF m 20 #[.val (.int (((64 : Int32) ^^^ (-1 : Int32)) &&& (63 : Int32))), .val (.int (1 : Int32))] [(.int (((64 : Int32) ^^^ (-1 : Int32)) &&& (63 : Int32)))])) _
    refine X0.ldcwInt hx hown (mvT hZ (wd_76 hw)) (g := (mkF m 20 #[.val (.int (((64 : Int32) ^^^ (-1 : Int32)) &&& (63 : Int32))), .val (.int (1 : Int32))] [(.int (((64 : Int32) ^^^ (-1 : Int32)) &&& (63 : Int32)))])) rfl (hb hby d8_20) _ ?_
    show Steps p.tables e below (s₁.setTop (mkF m 23 #[.val (.int (((64 : Int32) ^^^ (-1 : Int32)) &&& (63 : Int32))), .val (.int (1 : Int32))] [(.int (65536 : Int32)), (.int (((64 : Int32) ^^^ (-1 : Int32)) &&& (63 : Int32)))])) _
    refine XS.icmpYes X0.here hx rfl (pc0 := 23) (pc' := 34) rfl (hb hby d8_23) rfl (flt (by decide : ¬ ((65536 : Int32) < (((64 : Int32) ^^^ (-1 : Int32)) &&& (63 : Int32))))).2.2.2 (by decide) (by decide) ?_
    show Steps p.tables e below (s₁.setTop (mkF m 34 #[.val (.int (((64 : Int32) ^^^ (-1 : Int32)) &&& (63 : Int32))), .val (.int (1 : Int32))] [])) _
    refine XS.iloadN X0.here hx rfl (hb hby d8_34) rfl ?_
    show Steps p.tables e below (s₁.setTop (mkF m 35 #[.val (.int (((64 : Int32) ^^^ (-1 : Int32)) &&& (63 : Int32))), .val (.int (1 : Int32))] [(.int (((64 : Int32) ^^^ (-1 : Int32)) &&& (63 : Int32)))])) _
    refine XS.sipush X0.here hx rfl (hb hby d8_35) ?_
    show Steps p.tables e below (s₁.setTop (mkF m 38 #[.val (.int (((64 : Int32) ^^^ (-1 : Int32)) &&& (63 : Int32))), .val (.int (1 : Int32))] [(.int (256 : Int32)), (.int (((64 : Int32) ^^^ (-1 : Int32)) &&& (63 : Int32)))])) _
    refine XS.icmpYes X0.here hx rfl (pc0 := 38) (pc' := 49) rfl (hb hby d8_38) rfl (flt (by decide : ¬ ((256 : Int32) < (((64 : Int32) ^^^ (-1 : Int32)) &&& (63 : Int32))))).2.2.2 (by decide) (by decide) ?_
    show Steps p.tables e below (s₁.setTop (mkF m 49 #[.val (.int (((64 : Int32) ^^^ (-1 : Int32)) &&& (63 : Int32))), .val (.int (1 : Int32))] [])) _
    refine XS.iloadN X0.here hx rfl (hb hby d8_49) rfl ?_
    show Steps p.tables e below (s₁.setTop (mkF m 50 #[.val (.int (((64 : Int32) ^^^ (-1 : Int32)) &&& (63 : Int32))), .val (.int (1 : Int32))] [(.int (((64 : Int32) ^^^ (-1 : Int32)) &&& (63 : Int32)))])) _
    refine XS.bipush X0.here hx rfl (hb hby d8_50) ?_
    show Steps p.tables e below (s₁.setTop (mkF m 52 #[.val (.int (((64 : Int32) ^^^ (-1 : Int32)) &&& (63 : Int32))), .val (.int (1 : Int32))] [(.int (16 : Int32)), (.int (((64 : Int32) ^^^ (-1 : Int32)) &&& (63 : Int32)))])) _
    refine XS.icmpNo X0.here hx rfl (hb hby d8_52) rfl (tlt (by decide : (16 : Int32) < (((64 : Int32) ^^^ (-1 : Int32)) &&& (63 : Int32)))).2.2.2 ?_
    show Steps p.tables e below (s₁.setTop (mkF m 55 #[.val (.int (((64 : Int32) ^^^ (-1 : Int32)) &&& (63 : Int32))), .val (.int (1 : Int32))] [])) _
    refine XS.iinc X0.here hx rfl (hb hby d8_55) rfl (l' := #[.val (.int (((64 : Int32) ^^^ (-1 : Int32)) &&& (63 : Int32))), .val (.int ((1 : Int32) + (4 : Int32)))]) rfl ?_
    show Steps p.tables e below (s₁.setTop (mkF m 58 #[.val (.int (((64 : Int32) ^^^ (-1 : Int32)) &&& (63 : Int32))), .val (.int ((1 : Int32) + (4 : Int32)))] [])) _
    refine XS.iloadN X0.here hx rfl (hb hby d8_58) rfl ?_
    show Steps p.tables e below (s₁.setTop (mkF m 59 #[.val (.int (((64 : Int32) ^^^ (-1 : Int32)) &&& (63 : Int32))), .val (.int ((1 : Int32) + (4 : Int32)))] [(.int (((64 : Int32) ^^^ (-1 : Int32)) &&& (63 : Int32)))])) _
    refine XS.iconst X0.here hx rfl (hb hby d8_59) ?_
    show Steps p.tables e below (s₁.setTop (mkF m 60 #[.val (.int (((64 : Int32) ^^^ (-1 : Int32)) &&& (63 : Int32))), .val (.int ((1 : Int32) + (4 : Int32)))] [(.int (4 : Int32)), (.int (((64 : Int32) ^^^ (-1 : Int32)) &&& (63 : Int32)))])) _
    refine XS.iushr X0.here hx rfl (hb hby d8_60) rfl ?_
    show Steps p.tables e below (s₁.setTop (mkF m 61 #[.val (.int (((64 : Int32) ^^^ (-1 : Int32)) &&& (63 : Int32))), .val (.int ((1 : Int32) + (4 : Int32)))] [(.int (((((64 : Int32) ^^^ (-1 : Int32)) &&& (63 : Int32)).toUInt32 >>> ((4 : Int32) &&& 31).toUInt32).toInt32))])) _
    refine XS.istoreN X0.here hx rfl (hb hby d8_61) rfl (l' := #[.val (.int (((((64 : Int32) ^^^ (-1 : Int32)) &&& (63 : Int32)).toUInt32 >>> ((4 : Int32) &&& 31).toUInt32).toInt32)), .val (.int ((1 : Int32) + (4 : Int32)))]) rfl ?_
    show Steps p.tables e below (s₁.setTop (mkF m 62 #[.val (.int (((((64 : Int32) ^^^ (-1 : Int32)) &&& (63 : Int32)).toUInt32 >>> ((4 : Int32) &&& 31).toUInt32).toInt32)), .val (.int ((1 : Int32) + (4 : Int32)))] [])) _
    refine XS.iloadN X0.here hx rfl (hb hby d8_62) rfl ?_
    show Steps p.tables e below (s₁.setTop (mkF m 63 #[.val (.int (((((64 : Int32) ^^^ (-1 : Int32)) &&& (63 : Int32)).toUInt32 >>> ((4 : Int32) &&& 31).toUInt32).toInt32)), .val (.int ((1 : Int32) + (4 : Int32)))] [(.int (((((64 : Int32) ^^^ (-1 : Int32)) &&& (63 : Int32)).toUInt32 >>> ((4 : Int32) &&& 31).toUInt32).toInt32))])) _
    refine XS.iconst X0.here hx rfl (hb hby d8_63) ?_
    show Steps p.tables e below (s₁.setTop (mkF m 64 #[.val (.int (((((64 : Int32) ^^^ (-1 : Int32)) &&& (63 : Int32)).toUInt32 >>> ((4 : Int32) &&& 31).toUInt32).toInt32)), .val (.int ((1 : Int32) + (4 : Int32)))] [(.int (4 : Int32)), (.int (((((64 : Int32) ^^^ (-1 : Int32)) &&& (63 : Int32)).toUInt32 >>> ((4 : Int32) &&& 31).toUInt32).toInt32))])) _
    refine XS.icmpYes X0.here hx rfl (pc0 := 64) (pc' := 74) rfl (hb hby d8_64) rfl (flt (by decide : ¬ ((4 : Int32) < (((((64 : Int32) ^^^ (-1 : Int32)) &&& (63 : Int32)).toUInt32 >>> ((4 : Int32) &&& 31).toUInt32).toInt32)))).2.2.2 (by decide) (by decide) ?_
    show Steps p.tables e below (s₁.setTop (mkF m 74 #[.val (.int (((((64 : Int32) ^^^ (-1 : Int32)) &&& (63 : Int32)).toUInt32 >>> ((4 : Int32) &&& 31).toUInt32).toInt32)), .val (.int ((1 : Int32) + (4 : Int32)))] [])) _
    refine XS.iloadN X0.here hx rfl (hb hby d8_74) rfl ?_
    show Steps p.tables e below (s₁.setTop (mkF m 75 #[.val (.int (((((64 : Int32) ^^^ (-1 : Int32)) &&& (63 : Int32)).toUInt32 >>> ((4 : Int32) &&& 31).toUInt32).toInt32)), .val (.int ((1 : Int32) + (4 : Int32)))] [(.int ((1 : Int32) + (4 : Int32)))])) _
    refine XS.iloadN X0.here hx rfl (hb hby d8_75) rfl ?_
    show Steps p.tables e below (s₁.setTop (mkF m 76 #[.val (.int (((((64 : Int32) ^^^ (-1 : Int32)) &&& (63 : Int32)).toUInt32 >>> ((4 : Int32) &&& 31).toUInt32).toInt32)), .val (.int ((1 : Int32) + (4 : Int32)))] [(.int (((((64 : Int32) ^^^ (-1 : Int32)) &&& (63 : Int32)).toUInt32 >>> ((4 : Int32) &&& 31).toUInt32).toInt32)), (.int ((1 : Int32) + (4 : Int32)))])) _
    refine XS.iconst X0.here hx rfl (hb hby d8_76) ?_
    show Steps p.tables e below (s₁.setTop (mkF m 77 #[.val (.int (((((64 : Int32) ^^^ (-1 : Int32)) &&& (63 : Int32)).toUInt32 >>> ((4 : Int32) &&& 31).toUInt32).toInt32)), .val (.int ((1 : Int32) + (4 : Int32)))] [(.int (1 : Int32)), (.int (((((64 : Int32) ^^^ (-1 : Int32)) &&& (63 : Int32)).toUInt32 >>> ((4 : Int32) &&& 31).toUInt32).toInt32)), (.int ((1 : Int32) + (4 : Int32)))])) _
    refine XS.iushr X0.here hx rfl (hb hby d8_77) rfl ?_
    show Steps p.tables e below (s₁.setTop (mkF m 78 #[.val (.int (((((64 : Int32) ^^^ (-1 : Int32)) &&& (63 : Int32)).toUInt32 >>> ((4 : Int32) &&& 31).toUInt32).toInt32)), .val (.int ((1 : Int32) + (4 : Int32)))] [(.int (((((((64 : Int32) ^^^ (-1 : Int32)) &&& (63 : Int32)).toUInt32 >>> ((4 : Int32) &&& 31).toUInt32).toInt32).toUInt32 >>> ((1 : Int32) &&& 31).toUInt32).toInt32)), (.int ((1 : Int32) + (4 : Int32)))])) _
    refine XS.iadd X0.here hx rfl (hb hby d8_78) rfl ?_
    show Steps p.tables e below (s₁.setTop (mkF m 79 #[.val (.int (((((64 : Int32) ^^^ (-1 : Int32)) &&& (63 : Int32)).toUInt32 >>> ((4 : Int32) &&& 31).toUInt32).toInt32)), .val (.int ((1 : Int32) + (4 : Int32)))] [(.int (((1 : Int32) + (4 : Int32)) + (((((((64 : Int32) ^^^ (-1 : Int32)) &&& (63 : Int32)).toUInt32 >>> ((4 : Int32) &&& 31).toUInt32).toInt32).toUInt32 >>> ((1 : Int32) &&& 31).toUInt32).toInt32)))])) _
    exact retI X0 hx Bd.returns (hb hby d8_79) hr
  · show Q8_k6 Z  h0 n0 _ s₁.heap _
    rw [e0]
    exact ⟨(congrArg (fun z => some (Value.int z)) (by decide : (((1 : Int32) + (4 : Int32)) + (((((((64 : Int32) ^^^ (-1 : Int32)) &&& (63 : Int32)).toUInt32 >>> ((4 : Int32) &&& 31).toUInt32).toInt32).toUInt32 >>> ((1 : Int32) &&& 31).toUInt32).toInt32)) = (6 : Int32))), N0, rfl⟩
theorem ef_8_k7 (m : MethodId)  : entryFrame m #[(.int (128 : Int32))] 2 = mkF m 0 #[.val (.int (128 : Int32)), .unset] [] := by first | (simp [entryFrame, mkF, argsToLocals, Value.category]; done) | rfl
def Q8_k7 (Z : State)  (h0 : Heap) (n0 : Nat) (v : Option Value) (h : Heap) (L : List Loc) : Prop := v = some (.int (7 : Int32)) ∧ Fr n0 L ∧ h = h0
set_option maxRecDepth 65536 in
set_option maxHeartbeats 40000000 in
theorem rm8_k7 (l : Launch) (Z : State) (a0 : Array Value) (hw : ∀ d ∈ tables_1, d.before a0 Z = true) (ws : List Jvm.Cond)  (h0 : Heap) (n0 : Nat) (Z0 : n0 ≤ h0.size) :
    MetFree l (⟨"java/lang/Integer", "numberOfTrailingZeros", "(I)I"⟩ : MethodName) (head1 (Jvm.Cond.code (⟨"java/lang/Integer", "numberOfTrailingZeros", "(I)I"⟩ : MethodName) jdk_33_method_48_code 2 (some .int) :: ws) ({ frames := 0, cells := 0, slots := 0, locals := 0 } : Room)) (fun a U => a = #[(.int (128 : Int32))] ∧ Z.Warmed39 U.vm ∧ U.heap = h0) (fun _ _ _ _ _ => True) (fun _ U o U' => ∃ v L, o = .returned v ∧ Q8_k7 Z  h0 n0 v U'.heap L ∧ FrameEnd U o U' L ({ frames := 0, cells := 0, slots := 0, locals := 0 } : Room).cells ({ frames := 0, cells := 0, slots := 0, locals := 0 } : Room).slots) := by
  refine MetFree.of_bodySF (plainFor_of_name pn_java_lang_Integer) hisR ?_
  intro p e s m args below meth c s₁ Bd hml0 hP hK
  obtain ⟨rfl, hZ, hh⟩ := hP
  have hx := Bd.exec
  have hby := Bd.bytes
  have hml : c.maxLocals = 2 := hml0
  have hown : s.vm.findClass "java/lang/Integer" = some m.cls := findClass_of_methodNamed Bd.named
  have hnm := (name_of_methodNamed Bd.named Bd.method).1
  have X0 : Stand p l e ({ frames := 0, cells := 0, slots := 0, locals := 0 } : Room) s m #[(.int (128 : Int32))] below meth c s₁ [] 0 0 := Stand.of_body Bd
  have e0 : s₁.heap = h0 := by rw [← hh, Bd.state]; rfl
  have N0 := Fr.nil n0
  have pre0 : ∀ t, Steps p.tables e below (s₁.setTop (mkF m 0 #[.val (.int (128 : Int32)), .unset] [])) t → Steps p.tables e below (s₁.setTop (entryFrame m #[(.int (128 : Int32))] 2)) t := fun t k => castTop (ef_8_k7 m ) k
  obtain ⟨fs, hr, hrun, hended, hW, hsame⟩ := X0.leave (v := some (.int ((((1 : Int32) + (4 : Int32)) + (2 : Int32)) + (((((((((128 : Int32) ^^^ (-1 : Int32)) &&& (127 : Int32)).toUInt32 >>> ((4 : Int32) &&& 31).toUInt32).toInt32).toUInt32 >>> ((2 : Int32) &&& 31).toUInt32).toInt32).toUInt32 >>> ((1 : Int32) &&& 31).toUInt32).toInt32)))) (fun h => by rw [Bd.returns] at h; cases h)
  refine ⟨_, _, pre0 _ ?_, hrun, hended, _, _, rfl, ?_, ⟨_, rfl⟩, hW, hsame.mono (by decide) (by decide)⟩
  · show Steps p.tables e below (s₁.setTop (mkF m 0 #[.val (.int (128 : Int32)), .unset] [])) _
    refine XS.iloadN X0.here hx rfl (hb hby d8_0) rfl ?_
    show Steps p.tables e below (s₁.setTop (mkF m 1 #[.val (.int (128 : Int32)), .unset] [(.int (128 : Int32))])) _
    refine XS.iconst X0.here hx rfl (hb hby d8_1) ?_
    show Steps p.tables e below (s₁.setTop (mkF m 2 #[.val (.int (128 : Int32)), .unset] [(.int (-1 : Int32)), (.int (128 : Int32))])) _
    refine XS.ixor X0.here hx rfl (hb hby d8_2) rfl ?_
    show Steps p.tables e below (s₁.setTop (mkF m 3 #[.val (.int (128 : Int32)), .unset] [(.int ((128 : Int32) ^^^ (-1 : Int32)))])) _
    refine XS.iloadN X0.here hx rfl (hb hby d8_3) rfl ?_
    show Steps p.tables e below (s₁.setTop (mkF m 4 #[.val (.int (128 : Int32)), .unset] [(.int (128 : Int32)), (.int ((128 : Int32) ^^^ (-1 : Int32)))])) _
    refine XS.iconst X0.here hx rfl (hb hby d8_4) ?_
    show Steps p.tables e below (s₁.setTop (mkF m 5 #[.val (.int (128 : Int32)), .unset] [(.int (1 : Int32)), (.int (128 : Int32)), (.int ((128 : Int32) ^^^ (-1 : Int32)))])) _
    refine XS.isub X0.here hx rfl (hb hby d8_5) rfl ?_
    show Steps p.tables e below (s₁.setTop (mkF m 6 #[.val (.int (128 : Int32)), .unset] [(.int (127 : Int32)), (.int ((128 : Int32) ^^^ (-1 : Int32)))])) _
    refine XS.iand X0.here hx rfl (hb hby d8_6) rfl ?_
    show Steps p.tables e below (s₁.setTop (mkF m 7 #[.val (.int (128 : Int32)), .unset] [(.int (((128 : Int32) ^^^ (-1 : Int32)) &&& (127 : Int32)))])) _
    refine XS.istoreN X0.here hx rfl (hb hby d8_7) rfl (l' := #[.val (.int (((128 : Int32) ^^^ (-1 : Int32)) &&& (127 : Int32))), .unset]) rfl ?_
    show Steps p.tables e below (s₁.setTop (mkF m 8 #[.val (.int (((128 : Int32) ^^^ (-1 : Int32)) &&& (127 : Int32))), .unset] [])) _
    refine XS.iloadN X0.here hx rfl (hb hby d8_8) rfl ?_
    show Steps p.tables e below (s₁.setTop (mkF m 9 #[.val (.int (((128 : Int32) ^^^ (-1 : Int32)) &&& (127 : Int32))), .unset] [(.int (((128 : Int32) ^^^ (-1 : Int32)) &&& (127 : Int32)))])) _
    refine XS.ifYes X0.here hx rfl (pc0 := 9) (pc' := 17) rfl (hb hby d8_9) rfl ((if0 _ _).trans (tlt (by decide : (0 : Int32) < (((128 : Int32) ^^^ (-1 : Int32)) &&& (127 : Int32)))).2.2.1) (by decide) (by decide) ?_
    show Steps p.tables e below (s₁.setTop (mkF m 17 #[.val (.int (((128 : Int32) ^^^ (-1 : Int32)) &&& (127 : Int32))), .unset] [])) _
    refine XS.iconst X0.here hx rfl (hb hby d8_17) ?_
    show Steps p.tables e below (s₁.setTop (mkF m 18 #[.val (.int (((128 : Int32) ^^^ (-1 : Int32)) &&& (127 : Int32))), .unset] [(.int (1 : Int32))])) _
    refine XS.istoreN X0.here hx rfl (hb hby d8_18) rfl (l' := #[.val (.int (((128 : Int32) ^^^ (-1 : Int32)) &&& (127 : Int32))), .val (.int (1 : Int32))]) rfl ?_
    show Steps p.tables e below (s₁.setTop (mkF m 19 #[.val (.int (((128 : Int32) ^^^ (-1 : Int32)) &&& (127 : Int32))), .val (.int (1 : Int32))] [])) _
    refine XS.iloadN X0.here hx rfl (hb hby d8_19) rfl ?_
    show Steps p.tables e below (s₁.setTop (mkF m 20 #[.val (.int (((128 : Int32) ^^^ (-1 : Int32)) &&& (127 : Int32))), .val (.int (1 : Int32))] [(.int (((128 : Int32) ^^^ (-1 : Int32)) &&& (127 : Int32)))])) _
    refine X0.ldcwInt hx hown (mvT hZ (wd_76 hw)) (g := (mkF m 20 #[.val (.int (((128 : Int32) ^^^ (-1 : Int32)) &&& (127 : Int32))), .val (.int (1 : Int32))] [(.int (((128 : Int32) ^^^ (-1 : Int32)) &&& (127 : Int32)))])) rfl (hb hby d8_20) _ ?_
    show Steps p.tables e below (s₁.setTop (mkF m 23 #[.val (.int (((128 : Int32) ^^^ (-1 : Int32)) &&& (127 : Int32))), .val (.int (1 : Int32))] [(.int (65536 : Int32)), (.int (((128 : Int32) ^^^ (-1 : Int32)) &&& (127 : Int32)))])) _
    refine XS.icmpYes X0.here hx rfl (pc0 := 23) (pc' := 34) rfl (hb hby d8_23) rfl (flt (by decide : ¬ ((65536 : Int32) < (((128 : Int32) ^^^ (-1 : Int32)) &&& (127 : Int32))))).2.2.2 (by decide) (by decide) ?_
    show Steps p.tables e below (s₁.setTop (mkF m 34 #[.val (.int (((128 : Int32) ^^^ (-1 : Int32)) &&& (127 : Int32))), .val (.int (1 : Int32))] [])) _
    refine XS.iloadN X0.here hx rfl (hb hby d8_34) rfl ?_
    show Steps p.tables e below (s₁.setTop (mkF m 35 #[.val (.int (((128 : Int32) ^^^ (-1 : Int32)) &&& (127 : Int32))), .val (.int (1 : Int32))] [(.int (((128 : Int32) ^^^ (-1 : Int32)) &&& (127 : Int32)))])) _
    refine XS.sipush X0.here hx rfl (hb hby d8_35) ?_
    show Steps p.tables e below (s₁.setTop (mkF m 38 #[.val (.int (((128 : Int32) ^^^ (-1 : Int32)) &&& (127 : Int32))), .val (.int (1 : Int32))] [(.int (256 : Int32)), (.int (((128 : Int32) ^^^ (-1 : Int32)) &&& (127 : Int32)))])) _
    refine XS.icmpYes X0.here hx rfl (pc0 := 38) (pc' := 49) rfl (hb hby d8_38) rfl (flt (by decide : ¬ ((256 : Int32) < (((128 : Int32) ^^^ (-1 : Int32)) &&& (127 : Int32))))).2.2.2 (by decide) (by decide) ?_
    show Steps p.tables e below (s₁.setTop (mkF m 49 #[.val (.int (((128 : Int32) ^^^ (-1 : Int32)) &&& (127 : Int32))), .val (.int (1 : Int32))] [])) _
    refine XS.iloadN X0.here hx rfl (hb hby d8_49) rfl ?_
    show Steps p.tables e below (s₁.setTop (mkF m 50 #[.val (.int (((128 : Int32) ^^^ (-1 : Int32)) &&& (127 : Int32))), .val (.int (1 : Int32))] [(.int (((128 : Int32) ^^^ (-1 : Int32)) &&& (127 : Int32)))])) _
    refine XS.bipush X0.here hx rfl (hb hby d8_50) ?_
    show Steps p.tables e below (s₁.setTop (mkF m 52 #[.val (.int (((128 : Int32) ^^^ (-1 : Int32)) &&& (127 : Int32))), .val (.int (1 : Int32))] [(.int (16 : Int32)), (.int (((128 : Int32) ^^^ (-1 : Int32)) &&& (127 : Int32)))])) _
    refine XS.icmpNo X0.here hx rfl (hb hby d8_52) rfl (tlt (by decide : (16 : Int32) < (((128 : Int32) ^^^ (-1 : Int32)) &&& (127 : Int32)))).2.2.2 ?_
    show Steps p.tables e below (s₁.setTop (mkF m 55 #[.val (.int (((128 : Int32) ^^^ (-1 : Int32)) &&& (127 : Int32))), .val (.int (1 : Int32))] [])) _
    refine XS.iinc X0.here hx rfl (hb hby d8_55) rfl (l' := #[.val (.int (((128 : Int32) ^^^ (-1 : Int32)) &&& (127 : Int32))), .val (.int ((1 : Int32) + (4 : Int32)))]) rfl ?_
    show Steps p.tables e below (s₁.setTop (mkF m 58 #[.val (.int (((128 : Int32) ^^^ (-1 : Int32)) &&& (127 : Int32))), .val (.int ((1 : Int32) + (4 : Int32)))] [])) _
    refine XS.iloadN X0.here hx rfl (hb hby d8_58) rfl ?_
    show Steps p.tables e below (s₁.setTop (mkF m 59 #[.val (.int (((128 : Int32) ^^^ (-1 : Int32)) &&& (127 : Int32))), .val (.int ((1 : Int32) + (4 : Int32)))] [(.int (((128 : Int32) ^^^ (-1 : Int32)) &&& (127 : Int32)))])) _
    refine XS.iconst X0.here hx rfl (hb hby d8_59) ?_
    show Steps p.tables e below (s₁.setTop (mkF m 60 #[.val (.int (((128 : Int32) ^^^ (-1 : Int32)) &&& (127 : Int32))), .val (.int ((1 : Int32) + (4 : Int32)))] [(.int (4 : Int32)), (.int (((128 : Int32) ^^^ (-1 : Int32)) &&& (127 : Int32)))])) _
    refine XS.iushr X0.here hx rfl (hb hby d8_60) rfl ?_
    show Steps p.tables e below (s₁.setTop (mkF m 61 #[.val (.int (((128 : Int32) ^^^ (-1 : Int32)) &&& (127 : Int32))), .val (.int ((1 : Int32) + (4 : Int32)))] [(.int (((((128 : Int32) ^^^ (-1 : Int32)) &&& (127 : Int32)).toUInt32 >>> ((4 : Int32) &&& 31).toUInt32).toInt32))])) _
    refine XS.istoreN X0.here hx rfl (hb hby d8_61) rfl (l' := #[.val (.int (((((128 : Int32) ^^^ (-1 : Int32)) &&& (127 : Int32)).toUInt32 >>> ((4 : Int32) &&& 31).toUInt32).toInt32)), .val (.int ((1 : Int32) + (4 : Int32)))]) rfl ?_
    show Steps p.tables e below (s₁.setTop (mkF m 62 #[.val (.int (((((128 : Int32) ^^^ (-1 : Int32)) &&& (127 : Int32)).toUInt32 >>> ((4 : Int32) &&& 31).toUInt32).toInt32)), .val (.int ((1 : Int32) + (4 : Int32)))] [])) _
    refine XS.iloadN X0.here hx rfl (hb hby d8_62) rfl ?_
    show Steps p.tables e below (s₁.setTop (mkF m 63 #[.val (.int (((((128 : Int32) ^^^ (-1 : Int32)) &&& (127 : Int32)).toUInt32 >>> ((4 : Int32) &&& 31).toUInt32).toInt32)), .val (.int ((1 : Int32) + (4 : Int32)))] [(.int (((((128 : Int32) ^^^ (-1 : Int32)) &&& (127 : Int32)).toUInt32 >>> ((4 : Int32) &&& 31).toUInt32).toInt32))])) _
    refine XS.iconst X0.here hx rfl (hb hby d8_63) ?_
    show Steps p.tables e below (s₁.setTop (mkF m 64 #[.val (.int (((((128 : Int32) ^^^ (-1 : Int32)) &&& (127 : Int32)).toUInt32 >>> ((4 : Int32) &&& 31).toUInt32).toInt32)), .val (.int ((1 : Int32) + (4 : Int32)))] [(.int (4 : Int32)), (.int (((((128 : Int32) ^^^ (-1 : Int32)) &&& (127 : Int32)).toUInt32 >>> ((4 : Int32) &&& 31).toUInt32).toInt32))])) _
    refine XS.icmpNo X0.here hx rfl (hb hby d8_64) rfl (tlt (by decide : (4 : Int32) < (((((128 : Int32) ^^^ (-1 : Int32)) &&& (127 : Int32)).toUInt32 >>> ((4 : Int32) &&& 31).toUInt32).toInt32))).2.2.2 ?_
    show Steps p.tables e below (s₁.setTop (mkF m 67 #[.val (.int (((((128 : Int32) ^^^ (-1 : Int32)) &&& (127 : Int32)).toUInt32 >>> ((4 : Int32) &&& 31).toUInt32).toInt32)), .val (.int ((1 : Int32) + (4 : Int32)))] [])) _
    refine XS.iinc X0.here hx rfl (hb hby d8_67) rfl (l' := #[.val (.int (((((128 : Int32) ^^^ (-1 : Int32)) &&& (127 : Int32)).toUInt32 >>> ((4 : Int32) &&& 31).toUInt32).toInt32)), .val (.int (((1 : Int32) + (4 : Int32)) + (2 : Int32)))]) rfl ?_
    show Steps p.tables e below (s₁.setTop (mkF m 70 #[.val (.int (((((128 : Int32) ^^^ (-1 : Int32)) &&& (127 : Int32)).toUInt32 >>> ((4 : Int32) &&& 31).toUInt32).toInt32)), .val (.int (((1 : Int32) + (4 : Int32)) + (2 : Int32)))] [])) _
    refine XS.iloadN X0.here hx rfl (hb hby d8_70) rfl ?_
    show Steps p.tables e below (s₁.setTop (mkF m 71 #[.val (.int (((((128 : Int32) ^^^ (-1 : Int32)) &&& (127 : Int32)).toUInt32 >>> ((4 : Int32) &&& 31).toUInt32).toInt32)), .val (.int (((1 : Int32) + (4 : Int32)) + (2 : Int32)))] [(.int (((((128 : Int32) ^^^ (-1 : Int32)) &&& (127 : Int32)).toUInt32 >>> ((4 : Int32) &&& 31).toUInt32).toInt32))])) _
    refine XS.iconst X0.here hx rfl (hb hby d8_71) ?_
    show Steps p.tables e below (s₁.setTop (mkF m 72 #[.val (.int (((((128 : Int32) ^^^ (-1 : Int32)) &&& (127 : Int32)).toUInt32 >>> ((4 : Int32) &&& 31).toUInt32).toInt32)), .val (.int (((1 : Int32) + (4 : Int32)) + (2 : Int32)))] [(.int (2 : Int32)), (.int (((((128 : Int32) ^^^ (-1 : Int32)) &&& (127 : Int32)).toUInt32 >>> ((4 : Int32) &&& 31).toUInt32).toInt32))])) _
    refine XS.iushr X0.here hx rfl (hb hby d8_72) rfl ?_
    show Steps p.tables e below (s₁.setTop (mkF m 73 #[.val (.int (((((128 : Int32) ^^^ (-1 : Int32)) &&& (127 : Int32)).toUInt32 >>> ((4 : Int32) &&& 31).toUInt32).toInt32)), .val (.int (((1 : Int32) + (4 : Int32)) + (2 : Int32)))] [(.int (((((((128 : Int32) ^^^ (-1 : Int32)) &&& (127 : Int32)).toUInt32 >>> ((4 : Int32) &&& 31).toUInt32).toInt32).toUInt32 >>> ((2 : Int32) &&& 31).toUInt32).toInt32))])) _
    refine XS.istoreN X0.here hx rfl (hb hby d8_73) rfl (l' := #[.val (.int (((((((128 : Int32) ^^^ (-1 : Int32)) &&& (127 : Int32)).toUInt32 >>> ((4 : Int32) &&& 31).toUInt32).toInt32).toUInt32 >>> ((2 : Int32) &&& 31).toUInt32).toInt32)), .val (.int (((1 : Int32) + (4 : Int32)) + (2 : Int32)))]) rfl ?_
    show Steps p.tables e below (s₁.setTop (mkF m 74 #[.val (.int (((((((128 : Int32) ^^^ (-1 : Int32)) &&& (127 : Int32)).toUInt32 >>> ((4 : Int32) &&& 31).toUInt32).toInt32).toUInt32 >>> ((2 : Int32) &&& 31).toUInt32).toInt32)), .val (.int (((1 : Int32) + (4 : Int32)) + (2 : Int32)))] [])) _
    refine XS.iloadN X0.here hx rfl (hb hby d8_74) rfl ?_
    show Steps p.tables e below (s₁.setTop (mkF m 75 #[.val (.int (((((((128 : Int32) ^^^ (-1 : Int32)) &&& (127 : Int32)).toUInt32 >>> ((4 : Int32) &&& 31).toUInt32).toInt32).toUInt32 >>> ((2 : Int32) &&& 31).toUInt32).toInt32)), .val (.int (((1 : Int32) + (4 : Int32)) + (2 : Int32)))] [(.int (((1 : Int32) + (4 : Int32)) + (2 : Int32)))])) _
    refine XS.iloadN X0.here hx rfl (hb hby d8_75) rfl ?_
    show Steps p.tables e below (s₁.setTop (mkF m 76 #[.val (.int (((((((128 : Int32) ^^^ (-1 : Int32)) &&& (127 : Int32)).toUInt32 >>> ((4 : Int32) &&& 31).toUInt32).toInt32).toUInt32 >>> ((2 : Int32) &&& 31).toUInt32).toInt32)), .val (.int (((1 : Int32) + (4 : Int32)) + (2 : Int32)))] [(.int (((((((128 : Int32) ^^^ (-1 : Int32)) &&& (127 : Int32)).toUInt32 >>> ((4 : Int32) &&& 31).toUInt32).toInt32).toUInt32 >>> ((2 : Int32) &&& 31).toUInt32).toInt32)), (.int (((1 : Int32) + (4 : Int32)) + (2 : Int32)))])) _
    refine XS.iconst X0.here hx rfl (hb hby d8_76) ?_
    show Steps p.tables e below (s₁.setTop (mkF m 77 #[.val (.int (((((((128 : Int32) ^^^ (-1 : Int32)) &&& (127 : Int32)).toUInt32 >>> ((4 : Int32) &&& 31).toUInt32).toInt32).toUInt32 >>> ((2 : Int32) &&& 31).toUInt32).toInt32)), .val (.int (((1 : Int32) + (4 : Int32)) + (2 : Int32)))] [(.int (1 : Int32)), (.int (((((((128 : Int32) ^^^ (-1 : Int32)) &&& (127 : Int32)).toUInt32 >>> ((4 : Int32) &&& 31).toUInt32).toInt32).toUInt32 >>> ((2 : Int32) &&& 31).toUInt32).toInt32)), (.int (((1 : Int32) + (4 : Int32)) + (2 : Int32)))])) _
    refine XS.iushr X0.here hx rfl (hb hby d8_77) rfl ?_
    show Steps p.tables e below (s₁.setTop (mkF m 78 #[.val (.int (((((((128 : Int32) ^^^ (-1 : Int32)) &&& (127 : Int32)).toUInt32 >>> ((4 : Int32) &&& 31).toUInt32).toInt32).toUInt32 >>> ((2 : Int32) &&& 31).toUInt32).toInt32)), .val (.int (((1 : Int32) + (4 : Int32)) + (2 : Int32)))] [(.int (((((((((128 : Int32) ^^^ (-1 : Int32)) &&& (127 : Int32)).toUInt32 >>> ((4 : Int32) &&& 31).toUInt32).toInt32).toUInt32 >>> ((2 : Int32) &&& 31).toUInt32).toInt32).toUInt32 >>> ((1 : Int32) &&& 31).toUInt32).toInt32)), (.int (((1 : Int32) + (4 : Int32)) + (2 : Int32)))])) _
    refine XS.iadd X0.here hx rfl (hb hby d8_78) rfl ?_
    show Steps p.tables e below (s₁.setTop (mkF m 79 #[.val (.int (((((((128 : Int32) ^^^ (-1 : Int32)) &&& (127 : Int32)).toUInt32 >>> ((4 : Int32) &&& 31).toUInt32).toInt32).toUInt32 >>> ((2 : Int32) &&& 31).toUInt32).toInt32)), .val (.int (((1 : Int32) + (4 : Int32)) + (2 : Int32)))] [(.int ((((1 : Int32) + (4 : Int32)) + (2 : Int32)) + (((((((((128 : Int32) ^^^ (-1 : Int32)) &&& (127 : Int32)).toUInt32 >>> ((4 : Int32) &&& 31).toUInt32).toInt32).toUInt32 >>> ((2 : Int32) &&& 31).toUInt32).toInt32).toUInt32 >>> ((1 : Int32) &&& 31).toUInt32).toInt32)))])) _
    exact retI X0 hx Bd.returns (hb hby d8_79) hr
  · show Q8_k7 Z  h0 n0 _ s₁.heap _
    rw [e0]
    exact ⟨(congrArg (fun z => some (Value.int z)) (by decide : ((((1 : Int32) + (4 : Int32)) + (2 : Int32)) + (((((((((128 : Int32) ^^^ (-1 : Int32)) &&& (127 : Int32)).toUInt32 >>> ((4 : Int32) &&& 31).toUInt32).toInt32).toUInt32 >>> ((2 : Int32) &&& 31).toUInt32).toInt32).toUInt32 >>> ((1 : Int32) &&& 31).toUInt32).toInt32)) = (7 : Int32))), N0, rfl⟩
theorem ef_8_k8 (m : MethodId)  : entryFrame m #[(.int (256 : Int32))] 2 = mkF m 0 #[.val (.int (256 : Int32)), .unset] [] := by first | (simp [entryFrame, mkF, argsToLocals, Value.category]; done) | rfl
def Q8_k8 (Z : State)  (h0 : Heap) (n0 : Nat) (v : Option Value) (h : Heap) (L : List Loc) : Prop := v = some (.int (8 : Int32)) ∧ Fr n0 L ∧ h = h0
set_option maxRecDepth 65536 in
set_option maxHeartbeats 40000000 in
theorem rm8_k8 (l : Launch) (Z : State) (a0 : Array Value) (hw : ∀ d ∈ tables_1, d.before a0 Z = true) (ws : List Jvm.Cond)  (h0 : Heap) (n0 : Nat) (Z0 : n0 ≤ h0.size) :
    MetFree l (⟨"java/lang/Integer", "numberOfTrailingZeros", "(I)I"⟩ : MethodName) (head1 (Jvm.Cond.code (⟨"java/lang/Integer", "numberOfTrailingZeros", "(I)I"⟩ : MethodName) jdk_33_method_48_code 2 (some .int) :: ws) ({ frames := 0, cells := 0, slots := 0, locals := 0 } : Room)) (fun a U => a = #[(.int (256 : Int32))] ∧ Z.Warmed39 U.vm ∧ U.heap = h0) (fun _ _ _ _ _ => True) (fun _ U o U' => ∃ v L, o = .returned v ∧ Q8_k8 Z  h0 n0 v U'.heap L ∧ FrameEnd U o U' L ({ frames := 0, cells := 0, slots := 0, locals := 0 } : Room).cells ({ frames := 0, cells := 0, slots := 0, locals := 0 } : Room).slots) := by
  refine MetFree.of_bodySF (plainFor_of_name pn_java_lang_Integer) hisR ?_
  intro p e s m args below meth c s₁ Bd hml0 hP hK
  obtain ⟨rfl, hZ, hh⟩ := hP
  have hx := Bd.exec
  have hby := Bd.bytes
  have hml : c.maxLocals = 2 := hml0
  have hown : s.vm.findClass "java/lang/Integer" = some m.cls := findClass_of_methodNamed Bd.named
  have hnm := (name_of_methodNamed Bd.named Bd.method).1
  have X0 : Stand p l e ({ frames := 0, cells := 0, slots := 0, locals := 0 } : Room) s m #[(.int (256 : Int32))] below meth c s₁ [] 0 0 := Stand.of_body Bd
  have e0 : s₁.heap = h0 := by rw [← hh, Bd.state]; rfl
  have N0 := Fr.nil n0
  have pre0 : ∀ t, Steps p.tables e below (s₁.setTop (mkF m 0 #[.val (.int (256 : Int32)), .unset] [])) t → Steps p.tables e below (s₁.setTop (entryFrame m #[(.int (256 : Int32))] 2)) t := fun t k => castTop (ef_8_k8 m ) k
  obtain ⟨fs, hr, hrun, hended, hW, hsame⟩ := X0.leave (v := some (.int ((((1 : Int32) + (4 : Int32)) + (2 : Int32)) + (((((((((256 : Int32) ^^^ (-1 : Int32)) &&& (255 : Int32)).toUInt32 >>> ((4 : Int32) &&& 31).toUInt32).toInt32).toUInt32 >>> ((2 : Int32) &&& 31).toUInt32).toInt32).toUInt32 >>> ((1 : Int32) &&& 31).toUInt32).toInt32)))) (fun h => by rw [Bd.returns] at h; cases h)
  refine ⟨_, _, pre0 _ ?_, hrun, hended, _, _, rfl, ?_, ⟨_, rfl⟩, hW, hsame.mono (by decide) (by decide)⟩
  · show Steps p.tables e below (s₁.setTop (mkF m 0 #[.val (.int (256 : Int32)), .unset] [])) _
    refine XS.iloadN X0.here hx rfl (hb hby d8_0) rfl ?_
    show Steps p.tables e below (s₁.setTop (mkF m 1 #[.val (.int (256 : Int32)), .unset] [(.int (256 : Int32))])) _
    refine XS.iconst X0.here hx rfl (hb hby d8_1) ?_
    show Steps p.tables e below (s₁.setTop (mkF m 2 #[.val (.int (256 : Int32)), .unset] [(.int (-1 : Int32)), (.int (256 : Int32))])) _
    refine XS.ixor X0.here hx rfl (hb hby d8_2) rfl ?_
    show Steps p.tables e below (s₁.setTop (mkF m 3 #[.val (.int (256 : Int32)), .unset] [(.int ((256 : Int32) ^^^ (-1 : Int32)))])) _
    refine XS.iloadN X0.here hx rfl (hb hby d8_3) rfl ?_
    show Steps p.tables e below (s₁.setTop (mkF m 4 #[.val (.int (256 : Int32)), .unset] [(.int (256 : Int32)), (.int ((256 : Int32) ^^^ (-1 : Int32)))])) _
    refine XS.iconst X0.here hx rfl (hb hby d8_4) ?_
    show Steps p.tables e below (s₁.setTop (mkF m 5 #[.val (.int (256 : Int32)), .unset] [(.int (1 : Int32)), (.int (256 : Int32)), (.int ((256 : Int32) ^^^ (-1 : Int32)))])) _
    refine XS.isub X0.here hx rfl (hb hby d8_5) rfl ?_
    show Steps p.tables e below (s₁.setTop (mkF m 6 #[.val (.int (256 : Int32)), .unset] [(.int (255 : Int32)), (.int ((256 : Int32) ^^^ (-1 : Int32)))])) _
    refine XS.iand X0.here hx rfl (hb hby d8_6) rfl ?_
    show Steps p.tables e below (s₁.setTop (mkF m 7 #[.val (.int (256 : Int32)), .unset] [(.int (((256 : Int32) ^^^ (-1 : Int32)) &&& (255 : Int32)))])) _
    refine XS.istoreN X0.here hx rfl (hb hby d8_7) rfl (l' := #[.val (.int (((256 : Int32) ^^^ (-1 : Int32)) &&& (255 : Int32))), .unset]) rfl ?_
    show Steps p.tables e below (s₁.setTop (mkF m 8 #[.val (.int (((256 : Int32) ^^^ (-1 : Int32)) &&& (255 : Int32))), .unset] [])) _
    refine XS.iloadN X0.here hx rfl (hb hby d8_8) rfl ?_
    show Steps p.tables e below (s₁.setTop (mkF m 9 #[.val (.int (((256 : Int32) ^^^ (-1 : Int32)) &&& (255 : Int32))), .unset] [(.int (((256 : Int32) ^^^ (-1 : Int32)) &&& (255 : Int32)))])) _
    refine XS.ifYes X0.here hx rfl (pc0 := 9) (pc' := 17) rfl (hb hby d8_9) rfl ((if0 _ _).trans (tlt (by decide : (0 : Int32) < (((256 : Int32) ^^^ (-1 : Int32)) &&& (255 : Int32)))).2.2.1) (by decide) (by decide) ?_
    show Steps p.tables e below (s₁.setTop (mkF m 17 #[.val (.int (((256 : Int32) ^^^ (-1 : Int32)) &&& (255 : Int32))), .unset] [])) _
    refine XS.iconst X0.here hx rfl (hb hby d8_17) ?_
    show Steps p.tables e below (s₁.setTop (mkF m 18 #[.val (.int (((256 : Int32) ^^^ (-1 : Int32)) &&& (255 : Int32))), .unset] [(.int (1 : Int32))])) _
    refine XS.istoreN X0.here hx rfl (hb hby d8_18) rfl (l' := #[.val (.int (((256 : Int32) ^^^ (-1 : Int32)) &&& (255 : Int32))), .val (.int (1 : Int32))]) rfl ?_
    show Steps p.tables e below (s₁.setTop (mkF m 19 #[.val (.int (((256 : Int32) ^^^ (-1 : Int32)) &&& (255 : Int32))), .val (.int (1 : Int32))] [])) _
    refine XS.iloadN X0.here hx rfl (hb hby d8_19) rfl ?_
    show Steps p.tables e below (s₁.setTop (mkF m 20 #[.val (.int (((256 : Int32) ^^^ (-1 : Int32)) &&& (255 : Int32))), .val (.int (1 : Int32))] [(.int (((256 : Int32) ^^^ (-1 : Int32)) &&& (255 : Int32)))])) _
    refine X0.ldcwInt hx hown (mvT hZ (wd_76 hw)) (g := (mkF m 20 #[.val (.int (((256 : Int32) ^^^ (-1 : Int32)) &&& (255 : Int32))), .val (.int (1 : Int32))] [(.int (((256 : Int32) ^^^ (-1 : Int32)) &&& (255 : Int32)))])) rfl (hb hby d8_20) _ ?_
    show Steps p.tables e below (s₁.setTop (mkF m 23 #[.val (.int (((256 : Int32) ^^^ (-1 : Int32)) &&& (255 : Int32))), .val (.int (1 : Int32))] [(.int (65536 : Int32)), (.int (((256 : Int32) ^^^ (-1 : Int32)) &&& (255 : Int32)))])) _
    refine XS.icmpYes X0.here hx rfl (pc0 := 23) (pc' := 34) rfl (hb hby d8_23) rfl (flt (by decide : ¬ ((65536 : Int32) < (((256 : Int32) ^^^ (-1 : Int32)) &&& (255 : Int32))))).2.2.2 (by decide) (by decide) ?_
    show Steps p.tables e below (s₁.setTop (mkF m 34 #[.val (.int (((256 : Int32) ^^^ (-1 : Int32)) &&& (255 : Int32))), .val (.int (1 : Int32))] [])) _
    refine XS.iloadN X0.here hx rfl (hb hby d8_34) rfl ?_
    show Steps p.tables e below (s₁.setTop (mkF m 35 #[.val (.int (((256 : Int32) ^^^ (-1 : Int32)) &&& (255 : Int32))), .val (.int (1 : Int32))] [(.int (((256 : Int32) ^^^ (-1 : Int32)) &&& (255 : Int32)))])) _
    refine XS.sipush X0.here hx rfl (hb hby d8_35) ?_
    show Steps p.tables e below (s₁.setTop (mkF m 38 #[.val (.int (((256 : Int32) ^^^ (-1 : Int32)) &&& (255 : Int32))), .val (.int (1 : Int32))] [(.int (256 : Int32)), (.int (((256 : Int32) ^^^ (-1 : Int32)) &&& (255 : Int32)))])) _
    refine XS.icmpYes X0.here hx rfl (pc0 := 38) (pc' := 49) rfl (hb hby d8_38) rfl (flt (by decide : ¬ ((256 : Int32) < (((256 : Int32) ^^^ (-1 : Int32)) &&& (255 : Int32))))).2.2.2 (by decide) (by decide) ?_
    show Steps p.tables e below (s₁.setTop (mkF m 49 #[.val (.int (((256 : Int32) ^^^ (-1 : Int32)) &&& (255 : Int32))), .val (.int (1 : Int32))] [])) _
    refine XS.iloadN X0.here hx rfl (hb hby d8_49) rfl ?_
    show Steps p.tables e below (s₁.setTop (mkF m 50 #[.val (.int (((256 : Int32) ^^^ (-1 : Int32)) &&& (255 : Int32))), .val (.int (1 : Int32))] [(.int (((256 : Int32) ^^^ (-1 : Int32)) &&& (255 : Int32)))])) _
    refine XS.bipush X0.here hx rfl (hb hby d8_50) ?_
    show Steps p.tables e below (s₁.setTop (mkF m 52 #[.val (.int (((256 : Int32) ^^^ (-1 : Int32)) &&& (255 : Int32))), .val (.int (1 : Int32))] [(.int (16 : Int32)), (.int (((256 : Int32) ^^^ (-1 : Int32)) &&& (255 : Int32)))])) _
    refine XS.icmpNo X0.here hx rfl (hb hby d8_52) rfl (tlt (by decide : (16 : Int32) < (((256 : Int32) ^^^ (-1 : Int32)) &&& (255 : Int32)))).2.2.2 ?_
    show Steps p.tables e below (s₁.setTop (mkF m 55 #[.val (.int (((256 : Int32) ^^^ (-1 : Int32)) &&& (255 : Int32))), .val (.int (1 : Int32))] [])) _
    refine XS.iinc X0.here hx rfl (hb hby d8_55) rfl (l' := #[.val (.int (((256 : Int32) ^^^ (-1 : Int32)) &&& (255 : Int32))), .val (.int ((1 : Int32) + (4 : Int32)))]) rfl ?_
    show Steps p.tables e below (s₁.setTop (mkF m 58 #[.val (.int (((256 : Int32) ^^^ (-1 : Int32)) &&& (255 : Int32))), .val (.int ((1 : Int32) + (4 : Int32)))] [])) _
    refine XS.iloadN X0.here hx rfl (hb hby d8_58) rfl ?_
    show Steps p.tables e below (s₁.setTop (mkF m 59 #[.val (.int (((256 : Int32) ^^^ (-1 : Int32)) &&& (255 : Int32))), .val (.int ((1 : Int32) + (4 : Int32)))] [(.int (((256 : Int32) ^^^ (-1 : Int32)) &&& (255 : Int32)))])) _
    refine XS.iconst X0.here hx rfl (hb hby d8_59) ?_
    show Steps p.tables e below (s₁.setTop (mkF m 60 #[.val (.int (((256 : Int32) ^^^ (-1 : Int32)) &&& (255 : Int32))), .val (.int ((1 : Int32) + (4 : Int32)))] [(.int (4 : Int32)), (.int (((256 : Int32) ^^^ (-1 : Int32)) &&& (255 : Int32)))])) _
    refine XS.iushr X0.here hx rfl (hb hby d8_60) rfl ?_
    show Steps p.tables e below (s₁.setTop (mkF m 61 #[.val (.int (((256 : Int32) ^^^ (-1 : Int32)) &&& (255 : Int32))), .val (.int ((1 : Int32) + (4 : Int32)))] [(.int (((((256 : Int32) ^^^ (-1 : Int32)) &&& (255 : Int32)).toUInt32 >>> ((4 : Int32) &&& 31).toUInt32).toInt32))])) _
    refine XS.istoreN X0.here hx rfl (hb hby d8_61) rfl (l' := #[.val (.int (((((256 : Int32) ^^^ (-1 : Int32)) &&& (255 : Int32)).toUInt32 >>> ((4 : Int32) &&& 31).toUInt32).toInt32)), .val (.int ((1 : Int32) + (4 : Int32)))]) rfl ?_
    show Steps p.tables e below (s₁.setTop (mkF m 62 #[.val (.int (((((256 : Int32) ^^^ (-1 : Int32)) &&& (255 : Int32)).toUInt32 >>> ((4 : Int32) &&& 31).toUInt32).toInt32)), .val (.int ((1 : Int32) + (4 : Int32)))] [])) _
    refine XS.iloadN X0.here hx rfl (hb hby d8_62) rfl ?_
    show Steps p.tables e below (s₁.setTop (mkF m 63 #[.val (.int (((((256 : Int32) ^^^ (-1 : Int32)) &&& (255 : Int32)).toUInt32 >>> ((4 : Int32) &&& 31).toUInt32).toInt32)), .val (.int ((1 : Int32) + (4 : Int32)))] [(.int (((((256 : Int32) ^^^ (-1 : Int32)) &&& (255 : Int32)).toUInt32 >>> ((4 : Int32) &&& 31).toUInt32).toInt32))])) _
    refine XS.iconst X0.here hx rfl (hb hby d8_63) ?_
    show Steps p.tables e below (s₁.setTop (mkF m 64 #[.val (.int (((((256 : Int32) ^^^ (-1 : Int32)) &&& (255 : Int32)).toUInt32 >>> ((4 : Int32) &&& 31).toUInt32).toInt32)), .val (.int ((1 : Int32) + (4 : Int32)))] [(.int (4 : Int32)), (.int (((((256 : Int32) ^^^ (-1 : Int32)) &&& (255 : Int32)).toUInt32 >>> ((4 : Int32) &&& 31).toUInt32).toInt32))])) _
    refine XS.icmpNo X0.here hx rfl (hb hby d8_64) rfl (tlt (by decide : (4 : Int32) < (((((256 : Int32) ^^^ (-1 : Int32)) &&& (255 : Int32)).toUInt32 >>> ((4 : Int32) &&& 31).toUInt32).toInt32))).2.2.2 ?_
    show Steps p.tables e below (s₁.setTop (mkF m 67 #[.val (.int (((((256 : Int32) ^^^ (-1 : Int32)) &&& (255 : Int32)).toUInt32 >>> ((4 : Int32) &&& 31).toUInt32).toInt32)), .val (.int ((1 : Int32) + (4 : Int32)))] [])) _
    refine XS.iinc X0.here hx rfl (hb hby d8_67) rfl (l' := #[.val (.int (((((256 : Int32) ^^^ (-1 : Int32)) &&& (255 : Int32)).toUInt32 >>> ((4 : Int32) &&& 31).toUInt32).toInt32)), .val (.int (((1 : Int32) + (4 : Int32)) + (2 : Int32)))]) rfl ?_
    show Steps p.tables e below (s₁.setTop (mkF m 70 #[.val (.int (((((256 : Int32) ^^^ (-1 : Int32)) &&& (255 : Int32)).toUInt32 >>> ((4 : Int32) &&& 31).toUInt32).toInt32)), .val (.int (((1 : Int32) + (4 : Int32)) + (2 : Int32)))] [])) _
    refine XS.iloadN X0.here hx rfl (hb hby d8_70) rfl ?_
    show Steps p.tables e below (s₁.setTop (mkF m 71 #[.val (.int (((((256 : Int32) ^^^ (-1 : Int32)) &&& (255 : Int32)).toUInt32 >>> ((4 : Int32) &&& 31).toUInt32).toInt32)), .val (.int (((1 : Int32) + (4 : Int32)) + (2 : Int32)))] [(.int (((((256 : Int32) ^^^ (-1 : Int32)) &&& (255 : Int32)).toUInt32 >>> ((4 : Int32) &&& 31).toUInt32).toInt32))])) _
    refine XS.iconst X0.here hx rfl (hb hby d8_71) ?_
    show Steps p.tables e below (s₁.setTop (mkF m 72 #[.val (.int (((((256 : Int32) ^^^ (-1 : Int32)) &&& (255 : Int32)).toUInt32 >>> ((4 : Int32) &&& 31).toUInt32).toInt32)), .val (.int (((1 : Int32) + (4 : Int32)) + (2 : Int32)))] [(.int (2 : Int32)), (.int (((((256 : Int32) ^^^ (-1 : Int32)) &&& (255 : Int32)).toUInt32 >>> ((4 : Int32) &&& 31).toUInt32).toInt32))])) _
    refine XS.iushr X0.here hx rfl (hb hby d8_72) rfl ?_
    show Steps p.tables e below (s₁.setTop (mkF m 73 #[.val (.int (((((256 : Int32) ^^^ (-1 : Int32)) &&& (255 : Int32)).toUInt32 >>> ((4 : Int32) &&& 31).toUInt32).toInt32)), .val (.int (((1 : Int32) + (4 : Int32)) + (2 : Int32)))] [(.int (((((((256 : Int32) ^^^ (-1 : Int32)) &&& (255 : Int32)).toUInt32 >>> ((4 : Int32) &&& 31).toUInt32).toInt32).toUInt32 >>> ((2 : Int32) &&& 31).toUInt32).toInt32))])) _
    refine XS.istoreN X0.here hx rfl (hb hby d8_73) rfl (l' := #[.val (.int (((((((256 : Int32) ^^^ (-1 : Int32)) &&& (255 : Int32)).toUInt32 >>> ((4 : Int32) &&& 31).toUInt32).toInt32).toUInt32 >>> ((2 : Int32) &&& 31).toUInt32).toInt32)), .val (.int (((1 : Int32) + (4 : Int32)) + (2 : Int32)))]) rfl ?_
    show Steps p.tables e below (s₁.setTop (mkF m 74 #[.val (.int (((((((256 : Int32) ^^^ (-1 : Int32)) &&& (255 : Int32)).toUInt32 >>> ((4 : Int32) &&& 31).toUInt32).toInt32).toUInt32 >>> ((2 : Int32) &&& 31).toUInt32).toInt32)), .val (.int (((1 : Int32) + (4 : Int32)) + (2 : Int32)))] [])) _
    refine XS.iloadN X0.here hx rfl (hb hby d8_74) rfl ?_
    show Steps p.tables e below (s₁.setTop (mkF m 75 #[.val (.int (((((((256 : Int32) ^^^ (-1 : Int32)) &&& (255 : Int32)).toUInt32 >>> ((4 : Int32) &&& 31).toUInt32).toInt32).toUInt32 >>> ((2 : Int32) &&& 31).toUInt32).toInt32)), .val (.int (((1 : Int32) + (4 : Int32)) + (2 : Int32)))] [(.int (((1 : Int32) + (4 : Int32)) + (2 : Int32)))])) _
    refine XS.iloadN X0.here hx rfl (hb hby d8_75) rfl ?_
    show Steps p.tables e below (s₁.setTop (mkF m 76 #[.val (.int (((((((256 : Int32) ^^^ (-1 : Int32)) &&& (255 : Int32)).toUInt32 >>> ((4 : Int32) &&& 31).toUInt32).toInt32).toUInt32 >>> ((2 : Int32) &&& 31).toUInt32).toInt32)), .val (.int (((1 : Int32) + (4 : Int32)) + (2 : Int32)))] [(.int (((((((256 : Int32) ^^^ (-1 : Int32)) &&& (255 : Int32)).toUInt32 >>> ((4 : Int32) &&& 31).toUInt32).toInt32).toUInt32 >>> ((2 : Int32) &&& 31).toUInt32).toInt32)), (.int (((1 : Int32) + (4 : Int32)) + (2 : Int32)))])) _
    refine XS.iconst X0.here hx rfl (hb hby d8_76) ?_
    show Steps p.tables e below (s₁.setTop (mkF m 77 #[.val (.int (((((((256 : Int32) ^^^ (-1 : Int32)) &&& (255 : Int32)).toUInt32 >>> ((4 : Int32) &&& 31).toUInt32).toInt32).toUInt32 >>> ((2 : Int32) &&& 31).toUInt32).toInt32)), .val (.int (((1 : Int32) + (4 : Int32)) + (2 : Int32)))] [(.int (1 : Int32)), (.int (((((((256 : Int32) ^^^ (-1 : Int32)) &&& (255 : Int32)).toUInt32 >>> ((4 : Int32) &&& 31).toUInt32).toInt32).toUInt32 >>> ((2 : Int32) &&& 31).toUInt32).toInt32)), (.int (((1 : Int32) + (4 : Int32)) + (2 : Int32)))])) _
    refine XS.iushr X0.here hx rfl (hb hby d8_77) rfl ?_
    show Steps p.tables e below (s₁.setTop (mkF m 78 #[.val (.int (((((((256 : Int32) ^^^ (-1 : Int32)) &&& (255 : Int32)).toUInt32 >>> ((4 : Int32) &&& 31).toUInt32).toInt32).toUInt32 >>> ((2 : Int32) &&& 31).toUInt32).toInt32)), .val (.int (((1 : Int32) + (4 : Int32)) + (2 : Int32)))] [(.int (((((((((256 : Int32) ^^^ (-1 : Int32)) &&& (255 : Int32)).toUInt32 >>> ((4 : Int32) &&& 31).toUInt32).toInt32).toUInt32 >>> ((2 : Int32) &&& 31).toUInt32).toInt32).toUInt32 >>> ((1 : Int32) &&& 31).toUInt32).toInt32)), (.int (((1 : Int32) + (4 : Int32)) + (2 : Int32)))])) _
    refine XS.iadd X0.here hx rfl (hb hby d8_78) rfl ?_
    show Steps p.tables e below (s₁.setTop (mkF m 79 #[.val (.int (((((((256 : Int32) ^^^ (-1 : Int32)) &&& (255 : Int32)).toUInt32 >>> ((4 : Int32) &&& 31).toUInt32).toInt32).toUInt32 >>> ((2 : Int32) &&& 31).toUInt32).toInt32)), .val (.int (((1 : Int32) + (4 : Int32)) + (2 : Int32)))] [(.int ((((1 : Int32) + (4 : Int32)) + (2 : Int32)) + (((((((((256 : Int32) ^^^ (-1 : Int32)) &&& (255 : Int32)).toUInt32 >>> ((4 : Int32) &&& 31).toUInt32).toInt32).toUInt32 >>> ((2 : Int32) &&& 31).toUInt32).toInt32).toUInt32 >>> ((1 : Int32) &&& 31).toUInt32).toInt32)))])) _
    exact retI X0 hx Bd.returns (hb hby d8_79) hr
  · show Q8_k8 Z  h0 n0 _ s₁.heap _
    rw [e0]
    exact ⟨(congrArg (fun z => some (Value.int z)) (by decide : ((((1 : Int32) + (4 : Int32)) + (2 : Int32)) + (((((((((256 : Int32) ^^^ (-1 : Int32)) &&& (255 : Int32)).toUInt32 >>> ((4 : Int32) &&& 31).toUInt32).toInt32).toUInt32 >>> ((2 : Int32) &&& 31).toUInt32).toInt32).toUInt32 >>> ((1 : Int32) &&& 31).toUInt32).toInt32)) = (8 : Int32))), N0, rfl⟩
theorem d8_41 : decode jdk_33_method_48_code 41 = .ok (.iinc 1 8, 3) := by decide +kernel
theorem d8_44 : decode jdk_33_method_48_code 44 = .ok (.iload_n 0, 1) := by decide +kernel
theorem d8_45 : decode jdk_33_method_48_code 45 = .ok (.bipush 8, 2) := by decide +kernel
theorem d8_47 : decode jdk_33_method_48_code 47 = .ok (.iushr, 1) := by decide +kernel
theorem d8_48 : decode jdk_33_method_48_code 48 = .ok (.istore_n 0, 1) := by decide +kernel
theorem ef_8_k9 (m : MethodId)  : entryFrame m #[(.int (512 : Int32))] 2 = mkF m 0 #[.val (.int (512 : Int32)), .unset] [] := by first | (simp [entryFrame, mkF, argsToLocals, Value.category]; done) | rfl
def Q8_k9 (Z : State)  (h0 : Heap) (n0 : Nat) (v : Option Value) (h : Heap) (L : List Loc) : Prop := v = some (.int (9 : Int32)) ∧ Fr n0 L ∧ h = h0
set_option maxRecDepth 65536 in
set_option maxHeartbeats 40000000 in
theorem rm8_k9 (l : Launch) (Z : State) (a0 : Array Value) (hw : ∀ d ∈ tables_1, d.before a0 Z = true) (ws : List Jvm.Cond)  (h0 : Heap) (n0 : Nat) (Z0 : n0 ≤ h0.size) :
    MetFree l (⟨"java/lang/Integer", "numberOfTrailingZeros", "(I)I"⟩ : MethodName) (head1 (Jvm.Cond.code (⟨"java/lang/Integer", "numberOfTrailingZeros", "(I)I"⟩ : MethodName) jdk_33_method_48_code 2 (some .int) :: ws) ({ frames := 0, cells := 0, slots := 0, locals := 0 } : Room)) (fun a U => a = #[(.int (512 : Int32))] ∧ Z.Warmed39 U.vm ∧ U.heap = h0) (fun _ _ _ _ _ => True) (fun _ U o U' => ∃ v L, o = .returned v ∧ Q8_k9 Z  h0 n0 v U'.heap L ∧ FrameEnd U o U' L ({ frames := 0, cells := 0, slots := 0, locals := 0 } : Room).cells ({ frames := 0, cells := 0, slots := 0, locals := 0 } : Room).slots) := by
  refine MetFree.of_bodySF (plainFor_of_name pn_java_lang_Integer) hisR ?_
  intro p e s m args below meth c s₁ Bd hml0 hP hK
  obtain ⟨rfl, hZ, hh⟩ := hP
  have hx := Bd.exec
  have hby := Bd.bytes
  have hml : c.maxLocals = 2 := hml0
  have hown : s.vm.findClass "java/lang/Integer" = some m.cls := findClass_of_methodNamed Bd.named
  have hnm := (name_of_methodNamed Bd.named Bd.method).1
  have X0 : Stand p l e ({ frames := 0, cells := 0, slots := 0, locals := 0 } : Room) s m #[(.int (512 : Int32))] below meth c s₁ [] 0 0 := Stand.of_body Bd
  have e0 : s₁.heap = h0 := by rw [← hh, Bd.state]; rfl
  have N0 := Fr.nil n0
  have pre0 : ∀ t, Steps p.tables e below (s₁.setTop (mkF m 0 #[.val (.int (512 : Int32)), .unset] [])) t → Steps p.tables e below (s₁.setTop (entryFrame m #[(.int (512 : Int32))] 2)) t := fun t k => castTop (ef_8_k9 m ) k
  obtain ⟨fs, hr, hrun, hended, hW, hsame⟩ := X0.leave (v := some (.int (((1 : Int32) + (8 : Int32)) + (((((((512 : Int32) ^^^ (-1 : Int32)) &&& (511 : Int32)).toUInt32 >>> ((8 : Int32) &&& 31).toUInt32).toInt32).toUInt32 >>> ((1 : Int32) &&& 31).toUInt32).toInt32)))) (fun h => by rw [Bd.returns] at h; cases h)
  refine ⟨_, _, pre0 _ ?_, hrun, hended, _, _, rfl, ?_, ⟨_, rfl⟩, hW, hsame.mono (by decide) (by decide)⟩
  · show Steps p.tables e below (s₁.setTop (mkF m 0 #[.val (.int (512 : Int32)), .unset] [])) _
    refine XS.iloadN X0.here hx rfl (hb hby d8_0) rfl ?_
    show Steps p.tables e below (s₁.setTop (mkF m 1 #[.val (.int (512 : Int32)), .unset] [(.int (512 : Int32))])) _
    refine XS.iconst X0.here hx rfl (hb hby d8_1) ?_
    show Steps p.tables e below (s₁.setTop (mkF m 2 #[.val (.int (512 : Int32)), .unset] [(.int (-1 : Int32)), (.int (512 : Int32))])) _
    refine XS.ixor X0.here hx rfl (hb hby d8_2) rfl ?_
    show Steps p.tables e below (s₁.setTop (mkF m 3 #[.val (.int (512 : Int32)), .unset] [(.int ((512 : Int32) ^^^ (-1 : Int32)))])) _
    refine XS.iloadN X0.here hx rfl (hb hby d8_3) rfl ?_
    show Steps p.tables e below (s₁.setTop (mkF m 4 #[.val (.int (512 : Int32)), .unset] [(.int (512 : Int32)), (.int ((512 : Int32) ^^^ (-1 : Int32)))])) _
    refine XS.iconst X0.here hx rfl (hb hby d8_4) ?_
    show Steps p.tables e below (s₁.setTop (mkF m 5 #[.val (.int (512 : Int32)), .unset] [(.int (1 : Int32)), (.int (512 : Int32)), (.int ((512 : Int32) ^^^ (-1 : Int32)))])) _
    refine XS.isub X0.here hx rfl (hb hby d8_5) rfl ?_
    show Steps p.tables e below (s₁.setTop (mkF m 6 #[.val (.int (512 : Int32)), .unset] [(.int (511 : Int32)), (.int ((512 : Int32) ^^^ (-1 : Int32)))])) _
    refine XS.iand X0.here hx rfl (hb hby d8_6) rfl ?_
    show Steps p.tables e below (s₁.setTop (mkF m 7 #[.val (.int (512 : Int32)), .unset] [(.int (((512 : Int32) ^^^ (-1 : Int32)) &&& (511 : Int32)))])) _
    refine XS.istoreN X0.here hx rfl (hb hby d8_7) rfl (l' := #[.val (.int (((512 : Int32) ^^^ (-1 : Int32)) &&& (511 : Int32))), .unset]) rfl ?_
    show Steps p.tables e below (s₁.setTop (mkF m 8 #[.val (.int (((512 : Int32) ^^^ (-1 : Int32)) &&& (511 : Int32))), .unset] [])) _
    refine XS.iloadN X0.here hx rfl (hb hby d8_8) rfl ?_
    show Steps p.tables e below (s₁.setTop (mkF m 9 #[.val (.int (((512 : Int32) ^^^ (-1 : Int32)) &&& (511 : Int32))), .unset] [(.int (((512 : Int32) ^^^ (-1 : Int32)) &&& (511 : Int32)))])) _
    refine XS.ifYes X0.here hx rfl (pc0 := 9) (pc' := 17) rfl (hb hby d8_9) rfl ((if0 _ _).trans (tlt (by decide : (0 : Int32) < (((512 : Int32) ^^^ (-1 : Int32)) &&& (511 : Int32)))).2.2.1) (by decide) (by decide) ?_
    show Steps p.tables e below (s₁.setTop (mkF m 17 #[.val (.int (((512 : Int32) ^^^ (-1 : Int32)) &&& (511 : Int32))), .unset] [])) _
    refine XS.iconst X0.here hx rfl (hb hby d8_17) ?_
    show Steps p.tables e below (s₁.setTop (mkF m 18 #[.val (.int (((512 : Int32) ^^^ (-1 : Int32)) &&& (511 : Int32))), .unset] [(.int (1 : Int32))])) _
    refine XS.istoreN X0.here hx rfl (hb hby d8_18) rfl (l' := #[.val (.int (((512 : Int32) ^^^ (-1 : Int32)) &&& (511 : Int32))), .val (.int (1 : Int32))]) rfl ?_
    show Steps p.tables e below (s₁.setTop (mkF m 19 #[.val (.int (((512 : Int32) ^^^ (-1 : Int32)) &&& (511 : Int32))), .val (.int (1 : Int32))] [])) _
    refine XS.iloadN X0.here hx rfl (hb hby d8_19) rfl ?_
    show Steps p.tables e below (s₁.setTop (mkF m 20 #[.val (.int (((512 : Int32) ^^^ (-1 : Int32)) &&& (511 : Int32))), .val (.int (1 : Int32))] [(.int (((512 : Int32) ^^^ (-1 : Int32)) &&& (511 : Int32)))])) _
    refine X0.ldcwInt hx hown (mvT hZ (wd_76 hw)) (g := (mkF m 20 #[.val (.int (((512 : Int32) ^^^ (-1 : Int32)) &&& (511 : Int32))), .val (.int (1 : Int32))] [(.int (((512 : Int32) ^^^ (-1 : Int32)) &&& (511 : Int32)))])) rfl (hb hby d8_20) _ ?_
    show Steps p.tables e below (s₁.setTop (mkF m 23 #[.val (.int (((512 : Int32) ^^^ (-1 : Int32)) &&& (511 : Int32))), .val (.int (1 : Int32))] [(.int (65536 : Int32)), (.int (((512 : Int32) ^^^ (-1 : Int32)) &&& (511 : Int32)))])) _
    refine XS.icmpYes X0.here hx rfl (pc0 := 23) (pc' := 34) rfl (hb hby d8_23) rfl (flt (by decide : ¬ ((65536 : Int32) < (((512 : Int32) ^^^ (-1 : Int32)) &&& (511 : Int32))))).2.2.2 (by decide) (by decide) ?_
    show Steps p.tables e below (s₁.setTop (mkF m 34 #[.val (.int (((512 : Int32) ^^^ (-1 : Int32)) &&& (511 : Int32))), .val (.int (1 : Int32))] [])) _
    refine XS.iloadN X0.here hx rfl (hb hby d8_34) rfl ?_
    show Steps p.tables e below (s₁.setTop (mkF m 35 #[.val (.int (((512 : Int32) ^^^ (-1 : Int32)) &&& (511 : Int32))), .val (.int (1 : Int32))] [(.int (((512 : Int32) ^^^ (-1 : Int32)) &&& (511 : Int32)))])) _
    refine XS.sipush X0.here hx rfl (hb hby d8_35) ?_
    show Steps p.tables e below (s₁.setTop (mkF m 38 #[.val (.int (((512 : Int32) ^^^ (-1 : Int32)) &&& (511 : Int32))), .val (.int (1 : Int32))] [(.int (256 : Int32)), (.int (((512 : Int32) ^^^ (-1 : Int32)) &&& (511 : Int32)))])) _
    refine XS.icmpNo X0.here hx rfl (hb hby d8_38) rfl (tlt (by decide : (256 : Int32) < (((512 : Int32) ^^^ (-1 : Int32)) &&& (511 : Int32)))).2.2.2 ?_
    show Steps p.tables e below (s₁.setTop (mkF m 41 #[.val (.int (((512 : Int32) ^^^ (-1 : Int32)) &&& (511 : Int32))), .val (.int (1 : Int32))] [])) _
    refine XS.iinc X0.here hx rfl (hb hby d8_41) rfl (l' := #[.val (.int (((512 : Int32) ^^^ (-1 : Int32)) &&& (511 : Int32))), .val (.int ((1 : Int32) + (8 : Int32)))]) rfl ?_
    show Steps p.tables e below (s₁.setTop (mkF m 44 #[.val (.int (((512 : Int32) ^^^ (-1 : Int32)) &&& (511 : Int32))), .val (.int ((1 : Int32) + (8 : Int32)))] [])) _
    refine XS.iloadN X0.here hx rfl (hb hby d8_44) rfl ?_
    show Steps p.tables e below (s₁.setTop (mkF m 45 #[.val (.int (((512 : Int32) ^^^ (-1 : Int32)) &&& (511 : Int32))), .val (.int ((1 : Int32) + (8 : Int32)))] [(.int (((512 : Int32) ^^^ (-1 : Int32)) &&& (511 : Int32)))])) _
    refine XS.bipush X0.here hx rfl (hb hby d8_45) ?_
    show Steps p.tables e below (s₁.setTop (mkF m 47 #[.val (.int (((512 : Int32) ^^^ (-1 : Int32)) &&& (511 : Int32))), .val (.int ((1 : Int32) + (8 : Int32)))] [(.int (8 : Int32)), (.int (((512 : Int32) ^^^ (-1 : Int32)) &&& (511 : Int32)))])) _
    refine XS.iushr X0.here hx rfl (hb hby d8_47) rfl ?_
    show Steps p.tables e below (s₁.setTop (mkF m 48 #[.val (.int (((512 : Int32) ^^^ (-1 : Int32)) &&& (511 : Int32))), .val (.int ((1 : Int32) + (8 : Int32)))] [(.int (((((512 : Int32) ^^^ (-1 : Int32)) &&& (511 : Int32)).toUInt32 >>> ((8 : Int32) &&& 31).toUInt32).toInt32))])) _
    refine XS.istoreN X0.here hx rfl (hb hby d8_48) rfl (l' := #[.val (.int (((((512 : Int32) ^^^ (-1 : Int32)) &&& (511 : Int32)).toUInt32 >>> ((8 : Int32) &&& 31).toUInt32).toInt32)), .val (.int ((1 : Int32) + (8 : Int32)))]) rfl ?_
    show Steps p.tables e below (s₁.setTop (mkF m 49 #[.val (.int (((((512 : Int32) ^^^ (-1 : Int32)) &&& (511 : Int32)).toUInt32 >>> ((8 : Int32) &&& 31).toUInt32).toInt32)), .val (.int ((1 : Int32) + (8 : Int32)))] [])) _
    refine XS.iloadN X0.here hx rfl (hb hby d8_49) rfl ?_
    show Steps p.tables e below (s₁.setTop (mkF m 50 #[.val (.int (((((512 : Int32) ^^^ (-1 : Int32)) &&& (511 : Int32)).toUInt32 >>> ((8 : Int32) &&& 31).toUInt32).toInt32)), .val (.int ((1 : Int32) + (8 : Int32)))] [(.int (((((512 : Int32) ^^^ (-1 : Int32)) &&& (511 : Int32)).toUInt32 >>> ((8 : Int32) &&& 31).toUInt32).toInt32))])) _
    refine XS.bipush X0.here hx rfl (hb hby d8_50) ?_
    show Steps p.tables e below (s₁.setTop (mkF m 52 #[.val (.int (((((512 : Int32) ^^^ (-1 : Int32)) &&& (511 : Int32)).toUInt32 >>> ((8 : Int32) &&& 31).toUInt32).toInt32)), .val (.int ((1 : Int32) + (8 : Int32)))] [(.int (16 : Int32)), (.int (((((512 : Int32) ^^^ (-1 : Int32)) &&& (511 : Int32)).toUInt32 >>> ((8 : Int32) &&& 31).toUInt32).toInt32))])) _
    refine XS.icmpYes X0.here hx rfl (pc0 := 52) (pc' := 62) rfl (hb hby d8_52) rfl (flt (by decide : ¬ ((16 : Int32) < (((((512 : Int32) ^^^ (-1 : Int32)) &&& (511 : Int32)).toUInt32 >>> ((8 : Int32) &&& 31).toUInt32).toInt32)))).2.2.2 (by decide) (by decide) ?_
    show Steps p.tables e below (s₁.setTop (mkF m 62 #[.val (.int (((((512 : Int32) ^^^ (-1 : Int32)) &&& (511 : Int32)).toUInt32 >>> ((8 : Int32) &&& 31).toUInt32).toInt32)), .val (.int ((1 : Int32) + (8 : Int32)))] [])) _
    refine XS.iloadN X0.here hx rfl (hb hby d8_62) rfl ?_
    show Steps p.tables e below (s₁.setTop (mkF m 63 #[.val (.int (((((512 : Int32) ^^^ (-1 : Int32)) &&& (511 : Int32)).toUInt32 >>> ((8 : Int32) &&& 31).toUInt32).toInt32)), .val (.int ((1 : Int32) + (8 : Int32)))] [(.int (((((512 : Int32) ^^^ (-1 : Int32)) &&& (511 : Int32)).toUInt32 >>> ((8 : Int32) &&& 31).toUInt32).toInt32))])) _
    refine XS.iconst X0.here hx rfl (hb hby d8_63) ?_
    show Steps p.tables e below (s₁.setTop (mkF m 64 #[.val (.int (((((512 : Int32) ^^^ (-1 : Int32)) &&& (511 : Int32)).toUInt32 >>> ((8 : Int32) &&& 31).toUInt32).toInt32)), .val (.int ((1 : Int32) + (8 : Int32)))] [(.int (4 : Int32)), (.int (((((512 : Int32) ^^^ (-1 : Int32)) &&& (511 : Int32)).toUInt32 >>> ((8 : Int32) &&& 31).toUInt32).toInt32))])) _
    refine XS.icmpYes X0.here hx rfl (pc0 := 64) (pc' := 74) rfl (hb hby d8_64) rfl (flt (by decide : ¬ ((4 : Int32) < (((((512 : Int32) ^^^ (-1 : Int32)) &&& (511 : Int32)).toUInt32 >>> ((8 : Int32) &&& 31).toUInt32).toInt32)))).2.2.2 (by decide) (by decide) ?_
    show Steps p.tables e below (s₁.setTop (mkF m 74 #[.val (.int (((((512 : Int32) ^^^ (-1 : Int32)) &&& (511 : Int32)).toUInt32 >>> ((8 : Int32) &&& 31).toUInt32).toInt32)), .val (.int ((1 : Int32) + (8 : Int32)))] [])) _
    refine XS.iloadN X0.here hx rfl (hb hby d8_74) rfl ?_
    show Steps p.tables e below (s₁.setTop (mkF m 75 #[.val (.int (((((512 : Int32) ^^^ (-1 : Int32)) &&& (511 : Int32)).toUInt32 >>> ((8 : Int32) &&& 31).toUInt32).toInt32)), .val (.int ((1 : Int32) + (8 : Int32)))] [(.int ((1 : Int32) + (8 : Int32)))])) _
    refine XS.iloadN X0.here hx rfl (hb hby d8_75) rfl ?_
    show Steps p.tables e below (s₁.setTop (mkF m 76 #[.val (.int (((((512 : Int32) ^^^ (-1 : Int32)) &&& (511 : Int32)).toUInt32 >>> ((8 : Int32) &&& 31).toUInt32).toInt32)), .val (.int ((1 : Int32) + (8 : Int32)))] [(.int (((((512 : Int32) ^^^ (-1 : Int32)) &&& (511 : Int32)).toUInt32 >>> ((8 : Int32) &&& 31).toUInt32).toInt32)), (.int ((1 : Int32) + (8 : Int32)))])) _
    refine XS.iconst X0.here hx rfl (hb hby d8_76) ?_
    show Steps p.tables e below (s₁.setTop (mkF m 77 #[.val (.int (((((512 : Int32) ^^^ (-1 : Int32)) &&& (511 : Int32)).toUInt32 >>> ((8 : Int32) &&& 31).toUInt32).toInt32)), .val (.int ((1 : Int32) + (8 : Int32)))] [(.int (1 : Int32)), (.int (((((512 : Int32) ^^^ (-1 : Int32)) &&& (511 : Int32)).toUInt32 >>> ((8 : Int32) &&& 31).toUInt32).toInt32)), (.int ((1 : Int32) + (8 : Int32)))])) _
    refine XS.iushr X0.here hx rfl (hb hby d8_77) rfl ?_
    show Steps p.tables e below (s₁.setTop (mkF m 78 #[.val (.int (((((512 : Int32) ^^^ (-1 : Int32)) &&& (511 : Int32)).toUInt32 >>> ((8 : Int32) &&& 31).toUInt32).toInt32)), .val (.int ((1 : Int32) + (8 : Int32)))] [(.int (((((((512 : Int32) ^^^ (-1 : Int32)) &&& (511 : Int32)).toUInt32 >>> ((8 : Int32) &&& 31).toUInt32).toInt32).toUInt32 >>> ((1 : Int32) &&& 31).toUInt32).toInt32)), (.int ((1 : Int32) + (8 : Int32)))])) _
    refine XS.iadd X0.here hx rfl (hb hby d8_78) rfl ?_
    show Steps p.tables e below (s₁.setTop (mkF m 79 #[.val (.int (((((512 : Int32) ^^^ (-1 : Int32)) &&& (511 : Int32)).toUInt32 >>> ((8 : Int32) &&& 31).toUInt32).toInt32)), .val (.int ((1 : Int32) + (8 : Int32)))] [(.int (((1 : Int32) + (8 : Int32)) + (((((((512 : Int32) ^^^ (-1 : Int32)) &&& (511 : Int32)).toUInt32 >>> ((8 : Int32) &&& 31).toUInt32).toInt32).toUInt32 >>> ((1 : Int32) &&& 31).toUInt32).toInt32)))])) _
    exact retI X0 hx Bd.returns (hb hby d8_79) hr
  · show Q8_k9 Z  h0 n0 _ s₁.heap _
    rw [e0]
    exact ⟨(congrArg (fun z => some (Value.int z)) (by decide : (((1 : Int32) + (8 : Int32)) + (((((((512 : Int32) ^^^ (-1 : Int32)) &&& (511 : Int32)).toUInt32 >>> ((8 : Int32) &&& 31).toUInt32).toInt32).toUInt32 >>> ((1 : Int32) &&& 31).toUInt32).toInt32)) = (9 : Int32))), N0, rfl⟩
theorem ef_8_k10 (m : MethodId)  : entryFrame m #[(.int (1024 : Int32))] 2 = mkF m 0 #[.val (.int (1024 : Int32)), .unset] [] := by first | (simp [entryFrame, mkF, argsToLocals, Value.category]; done) | rfl
def Q8_k10 (Z : State)  (h0 : Heap) (n0 : Nat) (v : Option Value) (h : Heap) (L : List Loc) : Prop := v = some (.int (10 : Int32)) ∧ Fr n0 L ∧ h = h0
set_option maxRecDepth 65536 in
set_option maxHeartbeats 40000000 in
theorem rm8_k10 (l : Launch) (Z : State) (a0 : Array Value) (hw : ∀ d ∈ tables_1, d.before a0 Z = true) (ws : List Jvm.Cond)  (h0 : Heap) (n0 : Nat) (Z0 : n0 ≤ h0.size) :
    MetFree l (⟨"java/lang/Integer", "numberOfTrailingZeros", "(I)I"⟩ : MethodName) (head1 (Jvm.Cond.code (⟨"java/lang/Integer", "numberOfTrailingZeros", "(I)I"⟩ : MethodName) jdk_33_method_48_code 2 (some .int) :: ws) ({ frames := 0, cells := 0, slots := 0, locals := 0 } : Room)) (fun a U => a = #[(.int (1024 : Int32))] ∧ Z.Warmed39 U.vm ∧ U.heap = h0) (fun _ _ _ _ _ => True) (fun _ U o U' => ∃ v L, o = .returned v ∧ Q8_k10 Z  h0 n0 v U'.heap L ∧ FrameEnd U o U' L ({ frames := 0, cells := 0, slots := 0, locals := 0 } : Room).cells ({ frames := 0, cells := 0, slots := 0, locals := 0 } : Room).slots) := by
  refine MetFree.of_bodySF (plainFor_of_name pn_java_lang_Integer) hisR ?_
  intro p e s m args below meth c s₁ Bd hml0 hP hK
  obtain ⟨rfl, hZ, hh⟩ := hP
  have hx := Bd.exec
  have hby := Bd.bytes
  have hml : c.maxLocals = 2 := hml0
  have hown : s.vm.findClass "java/lang/Integer" = some m.cls := findClass_of_methodNamed Bd.named
  have hnm := (name_of_methodNamed Bd.named Bd.method).1
  have X0 : Stand p l e ({ frames := 0, cells := 0, slots := 0, locals := 0 } : Room) s m #[(.int (1024 : Int32))] below meth c s₁ [] 0 0 := Stand.of_body Bd
  have e0 : s₁.heap = h0 := by rw [← hh, Bd.state]; rfl
  have N0 := Fr.nil n0
  have pre0 : ∀ t, Steps p.tables e below (s₁.setTop (mkF m 0 #[.val (.int (1024 : Int32)), .unset] [])) t → Steps p.tables e below (s₁.setTop (entryFrame m #[(.int (1024 : Int32))] 2)) t := fun t k => castTop (ef_8_k10 m ) k
  obtain ⟨fs, hr, hrun, hended, hW, hsame⟩ := X0.leave (v := some (.int (((1 : Int32) + (8 : Int32)) + (((((((1024 : Int32) ^^^ (-1 : Int32)) &&& (1023 : Int32)).toUInt32 >>> ((8 : Int32) &&& 31).toUInt32).toInt32).toUInt32 >>> ((1 : Int32) &&& 31).toUInt32).toInt32)))) (fun h => by rw [Bd.returns] at h; cases h)
  refine ⟨_, _, pre0 _ ?_, hrun, hended, _, _, rfl, ?_, ⟨_, rfl⟩, hW, hsame.mono (by decide) (by decide)⟩
  · show Steps p.tables e below (s₁.setTop (mkF m 0 #[.val (.int (1024 : Int32)), .unset] [])) _
    refine XS.iloadN X0.here hx rfl (hb hby d8_0) rfl ?_
    show Steps p.tables e below (s₁.setTop (mkF m 1 #[.val (.int (1024 : Int32)), .unset] [(.int (1024 : Int32))])) _
    refine XS.iconst X0.here hx rfl (hb hby d8_1) ?_
    show Steps p.tables e below (s₁.setTop (mkF m 2 #[.val (.int (1024 : Int32)), .unset] [(.int (-1 : Int32)), (.int (1024 : Int32))])) _
    refine XS.ixor X0.here hx rfl (hb hby d8_2) rfl ?_
    show Steps p.tables e below (s₁.setTop (mkF m 3 #[.val (.int (1024 : Int32)), .unset] [(.int ((1024 : Int32) ^^^ (-1 : Int32)))])) _
    refine XS.iloadN X0.here hx rfl (hb hby d8_3) rfl ?_
    show Steps p.tables e below (s₁.setTop (mkF m 4 #[.val (.int (1024 : Int32)), .unset] [(.int (1024 : Int32)), (.int ((1024 : Int32) ^^^ (-1 : Int32)))])) _
    refine XS.iconst X0.here hx rfl (hb hby d8_4) ?_
    show Steps p.tables e below (s₁.setTop (mkF m 5 #[.val (.int (1024 : Int32)), .unset] [(.int (1 : Int32)), (.int (1024 : Int32)), (.int ((1024 : Int32) ^^^ (-1 : Int32)))])) _
    refine XS.isub X0.here hx rfl (hb hby d8_5) rfl ?_
    show Steps p.tables e below (s₁.setTop (mkF m 6 #[.val (.int (1024 : Int32)), .unset] [(.int (1023 : Int32)), (.int ((1024 : Int32) ^^^ (-1 : Int32)))])) _
    refine XS.iand X0.here hx rfl (hb hby d8_6) rfl ?_
    show Steps p.tables e below (s₁.setTop (mkF m 7 #[.val (.int (1024 : Int32)), .unset] [(.int (((1024 : Int32) ^^^ (-1 : Int32)) &&& (1023 : Int32)))])) _
    refine XS.istoreN X0.here hx rfl (hb hby d8_7) rfl (l' := #[.val (.int (((1024 : Int32) ^^^ (-1 : Int32)) &&& (1023 : Int32))), .unset]) rfl ?_
    show Steps p.tables e below (s₁.setTop (mkF m 8 #[.val (.int (((1024 : Int32) ^^^ (-1 : Int32)) &&& (1023 : Int32))), .unset] [])) _
    refine XS.iloadN X0.here hx rfl (hb hby d8_8) rfl ?_
    show Steps p.tables e below (s₁.setTop (mkF m 9 #[.val (.int (((1024 : Int32) ^^^ (-1 : Int32)) &&& (1023 : Int32))), .unset] [(.int (((1024 : Int32) ^^^ (-1 : Int32)) &&& (1023 : Int32)))])) _
    refine XS.ifYes X0.here hx rfl (pc0 := 9) (pc' := 17) rfl (hb hby d8_9) rfl ((if0 _ _).trans (tlt (by decide : (0 : Int32) < (((1024 : Int32) ^^^ (-1 : Int32)) &&& (1023 : Int32)))).2.2.1) (by decide) (by decide) ?_
    show Steps p.tables e below (s₁.setTop (mkF m 17 #[.val (.int (((1024 : Int32) ^^^ (-1 : Int32)) &&& (1023 : Int32))), .unset] [])) _
    refine XS.iconst X0.here hx rfl (hb hby d8_17) ?_
    show Steps p.tables e below (s₁.setTop (mkF m 18 #[.val (.int (((1024 : Int32) ^^^ (-1 : Int32)) &&& (1023 : Int32))), .unset] [(.int (1 : Int32))])) _
    refine XS.istoreN X0.here hx rfl (hb hby d8_18) rfl (l' := #[.val (.int (((1024 : Int32) ^^^ (-1 : Int32)) &&& (1023 : Int32))), .val (.int (1 : Int32))]) rfl ?_
    show Steps p.tables e below (s₁.setTop (mkF m 19 #[.val (.int (((1024 : Int32) ^^^ (-1 : Int32)) &&& (1023 : Int32))), .val (.int (1 : Int32))] [])) _
    refine XS.iloadN X0.here hx rfl (hb hby d8_19) rfl ?_
    show Steps p.tables e below (s₁.setTop (mkF m 20 #[.val (.int (((1024 : Int32) ^^^ (-1 : Int32)) &&& (1023 : Int32))), .val (.int (1 : Int32))] [(.int (((1024 : Int32) ^^^ (-1 : Int32)) &&& (1023 : Int32)))])) _
    refine X0.ldcwInt hx hown (mvT hZ (wd_76 hw)) (g := (mkF m 20 #[.val (.int (((1024 : Int32) ^^^ (-1 : Int32)) &&& (1023 : Int32))), .val (.int (1 : Int32))] [(.int (((1024 : Int32) ^^^ (-1 : Int32)) &&& (1023 : Int32)))])) rfl (hb hby d8_20) _ ?_
    show Steps p.tables e below (s₁.setTop (mkF m 23 #[.val (.int (((1024 : Int32) ^^^ (-1 : Int32)) &&& (1023 : Int32))), .val (.int (1 : Int32))] [(.int (65536 : Int32)), (.int (((1024 : Int32) ^^^ (-1 : Int32)) &&& (1023 : Int32)))])) _
    refine XS.icmpYes X0.here hx rfl (pc0 := 23) (pc' := 34) rfl (hb hby d8_23) rfl (flt (by decide : ¬ ((65536 : Int32) < (((1024 : Int32) ^^^ (-1 : Int32)) &&& (1023 : Int32))))).2.2.2 (by decide) (by decide) ?_
    show Steps p.tables e below (s₁.setTop (mkF m 34 #[.val (.int (((1024 : Int32) ^^^ (-1 : Int32)) &&& (1023 : Int32))), .val (.int (1 : Int32))] [])) _
    refine XS.iloadN X0.here hx rfl (hb hby d8_34) rfl ?_
    show Steps p.tables e below (s₁.setTop (mkF m 35 #[.val (.int (((1024 : Int32) ^^^ (-1 : Int32)) &&& (1023 : Int32))), .val (.int (1 : Int32))] [(.int (((1024 : Int32) ^^^ (-1 : Int32)) &&& (1023 : Int32)))])) _
    refine XS.sipush X0.here hx rfl (hb hby d8_35) ?_
    show Steps p.tables e below (s₁.setTop (mkF m 38 #[.val (.int (((1024 : Int32) ^^^ (-1 : Int32)) &&& (1023 : Int32))), .val (.int (1 : Int32))] [(.int (256 : Int32)), (.int (((1024 : Int32) ^^^ (-1 : Int32)) &&& (1023 : Int32)))])) _
    refine XS.icmpNo X0.here hx rfl (hb hby d8_38) rfl (tlt (by decide : (256 : Int32) < (((1024 : Int32) ^^^ (-1 : Int32)) &&& (1023 : Int32)))).2.2.2 ?_
    show Steps p.tables e below (s₁.setTop (mkF m 41 #[.val (.int (((1024 : Int32) ^^^ (-1 : Int32)) &&& (1023 : Int32))), .val (.int (1 : Int32))] [])) _
    refine XS.iinc X0.here hx rfl (hb hby d8_41) rfl (l' := #[.val (.int (((1024 : Int32) ^^^ (-1 : Int32)) &&& (1023 : Int32))), .val (.int ((1 : Int32) + (8 : Int32)))]) rfl ?_
    show Steps p.tables e below (s₁.setTop (mkF m 44 #[.val (.int (((1024 : Int32) ^^^ (-1 : Int32)) &&& (1023 : Int32))), .val (.int ((1 : Int32) + (8 : Int32)))] [])) _
    refine XS.iloadN X0.here hx rfl (hb hby d8_44) rfl ?_
    show Steps p.tables e below (s₁.setTop (mkF m 45 #[.val (.int (((1024 : Int32) ^^^ (-1 : Int32)) &&& (1023 : Int32))), .val (.int ((1 : Int32) + (8 : Int32)))] [(.int (((1024 : Int32) ^^^ (-1 : Int32)) &&& (1023 : Int32)))])) _
    refine XS.bipush X0.here hx rfl (hb hby d8_45) ?_
    show Steps p.tables e below (s₁.setTop (mkF m 47 #[.val (.int (((1024 : Int32) ^^^ (-1 : Int32)) &&& (1023 : Int32))), .val (.int ((1 : Int32) + (8 : Int32)))] [(.int (8 : Int32)), (.int (((1024 : Int32) ^^^ (-1 : Int32)) &&& (1023 : Int32)))])) _
    refine XS.iushr X0.here hx rfl (hb hby d8_47) rfl ?_
    show Steps p.tables e below (s₁.setTop (mkF m 48 #[.val (.int (((1024 : Int32) ^^^ (-1 : Int32)) &&& (1023 : Int32))), .val (.int ((1 : Int32) + (8 : Int32)))] [(.int (((((1024 : Int32) ^^^ (-1 : Int32)) &&& (1023 : Int32)).toUInt32 >>> ((8 : Int32) &&& 31).toUInt32).toInt32))])) _
    refine XS.istoreN X0.here hx rfl (hb hby d8_48) rfl (l' := #[.val (.int (((((1024 : Int32) ^^^ (-1 : Int32)) &&& (1023 : Int32)).toUInt32 >>> ((8 : Int32) &&& 31).toUInt32).toInt32)), .val (.int ((1 : Int32) + (8 : Int32)))]) rfl ?_
    show Steps p.tables e below (s₁.setTop (mkF m 49 #[.val (.int (((((1024 : Int32) ^^^ (-1 : Int32)) &&& (1023 : Int32)).toUInt32 >>> ((8 : Int32) &&& 31).toUInt32).toInt32)), .val (.int ((1 : Int32) + (8 : Int32)))] [])) _
    refine XS.iloadN X0.here hx rfl (hb hby d8_49) rfl ?_
    show Steps p.tables e below (s₁.setTop (mkF m 50 #[.val (.int (((((1024 : Int32) ^^^ (-1 : Int32)) &&& (1023 : Int32)).toUInt32 >>> ((8 : Int32) &&& 31).toUInt32).toInt32)), .val (.int ((1 : Int32) + (8 : Int32)))] [(.int (((((1024 : Int32) ^^^ (-1 : Int32)) &&& (1023 : Int32)).toUInt32 >>> ((8 : Int32) &&& 31).toUInt32).toInt32))])) _
    refine XS.bipush X0.here hx rfl (hb hby d8_50) ?_
    show Steps p.tables e below (s₁.setTop (mkF m 52 #[.val (.int (((((1024 : Int32) ^^^ (-1 : Int32)) &&& (1023 : Int32)).toUInt32 >>> ((8 : Int32) &&& 31).toUInt32).toInt32)), .val (.int ((1 : Int32) + (8 : Int32)))] [(.int (16 : Int32)), (.int (((((1024 : Int32) ^^^ (-1 : Int32)) &&& (1023 : Int32)).toUInt32 >>> ((8 : Int32) &&& 31).toUInt32).toInt32))])) _
    refine XS.icmpYes X0.here hx rfl (pc0 := 52) (pc' := 62) rfl (hb hby d8_52) rfl (flt (by decide : ¬ ((16 : Int32) < (((((1024 : Int32) ^^^ (-1 : Int32)) &&& (1023 : Int32)).toUInt32 >>> ((8 : Int32) &&& 31).toUInt32).toInt32)))).2.2.2 (by decide) (by decide) ?_
    show Steps p.tables e below (s₁.setTop (mkF m 62 #[.val (.int (((((1024 : Int32) ^^^ (-1 : Int32)) &&& (1023 : Int32)).toUInt32 >>> ((8 : Int32) &&& 31).toUInt32).toInt32)), .val (.int ((1 : Int32) + (8 : Int32)))] [])) _
    refine XS.iloadN X0.here hx rfl (hb hby d8_62) rfl ?_
    show Steps p.tables e below (s₁.setTop (mkF m 63 #[.val (.int (((((1024 : Int32) ^^^ (-1 : Int32)) &&& (1023 : Int32)).toUInt32 >>> ((8 : Int32) &&& 31).toUInt32).toInt32)), .val (.int ((1 : Int32) + (8 : Int32)))] [(.int (((((1024 : Int32) ^^^ (-1 : Int32)) &&& (1023 : Int32)).toUInt32 >>> ((8 : Int32) &&& 31).toUInt32).toInt32))])) _
    refine XS.iconst X0.here hx rfl (hb hby d8_63) ?_
    show Steps p.tables e below (s₁.setTop (mkF m 64 #[.val (.int (((((1024 : Int32) ^^^ (-1 : Int32)) &&& (1023 : Int32)).toUInt32 >>> ((8 : Int32) &&& 31).toUInt32).toInt32)), .val (.int ((1 : Int32) + (8 : Int32)))] [(.int (4 : Int32)), (.int (((((1024 : Int32) ^^^ (-1 : Int32)) &&& (1023 : Int32)).toUInt32 >>> ((8 : Int32) &&& 31).toUInt32).toInt32))])) _
    refine XS.icmpYes X0.here hx rfl (pc0 := 64) (pc' := 74) rfl (hb hby d8_64) rfl (flt (by decide : ¬ ((4 : Int32) < (((((1024 : Int32) ^^^ (-1 : Int32)) &&& (1023 : Int32)).toUInt32 >>> ((8 : Int32) &&& 31).toUInt32).toInt32)))).2.2.2 (by decide) (by decide) ?_
    show Steps p.tables e below (s₁.setTop (mkF m 74 #[.val (.int (((((1024 : Int32) ^^^ (-1 : Int32)) &&& (1023 : Int32)).toUInt32 >>> ((8 : Int32) &&& 31).toUInt32).toInt32)), .val (.int ((1 : Int32) + (8 : Int32)))] [])) _
    refine XS.iloadN X0.here hx rfl (hb hby d8_74) rfl ?_
    show Steps p.tables e below (s₁.setTop (mkF m 75 #[.val (.int (((((1024 : Int32) ^^^ (-1 : Int32)) &&& (1023 : Int32)).toUInt32 >>> ((8 : Int32) &&& 31).toUInt32).toInt32)), .val (.int ((1 : Int32) + (8 : Int32)))] [(.int ((1 : Int32) + (8 : Int32)))])) _
    refine XS.iloadN X0.here hx rfl (hb hby d8_75) rfl ?_
    show Steps p.tables e below (s₁.setTop (mkF m 76 #[.val (.int (((((1024 : Int32) ^^^ (-1 : Int32)) &&& (1023 : Int32)).toUInt32 >>> ((8 : Int32) &&& 31).toUInt32).toInt32)), .val (.int ((1 : Int32) + (8 : Int32)))] [(.int (((((1024 : Int32) ^^^ (-1 : Int32)) &&& (1023 : Int32)).toUInt32 >>> ((8 : Int32) &&& 31).toUInt32).toInt32)), (.int ((1 : Int32) + (8 : Int32)))])) _
    refine XS.iconst X0.here hx rfl (hb hby d8_76) ?_
    show Steps p.tables e below (s₁.setTop (mkF m 77 #[.val (.int (((((1024 : Int32) ^^^ (-1 : Int32)) &&& (1023 : Int32)).toUInt32 >>> ((8 : Int32) &&& 31).toUInt32).toInt32)), .val (.int ((1 : Int32) + (8 : Int32)))] [(.int (1 : Int32)), (.int (((((1024 : Int32) ^^^ (-1 : Int32)) &&& (1023 : Int32)).toUInt32 >>> ((8 : Int32) &&& 31).toUInt32).toInt32)), (.int ((1 : Int32) + (8 : Int32)))])) _
    refine XS.iushr X0.here hx rfl (hb hby d8_77) rfl ?_
    show Steps p.tables e below (s₁.setTop (mkF m 78 #[.val (.int (((((1024 : Int32) ^^^ (-1 : Int32)) &&& (1023 : Int32)).toUInt32 >>> ((8 : Int32) &&& 31).toUInt32).toInt32)), .val (.int ((1 : Int32) + (8 : Int32)))] [(.int (((((((1024 : Int32) ^^^ (-1 : Int32)) &&& (1023 : Int32)).toUInt32 >>> ((8 : Int32) &&& 31).toUInt32).toInt32).toUInt32 >>> ((1 : Int32) &&& 31).toUInt32).toInt32)), (.int ((1 : Int32) + (8 : Int32)))])) _
    refine XS.iadd X0.here hx rfl (hb hby d8_78) rfl ?_
    show Steps p.tables e below (s₁.setTop (mkF m 79 #[.val (.int (((((1024 : Int32) ^^^ (-1 : Int32)) &&& (1023 : Int32)).toUInt32 >>> ((8 : Int32) &&& 31).toUInt32).toInt32)), .val (.int ((1 : Int32) + (8 : Int32)))] [(.int (((1 : Int32) + (8 : Int32)) + (((((((1024 : Int32) ^^^ (-1 : Int32)) &&& (1023 : Int32)).toUInt32 >>> ((8 : Int32) &&& 31).toUInt32).toInt32).toUInt32 >>> ((1 : Int32) &&& 31).toUInt32).toInt32)))])) _
    exact retI X0 hx Bd.returns (hb hby d8_79) hr
  · show Q8_k10 Z  h0 n0 _ s₁.heap _
    rw [e0]
    exact ⟨(congrArg (fun z => some (Value.int z)) (by decide : (((1 : Int32) + (8 : Int32)) + (((((((1024 : Int32) ^^^ (-1 : Int32)) &&& (1023 : Int32)).toUInt32 >>> ((8 : Int32) &&& 31).toUInt32).toInt32).toUInt32 >>> ((1 : Int32) &&& 31).toUInt32).toInt32)) = (10 : Int32))), N0, rfl⟩
theorem ef_8_k11 (m : MethodId)  : entryFrame m #[(.int (2048 : Int32))] 2 = mkF m 0 #[.val (.int (2048 : Int32)), .unset] [] := by first | (simp [entryFrame, mkF, argsToLocals, Value.category]; done) | rfl
def Q8_k11 (Z : State)  (h0 : Heap) (n0 : Nat) (v : Option Value) (h : Heap) (L : List Loc) : Prop := v = some (.int (11 : Int32)) ∧ Fr n0 L ∧ h = h0
set_option maxRecDepth 65536 in
set_option maxHeartbeats 40000000 in
theorem rm8_k11 (l : Launch) (Z : State) (a0 : Array Value) (hw : ∀ d ∈ tables_1, d.before a0 Z = true) (ws : List Jvm.Cond)  (h0 : Heap) (n0 : Nat) (Z0 : n0 ≤ h0.size) :
    MetFree l (⟨"java/lang/Integer", "numberOfTrailingZeros", "(I)I"⟩ : MethodName) (head1 (Jvm.Cond.code (⟨"java/lang/Integer", "numberOfTrailingZeros", "(I)I"⟩ : MethodName) jdk_33_method_48_code 2 (some .int) :: ws) ({ frames := 0, cells := 0, slots := 0, locals := 0 } : Room)) (fun a U => a = #[(.int (2048 : Int32))] ∧ Z.Warmed39 U.vm ∧ U.heap = h0) (fun _ _ _ _ _ => True) (fun _ U o U' => ∃ v L, o = .returned v ∧ Q8_k11 Z  h0 n0 v U'.heap L ∧ FrameEnd U o U' L ({ frames := 0, cells := 0, slots := 0, locals := 0 } : Room).cells ({ frames := 0, cells := 0, slots := 0, locals := 0 } : Room).slots) := by
  refine MetFree.of_bodySF (plainFor_of_name pn_java_lang_Integer) hisR ?_
  intro p e s m args below meth c s₁ Bd hml0 hP hK
  obtain ⟨rfl, hZ, hh⟩ := hP
  have hx := Bd.exec
  have hby := Bd.bytes
  have hml : c.maxLocals = 2 := hml0
  have hown : s.vm.findClass "java/lang/Integer" = some m.cls := findClass_of_methodNamed Bd.named
  have hnm := (name_of_methodNamed Bd.named Bd.method).1
  have X0 : Stand p l e ({ frames := 0, cells := 0, slots := 0, locals := 0 } : Room) s m #[(.int (2048 : Int32))] below meth c s₁ [] 0 0 := Stand.of_body Bd
  have e0 : s₁.heap = h0 := by rw [← hh, Bd.state]; rfl
  have N0 := Fr.nil n0
  have pre0 : ∀ t, Steps p.tables e below (s₁.setTop (mkF m 0 #[.val (.int (2048 : Int32)), .unset] [])) t → Steps p.tables e below (s₁.setTop (entryFrame m #[(.int (2048 : Int32))] 2)) t := fun t k => castTop (ef_8_k11 m ) k
  obtain ⟨fs, hr, hrun, hended, hW, hsame⟩ := X0.leave (v := some (.int ((((1 : Int32) + (8 : Int32)) + (2 : Int32)) + (((((((((2048 : Int32) ^^^ (-1 : Int32)) &&& (2047 : Int32)).toUInt32 >>> ((8 : Int32) &&& 31).toUInt32).toInt32).toUInt32 >>> ((2 : Int32) &&& 31).toUInt32).toInt32).toUInt32 >>> ((1 : Int32) &&& 31).toUInt32).toInt32)))) (fun h => by rw [Bd.returns] at h; cases h)
  refine ⟨_, _, pre0 _ ?_, hrun, hended, _, _, rfl, ?_, ⟨_, rfl⟩, hW, hsame.mono (by decide) (by decide)⟩
  · show Steps p.tables e below (s₁.setTop (mkF m 0 #[.val (.int (2048 : Int32)), .unset] [])) _
    refine XS.iloadN X0.here hx rfl (hb hby d8_0) rfl ?_
    show Steps p.tables e below (s₁.setTop (mkF m 1 #[.val (.int (2048 : Int32)), .unset] [(.int (2048 : Int32))])) _
    refine XS.iconst X0.here hx rfl (hb hby d8_1) ?_
    show Steps p.tables e below (s₁.setTop (mkF m 2 #[.val (.int (2048 : Int32)), .unset] [(.int (-1 : Int32)), (.int (2048 : Int32))])) _
    refine XS.ixor X0.here hx rfl (hb hby d8_2) rfl ?_
    show Steps p.tables e below (s₁.setTop (mkF m 3 #[.val (.int (2048 : Int32)), .unset] [(.int ((2048 : Int32) ^^^ (-1 : Int32)))])) _
    refine XS.iloadN X0.here hx rfl (hb hby d8_3) rfl ?_
    show Steps p.tables e below (s₁.setTop (mkF m 4 #[.val (.int (2048 : Int32)), .unset] [(.int (2048 : Int32)), (.int ((2048 : Int32) ^^^ (-1 : Int32)))])) _
    refine XS.iconst X0.here hx rfl (hb hby d8_4) ?_
    show Steps p.tables e below (s₁.setTop (mkF m 5 #[.val (.int (2048 : Int32)), .unset] [(.int (1 : Int32)), (.int (2048 : Int32)), (.int ((2048 : Int32) ^^^ (-1 : Int32)))])) _
    refine XS.isub X0.here hx rfl (hb hby d8_5) rfl ?_
    show Steps p.tables e below (s₁.setTop (mkF m 6 #[.val (.int (2048 : Int32)), .unset] [(.int (2047 : Int32)), (.int ((2048 : Int32) ^^^ (-1 : Int32)))])) _
    refine XS.iand X0.here hx rfl (hb hby d8_6) rfl ?_
    show Steps p.tables e below (s₁.setTop (mkF m 7 #[.val (.int (2048 : Int32)), .unset] [(.int (((2048 : Int32) ^^^ (-1 : Int32)) &&& (2047 : Int32)))])) _
    refine XS.istoreN X0.here hx rfl (hb hby d8_7) rfl (l' := #[.val (.int (((2048 : Int32) ^^^ (-1 : Int32)) &&& (2047 : Int32))), .unset]) rfl ?_
    show Steps p.tables e below (s₁.setTop (mkF m 8 #[.val (.int (((2048 : Int32) ^^^ (-1 : Int32)) &&& (2047 : Int32))), .unset] [])) _
    refine XS.iloadN X0.here hx rfl (hb hby d8_8) rfl ?_
    show Steps p.tables e below (s₁.setTop (mkF m 9 #[.val (.int (((2048 : Int32) ^^^ (-1 : Int32)) &&& (2047 : Int32))), .unset] [(.int (((2048 : Int32) ^^^ (-1 : Int32)) &&& (2047 : Int32)))])) _
    refine XS.ifYes X0.here hx rfl (pc0 := 9) (pc' := 17) rfl (hb hby d8_9) rfl ((if0 _ _).trans (tlt (by decide : (0 : Int32) < (((2048 : Int32) ^^^ (-1 : Int32)) &&& (2047 : Int32)))).2.2.1) (by decide) (by decide) ?_
    show Steps p.tables e below (s₁.setTop (mkF m 17 #[.val (.int (((2048 : Int32) ^^^ (-1 : Int32)) &&& (2047 : Int32))), .unset] [])) _
    refine XS.iconst X0.here hx rfl (hb hby d8_17) ?_
    show Steps p.tables e below (s₁.setTop (mkF m 18 #[.val (.int (((2048 : Int32) ^^^ (-1 : Int32)) &&& (2047 : Int32))), .unset] [(.int (1 : Int32))])) _
    refine XS.istoreN X0.here hx rfl (hb hby d8_18) rfl (l' := #[.val (.int (((2048 : Int32) ^^^ (-1 : Int32)) &&& (2047 : Int32))), .val (.int (1 : Int32))]) rfl ?_
    show Steps p.tables e below (s₁.setTop (mkF m 19 #[.val (.int (((2048 : Int32) ^^^ (-1 : Int32)) &&& (2047 : Int32))), .val (.int (1 : Int32))] [])) _
    refine XS.iloadN X0.here hx rfl (hb hby d8_19) rfl ?_
    show Steps p.tables e below (s₁.setTop (mkF m 20 #[.val (.int (((2048 : Int32) ^^^ (-1 : Int32)) &&& (2047 : Int32))), .val (.int (1 : Int32))] [(.int (((2048 : Int32) ^^^ (-1 : Int32)) &&& (2047 : Int32)))])) _
    refine X0.ldcwInt hx hown (mvT hZ (wd_76 hw)) (g := (mkF m 20 #[.val (.int (((2048 : Int32) ^^^ (-1 : Int32)) &&& (2047 : Int32))), .val (.int (1 : Int32))] [(.int (((2048 : Int32) ^^^ (-1 : Int32)) &&& (2047 : Int32)))])) rfl (hb hby d8_20) _ ?_
    show Steps p.tables e below (s₁.setTop (mkF m 23 #[.val (.int (((2048 : Int32) ^^^ (-1 : Int32)) &&& (2047 : Int32))), .val (.int (1 : Int32))] [(.int (65536 : Int32)), (.int (((2048 : Int32) ^^^ (-1 : Int32)) &&& (2047 : Int32)))])) _
    refine XS.icmpYes X0.here hx rfl (pc0 := 23) (pc' := 34) rfl (hb hby d8_23) rfl (flt (by decide : ¬ ((65536 : Int32) < (((2048 : Int32) ^^^ (-1 : Int32)) &&& (2047 : Int32))))).2.2.2 (by decide) (by decide) ?_
    show Steps p.tables e below (s₁.setTop (mkF m 34 #[.val (.int (((2048 : Int32) ^^^ (-1 : Int32)) &&& (2047 : Int32))), .val (.int (1 : Int32))] [])) _
    refine XS.iloadN X0.here hx rfl (hb hby d8_34) rfl ?_
    show Steps p.tables e below (s₁.setTop (mkF m 35 #[.val (.int (((2048 : Int32) ^^^ (-1 : Int32)) &&& (2047 : Int32))), .val (.int (1 : Int32))] [(.int (((2048 : Int32) ^^^ (-1 : Int32)) &&& (2047 : Int32)))])) _
    refine XS.sipush X0.here hx rfl (hb hby d8_35) ?_
    show Steps p.tables e below (s₁.setTop (mkF m 38 #[.val (.int (((2048 : Int32) ^^^ (-1 : Int32)) &&& (2047 : Int32))), .val (.int (1 : Int32))] [(.int (256 : Int32)), (.int (((2048 : Int32) ^^^ (-1 : Int32)) &&& (2047 : Int32)))])) _
    refine XS.icmpNo X0.here hx rfl (hb hby d8_38) rfl (tlt (by decide : (256 : Int32) < (((2048 : Int32) ^^^ (-1 : Int32)) &&& (2047 : Int32)))).2.2.2 ?_
    show Steps p.tables e below (s₁.setTop (mkF m 41 #[.val (.int (((2048 : Int32) ^^^ (-1 : Int32)) &&& (2047 : Int32))), .val (.int (1 : Int32))] [])) _
    refine XS.iinc X0.here hx rfl (hb hby d8_41) rfl (l' := #[.val (.int (((2048 : Int32) ^^^ (-1 : Int32)) &&& (2047 : Int32))), .val (.int ((1 : Int32) + (8 : Int32)))]) rfl ?_
    show Steps p.tables e below (s₁.setTop (mkF m 44 #[.val (.int (((2048 : Int32) ^^^ (-1 : Int32)) &&& (2047 : Int32))), .val (.int ((1 : Int32) + (8 : Int32)))] [])) _
    refine XS.iloadN X0.here hx rfl (hb hby d8_44) rfl ?_
    show Steps p.tables e below (s₁.setTop (mkF m 45 #[.val (.int (((2048 : Int32) ^^^ (-1 : Int32)) &&& (2047 : Int32))), .val (.int ((1 : Int32) + (8 : Int32)))] [(.int (((2048 : Int32) ^^^ (-1 : Int32)) &&& (2047 : Int32)))])) _
    refine XS.bipush X0.here hx rfl (hb hby d8_45) ?_
    show Steps p.tables e below (s₁.setTop (mkF m 47 #[.val (.int (((2048 : Int32) ^^^ (-1 : Int32)) &&& (2047 : Int32))), .val (.int ((1 : Int32) + (8 : Int32)))] [(.int (8 : Int32)), (.int (((2048 : Int32) ^^^ (-1 : Int32)) &&& (2047 : Int32)))])) _
    refine XS.iushr X0.here hx rfl (hb hby d8_47) rfl ?_
    show Steps p.tables e below (s₁.setTop (mkF m 48 #[.val (.int (((2048 : Int32) ^^^ (-1 : Int32)) &&& (2047 : Int32))), .val (.int ((1 : Int32) + (8 : Int32)))] [(.int (((((2048 : Int32) ^^^ (-1 : Int32)) &&& (2047 : Int32)).toUInt32 >>> ((8 : Int32) &&& 31).toUInt32).toInt32))])) _
    refine XS.istoreN X0.here hx rfl (hb hby d8_48) rfl (l' := #[.val (.int (((((2048 : Int32) ^^^ (-1 : Int32)) &&& (2047 : Int32)).toUInt32 >>> ((8 : Int32) &&& 31).toUInt32).toInt32)), .val (.int ((1 : Int32) + (8 : Int32)))]) rfl ?_
    show Steps p.tables e below (s₁.setTop (mkF m 49 #[.val (.int (((((2048 : Int32) ^^^ (-1 : Int32)) &&& (2047 : Int32)).toUInt32 >>> ((8 : Int32) &&& 31).toUInt32).toInt32)), .val (.int ((1 : Int32) + (8 : Int32)))] [])) _
    refine XS.iloadN X0.here hx rfl (hb hby d8_49) rfl ?_
    show Steps p.tables e below (s₁.setTop (mkF m 50 #[.val (.int (((((2048 : Int32) ^^^ (-1 : Int32)) &&& (2047 : Int32)).toUInt32 >>> ((8 : Int32) &&& 31).toUInt32).toInt32)), .val (.int ((1 : Int32) + (8 : Int32)))] [(.int (((((2048 : Int32) ^^^ (-1 : Int32)) &&& (2047 : Int32)).toUInt32 >>> ((8 : Int32) &&& 31).toUInt32).toInt32))])) _
    refine XS.bipush X0.here hx rfl (hb hby d8_50) ?_
    show Steps p.tables e below (s₁.setTop (mkF m 52 #[.val (.int (((((2048 : Int32) ^^^ (-1 : Int32)) &&& (2047 : Int32)).toUInt32 >>> ((8 : Int32) &&& 31).toUInt32).toInt32)), .val (.int ((1 : Int32) + (8 : Int32)))] [(.int (16 : Int32)), (.int (((((2048 : Int32) ^^^ (-1 : Int32)) &&& (2047 : Int32)).toUInt32 >>> ((8 : Int32) &&& 31).toUInt32).toInt32))])) _
    refine XS.icmpYes X0.here hx rfl (pc0 := 52) (pc' := 62) rfl (hb hby d8_52) rfl (flt (by decide : ¬ ((16 : Int32) < (((((2048 : Int32) ^^^ (-1 : Int32)) &&& (2047 : Int32)).toUInt32 >>> ((8 : Int32) &&& 31).toUInt32).toInt32)))).2.2.2 (by decide) (by decide) ?_
    show Steps p.tables e below (s₁.setTop (mkF m 62 #[.val (.int (((((2048 : Int32) ^^^ (-1 : Int32)) &&& (2047 : Int32)).toUInt32 >>> ((8 : Int32) &&& 31).toUInt32).toInt32)), .val (.int ((1 : Int32) + (8 : Int32)))] [])) _
    refine XS.iloadN X0.here hx rfl (hb hby d8_62) rfl ?_
    show Steps p.tables e below (s₁.setTop (mkF m 63 #[.val (.int (((((2048 : Int32) ^^^ (-1 : Int32)) &&& (2047 : Int32)).toUInt32 >>> ((8 : Int32) &&& 31).toUInt32).toInt32)), .val (.int ((1 : Int32) + (8 : Int32)))] [(.int (((((2048 : Int32) ^^^ (-1 : Int32)) &&& (2047 : Int32)).toUInt32 >>> ((8 : Int32) &&& 31).toUInt32).toInt32))])) _
    refine XS.iconst X0.here hx rfl (hb hby d8_63) ?_
    show Steps p.tables e below (s₁.setTop (mkF m 64 #[.val (.int (((((2048 : Int32) ^^^ (-1 : Int32)) &&& (2047 : Int32)).toUInt32 >>> ((8 : Int32) &&& 31).toUInt32).toInt32)), .val (.int ((1 : Int32) + (8 : Int32)))] [(.int (4 : Int32)), (.int (((((2048 : Int32) ^^^ (-1 : Int32)) &&& (2047 : Int32)).toUInt32 >>> ((8 : Int32) &&& 31).toUInt32).toInt32))])) _
    refine XS.icmpNo X0.here hx rfl (hb hby d8_64) rfl (tlt (by decide : (4 : Int32) < (((((2048 : Int32) ^^^ (-1 : Int32)) &&& (2047 : Int32)).toUInt32 >>> ((8 : Int32) &&& 31).toUInt32).toInt32))).2.2.2 ?_
    show Steps p.tables e below (s₁.setTop (mkF m 67 #[.val (.int (((((2048 : Int32) ^^^ (-1 : Int32)) &&& (2047 : Int32)).toUInt32 >>> ((8 : Int32) &&& 31).toUInt32).toInt32)), .val (.int ((1 : Int32) + (8 : Int32)))] [])) _
    refine XS.iinc X0.here hx rfl (hb hby d8_67) rfl (l' := #[.val (.int (((((2048 : Int32) ^^^ (-1 : Int32)) &&& (2047 : Int32)).toUInt32 >>> ((8 : Int32) &&& 31).toUInt32).toInt32)), .val (.int (((1 : Int32) + (8 : Int32)) + (2 : Int32)))]) rfl ?_
    show Steps p.tables e below (s₁.setTop (mkF m 70 #[.val (.int (((((2048 : Int32) ^^^ (-1 : Int32)) &&& (2047 : Int32)).toUInt32 >>> ((8 : Int32) &&& 31).toUInt32).toInt32)), .val (.int (((1 : Int32) + (8 : Int32)) + (2 : Int32)))] [])) _
    refine XS.iloadN X0.here hx rfl (hb hby d8_70) rfl ?_
    show Steps p.tables e below (s₁.setTop (mkF m 71 #[.val (.int (((((2048 : Int32) ^^^ (-1 : Int32)) &&& (2047 : Int32)).toUInt32 >>> ((8 : Int32) &&& 31).toUInt32).toInt32)), .val (.int (((1 : Int32) + (8 : Int32)) + (2 : Int32)))] [(.int (((((2048 : Int32) ^^^ (-1 : Int32)) &&& (2047 : Int32)).toUInt32 >>> ((8 : Int32) &&& 31).toUInt32).toInt32))])) _
    refine XS.iconst X0.here hx rfl (hb hby d8_71) ?_
    show Steps p.tables e below (s₁.setTop (mkF m 72 #[.val (.int (((((2048 : Int32) ^^^ (-1 : Int32)) &&& (2047 : Int32)).toUInt32 >>> ((8 : Int32) &&& 31).toUInt32).toInt32)), .val (.int (((1 : Int32) + (8 : Int32)) + (2 : Int32)))] [(.int (2 : Int32)), (.int (((((2048 : Int32) ^^^ (-1 : Int32)) &&& (2047 : Int32)).toUInt32 >>> ((8 : Int32) &&& 31).toUInt32).toInt32))])) _
    refine XS.iushr X0.here hx rfl (hb hby d8_72) rfl ?_
    show Steps p.tables e below (s₁.setTop (mkF m 73 #[.val (.int (((((2048 : Int32) ^^^ (-1 : Int32)) &&& (2047 : Int32)).toUInt32 >>> ((8 : Int32) &&& 31).toUInt32).toInt32)), .val (.int (((1 : Int32) + (8 : Int32)) + (2 : Int32)))] [(.int (((((((2048 : Int32) ^^^ (-1 : Int32)) &&& (2047 : Int32)).toUInt32 >>> ((8 : Int32) &&& 31).toUInt32).toInt32).toUInt32 >>> ((2 : Int32) &&& 31).toUInt32).toInt32))])) _
    refine XS.istoreN X0.here hx rfl (hb hby d8_73) rfl (l' := #[.val (.int (((((((2048 : Int32) ^^^ (-1 : Int32)) &&& (2047 : Int32)).toUInt32 >>> ((8 : Int32) &&& 31).toUInt32).toInt32).toUInt32 >>> ((2 : Int32) &&& 31).toUInt32).toInt32)), .val (.int (((1 : Int32) + (8 : Int32)) + (2 : Int32)))]) rfl ?_
    show Steps p.tables e below (s₁.setTop (mkF m 74 #[.val (.int (((((((2048 : Int32) ^^^ (-1 : Int32)) &&& (2047 : Int32)).toUInt32 >>> ((8 : Int32) &&& 31).toUInt32).toInt32).toUInt32 >>> ((2 : Int32) &&& 31).toUInt32).toInt32)), .val (.int (((1 : Int32) + (8 : Int32)) + (2 : Int32)))] [])) _
    refine XS.iloadN X0.here hx rfl (hb hby d8_74) rfl ?_
    show Steps p.tables e below (s₁.setTop (mkF m 75 #[.val (.int (((((((2048 : Int32) ^^^ (-1 : Int32)) &&& (2047 : Int32)).toUInt32 >>> ((8 : Int32) &&& 31).toUInt32).toInt32).toUInt32 >>> ((2 : Int32) &&& 31).toUInt32).toInt32)), .val (.int (((1 : Int32) + (8 : Int32)) + (2 : Int32)))] [(.int (((1 : Int32) + (8 : Int32)) + (2 : Int32)))])) _
    refine XS.iloadN X0.here hx rfl (hb hby d8_75) rfl ?_
    show Steps p.tables e below (s₁.setTop (mkF m 76 #[.val (.int (((((((2048 : Int32) ^^^ (-1 : Int32)) &&& (2047 : Int32)).toUInt32 >>> ((8 : Int32) &&& 31).toUInt32).toInt32).toUInt32 >>> ((2 : Int32) &&& 31).toUInt32).toInt32)), .val (.int (((1 : Int32) + (8 : Int32)) + (2 : Int32)))] [(.int (((((((2048 : Int32) ^^^ (-1 : Int32)) &&& (2047 : Int32)).toUInt32 >>> ((8 : Int32) &&& 31).toUInt32).toInt32).toUInt32 >>> ((2 : Int32) &&& 31).toUInt32).toInt32)), (.int (((1 : Int32) + (8 : Int32)) + (2 : Int32)))])) _
    refine XS.iconst X0.here hx rfl (hb hby d8_76) ?_
    show Steps p.tables e below (s₁.setTop (mkF m 77 #[.val (.int (((((((2048 : Int32) ^^^ (-1 : Int32)) &&& (2047 : Int32)).toUInt32 >>> ((8 : Int32) &&& 31).toUInt32).toInt32).toUInt32 >>> ((2 : Int32) &&& 31).toUInt32).toInt32)), .val (.int (((1 : Int32) + (8 : Int32)) + (2 : Int32)))] [(.int (1 : Int32)), (.int (((((((2048 : Int32) ^^^ (-1 : Int32)) &&& (2047 : Int32)).toUInt32 >>> ((8 : Int32) &&& 31).toUInt32).toInt32).toUInt32 >>> ((2 : Int32) &&& 31).toUInt32).toInt32)), (.int (((1 : Int32) + (8 : Int32)) + (2 : Int32)))])) _
    refine XS.iushr X0.here hx rfl (hb hby d8_77) rfl ?_
    show Steps p.tables e below (s₁.setTop (mkF m 78 #[.val (.int (((((((2048 : Int32) ^^^ (-1 : Int32)) &&& (2047 : Int32)).toUInt32 >>> ((8 : Int32) &&& 31).toUInt32).toInt32).toUInt32 >>> ((2 : Int32) &&& 31).toUInt32).toInt32)), .val (.int (((1 : Int32) + (8 : Int32)) + (2 : Int32)))] [(.int (((((((((2048 : Int32) ^^^ (-1 : Int32)) &&& (2047 : Int32)).toUInt32 >>> ((8 : Int32) &&& 31).toUInt32).toInt32).toUInt32 >>> ((2 : Int32) &&& 31).toUInt32).toInt32).toUInt32 >>> ((1 : Int32) &&& 31).toUInt32).toInt32)), (.int (((1 : Int32) + (8 : Int32)) + (2 : Int32)))])) _
    refine XS.iadd X0.here hx rfl (hb hby d8_78) rfl ?_
    show Steps p.tables e below (s₁.setTop (mkF m 79 #[.val (.int (((((((2048 : Int32) ^^^ (-1 : Int32)) &&& (2047 : Int32)).toUInt32 >>> ((8 : Int32) &&& 31).toUInt32).toInt32).toUInt32 >>> ((2 : Int32) &&& 31).toUInt32).toInt32)), .val (.int (((1 : Int32) + (8 : Int32)) + (2 : Int32)))] [(.int ((((1 : Int32) + (8 : Int32)) + (2 : Int32)) + (((((((((2048 : Int32) ^^^ (-1 : Int32)) &&& (2047 : Int32)).toUInt32 >>> ((8 : Int32) &&& 31).toUInt32).toInt32).toUInt32 >>> ((2 : Int32) &&& 31).toUInt32).toInt32).toUInt32 >>> ((1 : Int32) &&& 31).toUInt32).toInt32)))])) _
    exact retI X0 hx Bd.returns (hb hby d8_79) hr
  · show Q8_k11 Z  h0 n0 _ s₁.heap _
    rw [e0]
    exact ⟨(congrArg (fun z => some (Value.int z)) (by decide : ((((1 : Int32) + (8 : Int32)) + (2 : Int32)) + (((((((((2048 : Int32) ^^^ (-1 : Int32)) &&& (2047 : Int32)).toUInt32 >>> ((8 : Int32) &&& 31).toUInt32).toInt32).toUInt32 >>> ((2 : Int32) &&& 31).toUInt32).toInt32).toUInt32 >>> ((1 : Int32) &&& 31).toUInt32).toInt32)) = (11 : Int32))), N0, rfl⟩
theorem ef_8_k12 (m : MethodId)  : entryFrame m #[(.int (4096 : Int32))] 2 = mkF m 0 #[.val (.int (4096 : Int32)), .unset] [] := by first | (simp [entryFrame, mkF, argsToLocals, Value.category]; done) | rfl
def Q8_k12 (Z : State)  (h0 : Heap) (n0 : Nat) (v : Option Value) (h : Heap) (L : List Loc) : Prop := v = some (.int (12 : Int32)) ∧ Fr n0 L ∧ h = h0
set_option maxRecDepth 65536 in
set_option maxHeartbeats 40000000 in
theorem rm8_k12 (l : Launch) (Z : State) (a0 : Array Value) (hw : ∀ d ∈ tables_1, d.before a0 Z = true) (ws : List Jvm.Cond)  (h0 : Heap) (n0 : Nat) (Z0 : n0 ≤ h0.size) :
    MetFree l (⟨"java/lang/Integer", "numberOfTrailingZeros", "(I)I"⟩ : MethodName) (head1 (Jvm.Cond.code (⟨"java/lang/Integer", "numberOfTrailingZeros", "(I)I"⟩ : MethodName) jdk_33_method_48_code 2 (some .int) :: ws) ({ frames := 0, cells := 0, slots := 0, locals := 0 } : Room)) (fun a U => a = #[(.int (4096 : Int32))] ∧ Z.Warmed39 U.vm ∧ U.heap = h0) (fun _ _ _ _ _ => True) (fun _ U o U' => ∃ v L, o = .returned v ∧ Q8_k12 Z  h0 n0 v U'.heap L ∧ FrameEnd U o U' L ({ frames := 0, cells := 0, slots := 0, locals := 0 } : Room).cells ({ frames := 0, cells := 0, slots := 0, locals := 0 } : Room).slots) := by
  refine MetFree.of_bodySF (plainFor_of_name pn_java_lang_Integer) hisR ?_
  intro p e s m args below meth c s₁ Bd hml0 hP hK
  obtain ⟨rfl, hZ, hh⟩ := hP
  have hx := Bd.exec
  have hby := Bd.bytes
  have hml : c.maxLocals = 2 := hml0
  have hown : s.vm.findClass "java/lang/Integer" = some m.cls := findClass_of_methodNamed Bd.named
  have hnm := (name_of_methodNamed Bd.named Bd.method).1
  have X0 : Stand p l e ({ frames := 0, cells := 0, slots := 0, locals := 0 } : Room) s m #[(.int (4096 : Int32))] below meth c s₁ [] 0 0 := Stand.of_body Bd
  have e0 : s₁.heap = h0 := by rw [← hh, Bd.state]; rfl
  have N0 := Fr.nil n0
  have pre0 : ∀ t, Steps p.tables e below (s₁.setTop (mkF m 0 #[.val (.int (4096 : Int32)), .unset] [])) t → Steps p.tables e below (s₁.setTop (entryFrame m #[(.int (4096 : Int32))] 2)) t := fun t k => castTop (ef_8_k12 m ) k
  obtain ⟨fs, hr, hrun, hended, hW, hsame⟩ := X0.leave (v := some (.int ((((1 : Int32) + (8 : Int32)) + (2 : Int32)) + (((((((((4096 : Int32) ^^^ (-1 : Int32)) &&& (4095 : Int32)).toUInt32 >>> ((8 : Int32) &&& 31).toUInt32).toInt32).toUInt32 >>> ((2 : Int32) &&& 31).toUInt32).toInt32).toUInt32 >>> ((1 : Int32) &&& 31).toUInt32).toInt32)))) (fun h => by rw [Bd.returns] at h; cases h)
  refine ⟨_, _, pre0 _ ?_, hrun, hended, _, _, rfl, ?_, ⟨_, rfl⟩, hW, hsame.mono (by decide) (by decide)⟩
  · show Steps p.tables e below (s₁.setTop (mkF m 0 #[.val (.int (4096 : Int32)), .unset] [])) _
    refine XS.iloadN X0.here hx rfl (hb hby d8_0) rfl ?_
    show Steps p.tables e below (s₁.setTop (mkF m 1 #[.val (.int (4096 : Int32)), .unset] [(.int (4096 : Int32))])) _
    refine XS.iconst X0.here hx rfl (hb hby d8_1) ?_
    show Steps p.tables e below (s₁.setTop (mkF m 2 #[.val (.int (4096 : Int32)), .unset] [(.int (-1 : Int32)), (.int (4096 : Int32))])) _
    refine XS.ixor X0.here hx rfl (hb hby d8_2) rfl ?_
    show Steps p.tables e below (s₁.setTop (mkF m 3 #[.val (.int (4096 : Int32)), .unset] [(.int ((4096 : Int32) ^^^ (-1 : Int32)))])) _
    refine XS.iloadN X0.here hx rfl (hb hby d8_3) rfl ?_
    show Steps p.tables e below (s₁.setTop (mkF m 4 #[.val (.int (4096 : Int32)), .unset] [(.int (4096 : Int32)), (.int ((4096 : Int32) ^^^ (-1 : Int32)))])) _
    refine XS.iconst X0.here hx rfl (hb hby d8_4) ?_
    show Steps p.tables e below (s₁.setTop (mkF m 5 #[.val (.int (4096 : Int32)), .unset] [(.int (1 : Int32)), (.int (4096 : Int32)), (.int ((4096 : Int32) ^^^ (-1 : Int32)))])) _
    refine XS.isub X0.here hx rfl (hb hby d8_5) rfl ?_
    show Steps p.tables e below (s₁.setTop (mkF m 6 #[.val (.int (4096 : Int32)), .unset] [(.int (4095 : Int32)), (.int ((4096 : Int32) ^^^ (-1 : Int32)))])) _
    refine XS.iand X0.here hx rfl (hb hby d8_6) rfl ?_
    show Steps p.tables e below (s₁.setTop (mkF m 7 #[.val (.int (4096 : Int32)), .unset] [(.int (((4096 : Int32) ^^^ (-1 : Int32)) &&& (4095 : Int32)))])) _
    refine XS.istoreN X0.here hx rfl (hb hby d8_7) rfl (l' := #[.val (.int (((4096 : Int32) ^^^ (-1 : Int32)) &&& (4095 : Int32))), .unset]) rfl ?_
    show Steps p.tables e below (s₁.setTop (mkF m 8 #[.val (.int (((4096 : Int32) ^^^ (-1 : Int32)) &&& (4095 : Int32))), .unset] [])) _
    refine XS.iloadN X0.here hx rfl (hb hby d8_8) rfl ?_
    show Steps p.tables e below (s₁.setTop (mkF m 9 #[.val (.int (((4096 : Int32) ^^^ (-1 : Int32)) &&& (4095 : Int32))), .unset] [(.int (((4096 : Int32) ^^^ (-1 : Int32)) &&& (4095 : Int32)))])) _
    refine XS.ifYes X0.here hx rfl (pc0 := 9) (pc' := 17) rfl (hb hby d8_9) rfl ((if0 _ _).trans (tlt (by decide : (0 : Int32) < (((4096 : Int32) ^^^ (-1 : Int32)) &&& (4095 : Int32)))).2.2.1) (by decide) (by decide) ?_
    show Steps p.tables e below (s₁.setTop (mkF m 17 #[.val (.int (((4096 : Int32) ^^^ (-1 : Int32)) &&& (4095 : Int32))), .unset] [])) _
    refine XS.iconst X0.here hx rfl (hb hby d8_17) ?_
    show Steps p.tables e below (s₁.setTop (mkF m 18 #[.val (.int (((4096 : Int32) ^^^ (-1 : Int32)) &&& (4095 : Int32))), .unset] [(.int (1 : Int32))])) _
    refine XS.istoreN X0.here hx rfl (hb hby d8_18) rfl (l' := #[.val (.int (((4096 : Int32) ^^^ (-1 : Int32)) &&& (4095 : Int32))), .val (.int (1 : Int32))]) rfl ?_
    show Steps p.tables e below (s₁.setTop (mkF m 19 #[.val (.int (((4096 : Int32) ^^^ (-1 : Int32)) &&& (4095 : Int32))), .val (.int (1 : Int32))] [])) _
    refine XS.iloadN X0.here hx rfl (hb hby d8_19) rfl ?_
    show Steps p.tables e below (s₁.setTop (mkF m 20 #[.val (.int (((4096 : Int32) ^^^ (-1 : Int32)) &&& (4095 : Int32))), .val (.int (1 : Int32))] [(.int (((4096 : Int32) ^^^ (-1 : Int32)) &&& (4095 : Int32)))])) _
    refine X0.ldcwInt hx hown (mvT hZ (wd_76 hw)) (g := (mkF m 20 #[.val (.int (((4096 : Int32) ^^^ (-1 : Int32)) &&& (4095 : Int32))), .val (.int (1 : Int32))] [(.int (((4096 : Int32) ^^^ (-1 : Int32)) &&& (4095 : Int32)))])) rfl (hb hby d8_20) _ ?_
    show Steps p.tables e below (s₁.setTop (mkF m 23 #[.val (.int (((4096 : Int32) ^^^ (-1 : Int32)) &&& (4095 : Int32))), .val (.int (1 : Int32))] [(.int (65536 : Int32)), (.int (((4096 : Int32) ^^^ (-1 : Int32)) &&& (4095 : Int32)))])) _
    refine XS.icmpYes X0.here hx rfl (pc0 := 23) (pc' := 34) rfl (hb hby d8_23) rfl (flt (by decide : ¬ ((65536 : Int32) < (((4096 : Int32) ^^^ (-1 : Int32)) &&& (4095 : Int32))))).2.2.2 (by decide) (by decide) ?_
    show Steps p.tables e below (s₁.setTop (mkF m 34 #[.val (.int (((4096 : Int32) ^^^ (-1 : Int32)) &&& (4095 : Int32))), .val (.int (1 : Int32))] [])) _
    refine XS.iloadN X0.here hx rfl (hb hby d8_34) rfl ?_
    show Steps p.tables e below (s₁.setTop (mkF m 35 #[.val (.int (((4096 : Int32) ^^^ (-1 : Int32)) &&& (4095 : Int32))), .val (.int (1 : Int32))] [(.int (((4096 : Int32) ^^^ (-1 : Int32)) &&& (4095 : Int32)))])) _
    refine XS.sipush X0.here hx rfl (hb hby d8_35) ?_
    show Steps p.tables e below (s₁.setTop (mkF m 38 #[.val (.int (((4096 : Int32) ^^^ (-1 : Int32)) &&& (4095 : Int32))), .val (.int (1 : Int32))] [(.int (256 : Int32)), (.int (((4096 : Int32) ^^^ (-1 : Int32)) &&& (4095 : Int32)))])) _
    refine XS.icmpNo X0.here hx rfl (hb hby d8_38) rfl (tlt (by decide : (256 : Int32) < (((4096 : Int32) ^^^ (-1 : Int32)) &&& (4095 : Int32)))).2.2.2 ?_
    show Steps p.tables e below (s₁.setTop (mkF m 41 #[.val (.int (((4096 : Int32) ^^^ (-1 : Int32)) &&& (4095 : Int32))), .val (.int (1 : Int32))] [])) _
    refine XS.iinc X0.here hx rfl (hb hby d8_41) rfl (l' := #[.val (.int (((4096 : Int32) ^^^ (-1 : Int32)) &&& (4095 : Int32))), .val (.int ((1 : Int32) + (8 : Int32)))]) rfl ?_
    show Steps p.tables e below (s₁.setTop (mkF m 44 #[.val (.int (((4096 : Int32) ^^^ (-1 : Int32)) &&& (4095 : Int32))), .val (.int ((1 : Int32) + (8 : Int32)))] [])) _
    refine XS.iloadN X0.here hx rfl (hb hby d8_44) rfl ?_
    show Steps p.tables e below (s₁.setTop (mkF m 45 #[.val (.int (((4096 : Int32) ^^^ (-1 : Int32)) &&& (4095 : Int32))), .val (.int ((1 : Int32) + (8 : Int32)))] [(.int (((4096 : Int32) ^^^ (-1 : Int32)) &&& (4095 : Int32)))])) _
    refine XS.bipush X0.here hx rfl (hb hby d8_45) ?_
    show Steps p.tables e below (s₁.setTop (mkF m 47 #[.val (.int (((4096 : Int32) ^^^ (-1 : Int32)) &&& (4095 : Int32))), .val (.int ((1 : Int32) + (8 : Int32)))] [(.int (8 : Int32)), (.int (((4096 : Int32) ^^^ (-1 : Int32)) &&& (4095 : Int32)))])) _
    refine XS.iushr X0.here hx rfl (hb hby d8_47) rfl ?_
    show Steps p.tables e below (s₁.setTop (mkF m 48 #[.val (.int (((4096 : Int32) ^^^ (-1 : Int32)) &&& (4095 : Int32))), .val (.int ((1 : Int32) + (8 : Int32)))] [(.int (((((4096 : Int32) ^^^ (-1 : Int32)) &&& (4095 : Int32)).toUInt32 >>> ((8 : Int32) &&& 31).toUInt32).toInt32))])) _
    refine XS.istoreN X0.here hx rfl (hb hby d8_48) rfl (l' := #[.val (.int (((((4096 : Int32) ^^^ (-1 : Int32)) &&& (4095 : Int32)).toUInt32 >>> ((8 : Int32) &&& 31).toUInt32).toInt32)), .val (.int ((1 : Int32) + (8 : Int32)))]) rfl ?_
    show Steps p.tables e below (s₁.setTop (mkF m 49 #[.val (.int (((((4096 : Int32) ^^^ (-1 : Int32)) &&& (4095 : Int32)).toUInt32 >>> ((8 : Int32) &&& 31).toUInt32).toInt32)), .val (.int ((1 : Int32) + (8 : Int32)))] [])) _
    refine XS.iloadN X0.here hx rfl (hb hby d8_49) rfl ?_
    show Steps p.tables e below (s₁.setTop (mkF m 50 #[.val (.int (((((4096 : Int32) ^^^ (-1 : Int32)) &&& (4095 : Int32)).toUInt32 >>> ((8 : Int32) &&& 31).toUInt32).toInt32)), .val (.int ((1 : Int32) + (8 : Int32)))] [(.int (((((4096 : Int32) ^^^ (-1 : Int32)) &&& (4095 : Int32)).toUInt32 >>> ((8 : Int32) &&& 31).toUInt32).toInt32))])) _
    refine XS.bipush X0.here hx rfl (hb hby d8_50) ?_
    show Steps p.tables e below (s₁.setTop (mkF m 52 #[.val (.int (((((4096 : Int32) ^^^ (-1 : Int32)) &&& (4095 : Int32)).toUInt32 >>> ((8 : Int32) &&& 31).toUInt32).toInt32)), .val (.int ((1 : Int32) + (8 : Int32)))] [(.int (16 : Int32)), (.int (((((4096 : Int32) ^^^ (-1 : Int32)) &&& (4095 : Int32)).toUInt32 >>> ((8 : Int32) &&& 31).toUInt32).toInt32))])) _
    refine XS.icmpYes X0.here hx rfl (pc0 := 52) (pc' := 62) rfl (hb hby d8_52) rfl (flt (by decide : ¬ ((16 : Int32) < (((((4096 : Int32) ^^^ (-1 : Int32)) &&& (4095 : Int32)).toUInt32 >>> ((8 : Int32) &&& 31).toUInt32).toInt32)))).2.2.2 (by decide) (by decide) ?_
    show Steps p.tables e below (s₁.setTop (mkF m 62 #[.val (.int (((((4096 : Int32) ^^^ (-1 : Int32)) &&& (4095 : Int32)).toUInt32 >>> ((8 : Int32) &&& 31).toUInt32).toInt32)), .val (.int ((1 : Int32) + (8 : Int32)))] [])) _
    refine XS.iloadN X0.here hx rfl (hb hby d8_62) rfl ?_
    show Steps p.tables e below (s₁.setTop (mkF m 63 #[.val (.int (((((4096 : Int32) ^^^ (-1 : Int32)) &&& (4095 : Int32)).toUInt32 >>> ((8 : Int32) &&& 31).toUInt32).toInt32)), .val (.int ((1 : Int32) + (8 : Int32)))] [(.int (((((4096 : Int32) ^^^ (-1 : Int32)) &&& (4095 : Int32)).toUInt32 >>> ((8 : Int32) &&& 31).toUInt32).toInt32))])) _
    refine XS.iconst X0.here hx rfl (hb hby d8_63) ?_
    show Steps p.tables e below (s₁.setTop (mkF m 64 #[.val (.int (((((4096 : Int32) ^^^ (-1 : Int32)) &&& (4095 : Int32)).toUInt32 >>> ((8 : Int32) &&& 31).toUInt32).toInt32)), .val (.int ((1 : Int32) + (8 : Int32)))] [(.int (4 : Int32)), (.int (((((4096 : Int32) ^^^ (-1 : Int32)) &&& (4095 : Int32)).toUInt32 >>> ((8 : Int32) &&& 31).toUInt32).toInt32))])) _
    refine XS.icmpNo X0.here hx rfl (hb hby d8_64) rfl (tlt (by decide : (4 : Int32) < (((((4096 : Int32) ^^^ (-1 : Int32)) &&& (4095 : Int32)).toUInt32 >>> ((8 : Int32) &&& 31).toUInt32).toInt32))).2.2.2 ?_
    show Steps p.tables e below (s₁.setTop (mkF m 67 #[.val (.int (((((4096 : Int32) ^^^ (-1 : Int32)) &&& (4095 : Int32)).toUInt32 >>> ((8 : Int32) &&& 31).toUInt32).toInt32)), .val (.int ((1 : Int32) + (8 : Int32)))] [])) _
    refine XS.iinc X0.here hx rfl (hb hby d8_67) rfl (l' := #[.val (.int (((((4096 : Int32) ^^^ (-1 : Int32)) &&& (4095 : Int32)).toUInt32 >>> ((8 : Int32) &&& 31).toUInt32).toInt32)), .val (.int (((1 : Int32) + (8 : Int32)) + (2 : Int32)))]) rfl ?_
    show Steps p.tables e below (s₁.setTop (mkF m 70 #[.val (.int (((((4096 : Int32) ^^^ (-1 : Int32)) &&& (4095 : Int32)).toUInt32 >>> ((8 : Int32) &&& 31).toUInt32).toInt32)), .val (.int (((1 : Int32) + (8 : Int32)) + (2 : Int32)))] [])) _
    refine XS.iloadN X0.here hx rfl (hb hby d8_70) rfl ?_
    show Steps p.tables e below (s₁.setTop (mkF m 71 #[.val (.int (((((4096 : Int32) ^^^ (-1 : Int32)) &&& (4095 : Int32)).toUInt32 >>> ((8 : Int32) &&& 31).toUInt32).toInt32)), .val (.int (((1 : Int32) + (8 : Int32)) + (2 : Int32)))] [(.int (((((4096 : Int32) ^^^ (-1 : Int32)) &&& (4095 : Int32)).toUInt32 >>> ((8 : Int32) &&& 31).toUInt32).toInt32))])) _
    refine XS.iconst X0.here hx rfl (hb hby d8_71) ?_
    show Steps p.tables e below (s₁.setTop (mkF m 72 #[.val (.int (((((4096 : Int32) ^^^ (-1 : Int32)) &&& (4095 : Int32)).toUInt32 >>> ((8 : Int32) &&& 31).toUInt32).toInt32)), .val (.int (((1 : Int32) + (8 : Int32)) + (2 : Int32)))] [(.int (2 : Int32)), (.int (((((4096 : Int32) ^^^ (-1 : Int32)) &&& (4095 : Int32)).toUInt32 >>> ((8 : Int32) &&& 31).toUInt32).toInt32))])) _
    refine XS.iushr X0.here hx rfl (hb hby d8_72) rfl ?_
    show Steps p.tables e below (s₁.setTop (mkF m 73 #[.val (.int (((((4096 : Int32) ^^^ (-1 : Int32)) &&& (4095 : Int32)).toUInt32 >>> ((8 : Int32) &&& 31).toUInt32).toInt32)), .val (.int (((1 : Int32) + (8 : Int32)) + (2 : Int32)))] [(.int (((((((4096 : Int32) ^^^ (-1 : Int32)) &&& (4095 : Int32)).toUInt32 >>> ((8 : Int32) &&& 31).toUInt32).toInt32).toUInt32 >>> ((2 : Int32) &&& 31).toUInt32).toInt32))])) _
    refine XS.istoreN X0.here hx rfl (hb hby d8_73) rfl (l' := #[.val (.int (((((((4096 : Int32) ^^^ (-1 : Int32)) &&& (4095 : Int32)).toUInt32 >>> ((8 : Int32) &&& 31).toUInt32).toInt32).toUInt32 >>> ((2 : Int32) &&& 31).toUInt32).toInt32)), .val (.int (((1 : Int32) + (8 : Int32)) + (2 : Int32)))]) rfl ?_
    show Steps p.tables e below (s₁.setTop (mkF m 74 #[.val (.int (((((((4096 : Int32) ^^^ (-1 : Int32)) &&& (4095 : Int32)).toUInt32 >>> ((8 : Int32) &&& 31).toUInt32).toInt32).toUInt32 >>> ((2 : Int32) &&& 31).toUInt32).toInt32)), .val (.int (((1 : Int32) + (8 : Int32)) + (2 : Int32)))] [])) _
    refine XS.iloadN X0.here hx rfl (hb hby d8_74) rfl ?_
    show Steps p.tables e below (s₁.setTop (mkF m 75 #[.val (.int (((((((4096 : Int32) ^^^ (-1 : Int32)) &&& (4095 : Int32)).toUInt32 >>> ((8 : Int32) &&& 31).toUInt32).toInt32).toUInt32 >>> ((2 : Int32) &&& 31).toUInt32).toInt32)), .val (.int (((1 : Int32) + (8 : Int32)) + (2 : Int32)))] [(.int (((1 : Int32) + (8 : Int32)) + (2 : Int32)))])) _
    refine XS.iloadN X0.here hx rfl (hb hby d8_75) rfl ?_
    show Steps p.tables e below (s₁.setTop (mkF m 76 #[.val (.int (((((((4096 : Int32) ^^^ (-1 : Int32)) &&& (4095 : Int32)).toUInt32 >>> ((8 : Int32) &&& 31).toUInt32).toInt32).toUInt32 >>> ((2 : Int32) &&& 31).toUInt32).toInt32)), .val (.int (((1 : Int32) + (8 : Int32)) + (2 : Int32)))] [(.int (((((((4096 : Int32) ^^^ (-1 : Int32)) &&& (4095 : Int32)).toUInt32 >>> ((8 : Int32) &&& 31).toUInt32).toInt32).toUInt32 >>> ((2 : Int32) &&& 31).toUInt32).toInt32)), (.int (((1 : Int32) + (8 : Int32)) + (2 : Int32)))])) _
    refine XS.iconst X0.here hx rfl (hb hby d8_76) ?_
    show Steps p.tables e below (s₁.setTop (mkF m 77 #[.val (.int (((((((4096 : Int32) ^^^ (-1 : Int32)) &&& (4095 : Int32)).toUInt32 >>> ((8 : Int32) &&& 31).toUInt32).toInt32).toUInt32 >>> ((2 : Int32) &&& 31).toUInt32).toInt32)), .val (.int (((1 : Int32) + (8 : Int32)) + (2 : Int32)))] [(.int (1 : Int32)), (.int (((((((4096 : Int32) ^^^ (-1 : Int32)) &&& (4095 : Int32)).toUInt32 >>> ((8 : Int32) &&& 31).toUInt32).toInt32).toUInt32 >>> ((2 : Int32) &&& 31).toUInt32).toInt32)), (.int (((1 : Int32) + (8 : Int32)) + (2 : Int32)))])) _
    refine XS.iushr X0.here hx rfl (hb hby d8_77) rfl ?_
    show Steps p.tables e below (s₁.setTop (mkF m 78 #[.val (.int (((((((4096 : Int32) ^^^ (-1 : Int32)) &&& (4095 : Int32)).toUInt32 >>> ((8 : Int32) &&& 31).toUInt32).toInt32).toUInt32 >>> ((2 : Int32) &&& 31).toUInt32).toInt32)), .val (.int (((1 : Int32) + (8 : Int32)) + (2 : Int32)))] [(.int (((((((((4096 : Int32) ^^^ (-1 : Int32)) &&& (4095 : Int32)).toUInt32 >>> ((8 : Int32) &&& 31).toUInt32).toInt32).toUInt32 >>> ((2 : Int32) &&& 31).toUInt32).toInt32).toUInt32 >>> ((1 : Int32) &&& 31).toUInt32).toInt32)), (.int (((1 : Int32) + (8 : Int32)) + (2 : Int32)))])) _
    refine XS.iadd X0.here hx rfl (hb hby d8_78) rfl ?_
    show Steps p.tables e below (s₁.setTop (mkF m 79 #[.val (.int (((((((4096 : Int32) ^^^ (-1 : Int32)) &&& (4095 : Int32)).toUInt32 >>> ((8 : Int32) &&& 31).toUInt32).toInt32).toUInt32 >>> ((2 : Int32) &&& 31).toUInt32).toInt32)), .val (.int (((1 : Int32) + (8 : Int32)) + (2 : Int32)))] [(.int ((((1 : Int32) + (8 : Int32)) + (2 : Int32)) + (((((((((4096 : Int32) ^^^ (-1 : Int32)) &&& (4095 : Int32)).toUInt32 >>> ((8 : Int32) &&& 31).toUInt32).toInt32).toUInt32 >>> ((2 : Int32) &&& 31).toUInt32).toInt32).toUInt32 >>> ((1 : Int32) &&& 31).toUInt32).toInt32)))])) _
    exact retI X0 hx Bd.returns (hb hby d8_79) hr
  · show Q8_k12 Z  h0 n0 _ s₁.heap _
    rw [e0]
    exact ⟨(congrArg (fun z => some (Value.int z)) (by decide : ((((1 : Int32) + (8 : Int32)) + (2 : Int32)) + (((((((((4096 : Int32) ^^^ (-1 : Int32)) &&& (4095 : Int32)).toUInt32 >>> ((8 : Int32) &&& 31).toUInt32).toInt32).toUInt32 >>> ((2 : Int32) &&& 31).toUInt32).toInt32).toUInt32 >>> ((1 : Int32) &&& 31).toUInt32).toInt32)) = (12 : Int32))), N0, rfl⟩
theorem ef_8_k13 (m : MethodId)  : entryFrame m #[(.int (8192 : Int32))] 2 = mkF m 0 #[.val (.int (8192 : Int32)), .unset] [] := by first | (simp [entryFrame, mkF, argsToLocals, Value.category]; done) | rfl
def Q8_k13 (Z : State)  (h0 : Heap) (n0 : Nat) (v : Option Value) (h : Heap) (L : List Loc) : Prop := v = some (.int (13 : Int32)) ∧ Fr n0 L ∧ h = h0
set_option maxRecDepth 65536 in
set_option maxHeartbeats 40000000 in
theorem rm8_k13 (l : Launch) (Z : State) (a0 : Array Value) (hw : ∀ d ∈ tables_1, d.before a0 Z = true) (ws : List Jvm.Cond)  (h0 : Heap) (n0 : Nat) (Z0 : n0 ≤ h0.size) :
    MetFree l (⟨"java/lang/Integer", "numberOfTrailingZeros", "(I)I"⟩ : MethodName) (head1 (Jvm.Cond.code (⟨"java/lang/Integer", "numberOfTrailingZeros", "(I)I"⟩ : MethodName) jdk_33_method_48_code 2 (some .int) :: ws) ({ frames := 0, cells := 0, slots := 0, locals := 0 } : Room)) (fun a U => a = #[(.int (8192 : Int32))] ∧ Z.Warmed39 U.vm ∧ U.heap = h0) (fun _ _ _ _ _ => True) (fun _ U o U' => ∃ v L, o = .returned v ∧ Q8_k13 Z  h0 n0 v U'.heap L ∧ FrameEnd U o U' L ({ frames := 0, cells := 0, slots := 0, locals := 0 } : Room).cells ({ frames := 0, cells := 0, slots := 0, locals := 0 } : Room).slots) := by
  refine MetFree.of_bodySF (plainFor_of_name pn_java_lang_Integer) hisR ?_
  intro p e s m args below meth c s₁ Bd hml0 hP hK
  obtain ⟨rfl, hZ, hh⟩ := hP
  have hx := Bd.exec
  have hby := Bd.bytes
  have hml : c.maxLocals = 2 := hml0
  have hown : s.vm.findClass "java/lang/Integer" = some m.cls := findClass_of_methodNamed Bd.named
  have hnm := (name_of_methodNamed Bd.named Bd.method).1
  have X0 : Stand p l e ({ frames := 0, cells := 0, slots := 0, locals := 0 } : Room) s m #[(.int (8192 : Int32))] below meth c s₁ [] 0 0 := Stand.of_body Bd
  have e0 : s₁.heap = h0 := by rw [← hh, Bd.state]; rfl
  have N0 := Fr.nil n0
  have pre0 : ∀ t, Steps p.tables e below (s₁.setTop (mkF m 0 #[.val (.int (8192 : Int32)), .unset] [])) t → Steps p.tables e below (s₁.setTop (entryFrame m #[(.int (8192 : Int32))] 2)) t := fun t k => castTop (ef_8_k13 m ) k
  obtain ⟨fs, hr, hrun, hended, hW, hsame⟩ := X0.leave (v := some (.int ((((1 : Int32) + (8 : Int32)) + (4 : Int32)) + (((((((((8192 : Int32) ^^^ (-1 : Int32)) &&& (8191 : Int32)).toUInt32 >>> ((8 : Int32) &&& 31).toUInt32).toInt32).toUInt32 >>> ((4 : Int32) &&& 31).toUInt32).toInt32).toUInt32 >>> ((1 : Int32) &&& 31).toUInt32).toInt32)))) (fun h => by rw [Bd.returns] at h; cases h)
  refine ⟨_, _, pre0 _ ?_, hrun, hended, _, _, rfl, ?_, ⟨_, rfl⟩, hW, hsame.mono (by decide) (by decide)⟩
  · show Steps p.tables e below (s₁.setTop (mkF m 0 #[.val (.int (8192 : Int32)), .unset] [])) _
    refine XS.iloadN X0.here hx rfl (hb hby d8_0) rfl ?_
    show Steps p.tables e below (s₁.setTop (mkF m 1 #[.val (.int (8192 : Int32)), .unset] [(.int (8192 : Int32))])) _
    refine XS.iconst X0.here hx rfl (hb hby d8_1) ?_
    show Steps p.tables e below (s₁.setTop (mkF m 2 #[.val (.int (8192 : Int32)), .unset] [(.int (-1 : Int32)), (.int (8192 : Int32))])) _
    refine XS.ixor X0.here hx rfl (hb hby d8_2) rfl ?_
    show Steps p.tables e below (s₁.setTop (mkF m 3 #[.val (.int (8192 : Int32)), .unset] [(.int ((8192 : Int32) ^^^ (-1 : Int32)))])) _
    refine XS.iloadN X0.here hx rfl (hb hby d8_3) rfl ?_
    show Steps p.tables e below (s₁.setTop (mkF m 4 #[.val (.int (8192 : Int32)), .unset] [(.int (8192 : Int32)), (.int ((8192 : Int32) ^^^ (-1 : Int32)))])) _
    refine XS.iconst X0.here hx rfl (hb hby d8_4) ?_
    show Steps p.tables e below (s₁.setTop (mkF m 5 #[.val (.int (8192 : Int32)), .unset] [(.int (1 : Int32)), (.int (8192 : Int32)), (.int ((8192 : Int32) ^^^ (-1 : Int32)))])) _
    refine XS.isub X0.here hx rfl (hb hby d8_5) rfl ?_
    show Steps p.tables e below (s₁.setTop (mkF m 6 #[.val (.int (8192 : Int32)), .unset] [(.int (8191 : Int32)), (.int ((8192 : Int32) ^^^ (-1 : Int32)))])) _
    refine XS.iand X0.here hx rfl (hb hby d8_6) rfl ?_
    show Steps p.tables e below (s₁.setTop (mkF m 7 #[.val (.int (8192 : Int32)), .unset] [(.int (((8192 : Int32) ^^^ (-1 : Int32)) &&& (8191 : Int32)))])) _
    refine XS.istoreN X0.here hx rfl (hb hby d8_7) rfl (l' := #[.val (.int (((8192 : Int32) ^^^ (-1 : Int32)) &&& (8191 : Int32))), .unset]) rfl ?_
    show Steps p.tables e below (s₁.setTop (mkF m 8 #[.val (.int (((8192 : Int32) ^^^ (-1 : Int32)) &&& (8191 : Int32))), .unset] [])) _
    refine XS.iloadN X0.here hx rfl (hb hby d8_8) rfl ?_
    show Steps p.tables e below (s₁.setTop (mkF m 9 #[.val (.int (((8192 : Int32) ^^^ (-1 : Int32)) &&& (8191 : Int32))), .unset] [(.int (((8192 : Int32) ^^^ (-1 : Int32)) &&& (8191 : Int32)))])) _
    refine XS.ifYes X0.here hx rfl (pc0 := 9) (pc' := 17) rfl (hb hby d8_9) rfl ((if0 _ _).trans (tlt (by decide : (0 : Int32) < (((8192 : Int32) ^^^ (-1 : Int32)) &&& (8191 : Int32)))).2.2.1) (by decide) (by decide) ?_
    show Steps p.tables e below (s₁.setTop (mkF m 17 #[.val (.int (((8192 : Int32) ^^^ (-1 : Int32)) &&& (8191 : Int32))), .unset] [])) _
    refine XS.iconst X0.here hx rfl (hb hby d8_17) ?_
    show Steps p.tables e below (s₁.setTop (mkF m 18 #[.val (.int (((8192 : Int32) ^^^ (-1 : Int32)) &&& (8191 : Int32))), .unset] [(.int (1 : Int32))])) _
    refine XS.istoreN X0.here hx rfl (hb hby d8_18) rfl (l' := #[.val (.int (((8192 : Int32) ^^^ (-1 : Int32)) &&& (8191 : Int32))), .val (.int (1 : Int32))]) rfl ?_
    show Steps p.tables e below (s₁.setTop (mkF m 19 #[.val (.int (((8192 : Int32) ^^^ (-1 : Int32)) &&& (8191 : Int32))), .val (.int (1 : Int32))] [])) _
    refine XS.iloadN X0.here hx rfl (hb hby d8_19) rfl ?_
    show Steps p.tables e below (s₁.setTop (mkF m 20 #[.val (.int (((8192 : Int32) ^^^ (-1 : Int32)) &&& (8191 : Int32))), .val (.int (1 : Int32))] [(.int (((8192 : Int32) ^^^ (-1 : Int32)) &&& (8191 : Int32)))])) _
    refine X0.ldcwInt hx hown (mvT hZ (wd_76 hw)) (g := (mkF m 20 #[.val (.int (((8192 : Int32) ^^^ (-1 : Int32)) &&& (8191 : Int32))), .val (.int (1 : Int32))] [(.int (((8192 : Int32) ^^^ (-1 : Int32)) &&& (8191 : Int32)))])) rfl (hb hby d8_20) _ ?_
    show Steps p.tables e below (s₁.setTop (mkF m 23 #[.val (.int (((8192 : Int32) ^^^ (-1 : Int32)) &&& (8191 : Int32))), .val (.int (1 : Int32))] [(.int (65536 : Int32)), (.int (((8192 : Int32) ^^^ (-1 : Int32)) &&& (8191 : Int32)))])) _
    refine XS.icmpYes X0.here hx rfl (pc0 := 23) (pc' := 34) rfl (hb hby d8_23) rfl (flt (by decide : ¬ ((65536 : Int32) < (((8192 : Int32) ^^^ (-1 : Int32)) &&& (8191 : Int32))))).2.2.2 (by decide) (by decide) ?_
    show Steps p.tables e below (s₁.setTop (mkF m 34 #[.val (.int (((8192 : Int32) ^^^ (-1 : Int32)) &&& (8191 : Int32))), .val (.int (1 : Int32))] [])) _
    refine XS.iloadN X0.here hx rfl (hb hby d8_34) rfl ?_
    show Steps p.tables e below (s₁.setTop (mkF m 35 #[.val (.int (((8192 : Int32) ^^^ (-1 : Int32)) &&& (8191 : Int32))), .val (.int (1 : Int32))] [(.int (((8192 : Int32) ^^^ (-1 : Int32)) &&& (8191 : Int32)))])) _
    refine XS.sipush X0.here hx rfl (hb hby d8_35) ?_
    show Steps p.tables e below (s₁.setTop (mkF m 38 #[.val (.int (((8192 : Int32) ^^^ (-1 : Int32)) &&& (8191 : Int32))), .val (.int (1 : Int32))] [(.int (256 : Int32)), (.int (((8192 : Int32) ^^^ (-1 : Int32)) &&& (8191 : Int32)))])) _
    refine XS.icmpNo X0.here hx rfl (hb hby d8_38) rfl (tlt (by decide : (256 : Int32) < (((8192 : Int32) ^^^ (-1 : Int32)) &&& (8191 : Int32)))).2.2.2 ?_
    show Steps p.tables e below (s₁.setTop (mkF m 41 #[.val (.int (((8192 : Int32) ^^^ (-1 : Int32)) &&& (8191 : Int32))), .val (.int (1 : Int32))] [])) _
    refine XS.iinc X0.here hx rfl (hb hby d8_41) rfl (l' := #[.val (.int (((8192 : Int32) ^^^ (-1 : Int32)) &&& (8191 : Int32))), .val (.int ((1 : Int32) + (8 : Int32)))]) rfl ?_
    show Steps p.tables e below (s₁.setTop (mkF m 44 #[.val (.int (((8192 : Int32) ^^^ (-1 : Int32)) &&& (8191 : Int32))), .val (.int ((1 : Int32) + (8 : Int32)))] [])) _
    refine XS.iloadN X0.here hx rfl (hb hby d8_44) rfl ?_
    show Steps p.tables e below (s₁.setTop (mkF m 45 #[.val (.int (((8192 : Int32) ^^^ (-1 : Int32)) &&& (8191 : Int32))), .val (.int ((1 : Int32) + (8 : Int32)))] [(.int (((8192 : Int32) ^^^ (-1 : Int32)) &&& (8191 : Int32)))])) _
    refine XS.bipush X0.here hx rfl (hb hby d8_45) ?_
    show Steps p.tables e below (s₁.setTop (mkF m 47 #[.val (.int (((8192 : Int32) ^^^ (-1 : Int32)) &&& (8191 : Int32))), .val (.int ((1 : Int32) + (8 : Int32)))] [(.int (8 : Int32)), (.int (((8192 : Int32) ^^^ (-1 : Int32)) &&& (8191 : Int32)))])) _
    refine XS.iushr X0.here hx rfl (hb hby d8_47) rfl ?_
    show Steps p.tables e below (s₁.setTop (mkF m 48 #[.val (.int (((8192 : Int32) ^^^ (-1 : Int32)) &&& (8191 : Int32))), .val (.int ((1 : Int32) + (8 : Int32)))] [(.int (((((8192 : Int32) ^^^ (-1 : Int32)) &&& (8191 : Int32)).toUInt32 >>> ((8 : Int32) &&& 31).toUInt32).toInt32))])) _
    refine XS.istoreN X0.here hx rfl (hb hby d8_48) rfl (l' := #[.val (.int (((((8192 : Int32) ^^^ (-1 : Int32)) &&& (8191 : Int32)).toUInt32 >>> ((8 : Int32) &&& 31).toUInt32).toInt32)), .val (.int ((1 : Int32) + (8 : Int32)))]) rfl ?_
    show Steps p.tables e below (s₁.setTop (mkF m 49 #[.val (.int (((((8192 : Int32) ^^^ (-1 : Int32)) &&& (8191 : Int32)).toUInt32 >>> ((8 : Int32) &&& 31).toUInt32).toInt32)), .val (.int ((1 : Int32) + (8 : Int32)))] [])) _
    refine XS.iloadN X0.here hx rfl (hb hby d8_49) rfl ?_
    show Steps p.tables e below (s₁.setTop (mkF m 50 #[.val (.int (((((8192 : Int32) ^^^ (-1 : Int32)) &&& (8191 : Int32)).toUInt32 >>> ((8 : Int32) &&& 31).toUInt32).toInt32)), .val (.int ((1 : Int32) + (8 : Int32)))] [(.int (((((8192 : Int32) ^^^ (-1 : Int32)) &&& (8191 : Int32)).toUInt32 >>> ((8 : Int32) &&& 31).toUInt32).toInt32))])) _
    refine XS.bipush X0.here hx rfl (hb hby d8_50) ?_
    show Steps p.tables e below (s₁.setTop (mkF m 52 #[.val (.int (((((8192 : Int32) ^^^ (-1 : Int32)) &&& (8191 : Int32)).toUInt32 >>> ((8 : Int32) &&& 31).toUInt32).toInt32)), .val (.int ((1 : Int32) + (8 : Int32)))] [(.int (16 : Int32)), (.int (((((8192 : Int32) ^^^ (-1 : Int32)) &&& (8191 : Int32)).toUInt32 >>> ((8 : Int32) &&& 31).toUInt32).toInt32))])) _
    refine XS.icmpNo X0.here hx rfl (hb hby d8_52) rfl (tlt (by decide : (16 : Int32) < (((((8192 : Int32) ^^^ (-1 : Int32)) &&& (8191 : Int32)).toUInt32 >>> ((8 : Int32) &&& 31).toUInt32).toInt32))).2.2.2 ?_
    show Steps p.tables e below (s₁.setTop (mkF m 55 #[.val (.int (((((8192 : Int32) ^^^ (-1 : Int32)) &&& (8191 : Int32)).toUInt32 >>> ((8 : Int32) &&& 31).toUInt32).toInt32)), .val (.int ((1 : Int32) + (8 : Int32)))] [])) _
    refine XS.iinc X0.here hx rfl (hb hby d8_55) rfl (l' := #[.val (.int (((((8192 : Int32) ^^^ (-1 : Int32)) &&& (8191 : Int32)).toUInt32 >>> ((8 : Int32) &&& 31).toUInt32).toInt32)), .val (.int (((1 : Int32) + (8 : Int32)) + (4 : Int32)))]) rfl ?_
    show Steps p.tables e below (s₁.setTop (mkF m 58 #[.val (.int (((((8192 : Int32) ^^^ (-1 : Int32)) &&& (8191 : Int32)).toUInt32 >>> ((8 : Int32) &&& 31).toUInt32).toInt32)), .val (.int (((1 : Int32) + (8 : Int32)) + (4 : Int32)))] [])) _
    refine XS.iloadN X0.here hx rfl (hb hby d8_58) rfl ?_
    show Steps p.tables e below (s₁.setTop (mkF m 59 #[.val (.int (((((8192 : Int32) ^^^ (-1 : Int32)) &&& (8191 : Int32)).toUInt32 >>> ((8 : Int32) &&& 31).toUInt32).toInt32)), .val (.int (((1 : Int32) + (8 : Int32)) + (4 : Int32)))] [(.int (((((8192 : Int32) ^^^ (-1 : Int32)) &&& (8191 : Int32)).toUInt32 >>> ((8 : Int32) &&& 31).toUInt32).toInt32))])) _
    refine XS.iconst X0.here hx rfl (hb hby d8_59) ?_
    show Steps p.tables e below (s₁.setTop (mkF m 60 #[.val (.int (((((8192 : Int32) ^^^ (-1 : Int32)) &&& (8191 : Int32)).toUInt32 >>> ((8 : Int32) &&& 31).toUInt32).toInt32)), .val (.int (((1 : Int32) + (8 : Int32)) + (4 : Int32)))] [(.int (4 : Int32)), (.int (((((8192 : Int32) ^^^ (-1 : Int32)) &&& (8191 : Int32)).toUInt32 >>> ((8 : Int32) &&& 31).toUInt32).toInt32))])) _
    refine XS.iushr X0.here hx rfl (hb hby d8_60) rfl ?_
    show Steps p.tables e below (s₁.setTop (mkF m 61 #[.val (.int (((((8192 : Int32) ^^^ (-1 : Int32)) &&& (8191 : Int32)).toUInt32 >>> ((8 : Int32) &&& 31).toUInt32).toInt32)), .val (.int (((1 : Int32) + (8 : Int32)) + (4 : Int32)))] [(.int (((((((8192 : Int32) ^^^ (-1 : Int32)) &&& (8191 : Int32)).toUInt32 >>> ((8 : Int32) &&& 31).toUInt32).toInt32).toUInt32 >>> ((4 : Int32) &&& 31).toUInt32).toInt32))])) _
    refine XS.istoreN X0.here hx rfl (hb hby d8_61) rfl (l' := #[.val (.int (((((((8192 : Int32) ^^^ (-1 : Int32)) &&& (8191 : Int32)).toUInt32 >>> ((8 : Int32) &&& 31).toUInt32).toInt32).toUInt32 >>> ((4 : Int32) &&& 31).toUInt32).toInt32)), .val (.int (((1 : Int32) + (8 : Int32)) + (4 : Int32)))]) rfl ?_
    show Steps p.tables e below (s₁.setTop (mkF m 62 #[.val (.int (((((((8192 : Int32) ^^^ (-1 : Int32)) &&& (8191 : Int32)).toUInt32 >>> ((8 : Int32) &&& 31).toUInt32).toInt32).toUInt32 >>> ((4 : Int32) &&& 31).toUInt32).toInt32)), .val (.int (((1 : Int32) + (8 : Int32)) + (4 : Int32)))] [])) _
    refine XS.iloadN X0.here hx rfl (hb hby d8_62) rfl ?_
    show Steps p.tables e below (s₁.setTop (mkF m 63 #[.val (.int (((((((8192 : Int32) ^^^ (-1 : Int32)) &&& (8191 : Int32)).toUInt32 >>> ((8 : Int32) &&& 31).toUInt32).toInt32).toUInt32 >>> ((4 : Int32) &&& 31).toUInt32).toInt32)), .val (.int (((1 : Int32) + (8 : Int32)) + (4 : Int32)))] [(.int (((((((8192 : Int32) ^^^ (-1 : Int32)) &&& (8191 : Int32)).toUInt32 >>> ((8 : Int32) &&& 31).toUInt32).toInt32).toUInt32 >>> ((4 : Int32) &&& 31).toUInt32).toInt32))])) _
    refine XS.iconst X0.here hx rfl (hb hby d8_63) ?_
    show Steps p.tables e below (s₁.setTop (mkF m 64 #[.val (.int (((((((8192 : Int32) ^^^ (-1 : Int32)) &&& (8191 : Int32)).toUInt32 >>> ((8 : Int32) &&& 31).toUInt32).toInt32).toUInt32 >>> ((4 : Int32) &&& 31).toUInt32).toInt32)), .val (.int (((1 : Int32) + (8 : Int32)) + (4 : Int32)))] [(.int (4 : Int32)), (.int (((((((8192 : Int32) ^^^ (-1 : Int32)) &&& (8191 : Int32)).toUInt32 >>> ((8 : Int32) &&& 31).toUInt32).toInt32).toUInt32 >>> ((4 : Int32) &&& 31).toUInt32).toInt32))])) _
    refine XS.icmpYes X0.here hx rfl (pc0 := 64) (pc' := 74) rfl (hb hby d8_64) rfl (flt (by decide : ¬ ((4 : Int32) < (((((((8192 : Int32) ^^^ (-1 : Int32)) &&& (8191 : Int32)).toUInt32 >>> ((8 : Int32) &&& 31).toUInt32).toInt32).toUInt32 >>> ((4 : Int32) &&& 31).toUInt32).toInt32)))).2.2.2 (by decide) (by decide) ?_
    show Steps p.tables e below (s₁.setTop (mkF m 74 #[.val (.int (((((((8192 : Int32) ^^^ (-1 : Int32)) &&& (8191 : Int32)).toUInt32 >>> ((8 : Int32) &&& 31).toUInt32).toInt32).toUInt32 >>> ((4 : Int32) &&& 31).toUInt32).toInt32)), .val (.int (((1 : Int32) + (8 : Int32)) + (4 : Int32)))] [])) _
    refine XS.iloadN X0.here hx rfl (hb hby d8_74) rfl ?_
    show Steps p.tables e below (s₁.setTop (mkF m 75 #[.val (.int (((((((8192 : Int32) ^^^ (-1 : Int32)) &&& (8191 : Int32)).toUInt32 >>> ((8 : Int32) &&& 31).toUInt32).toInt32).toUInt32 >>> ((4 : Int32) &&& 31).toUInt32).toInt32)), .val (.int (((1 : Int32) + (8 : Int32)) + (4 : Int32)))] [(.int (((1 : Int32) + (8 : Int32)) + (4 : Int32)))])) _
    refine XS.iloadN X0.here hx rfl (hb hby d8_75) rfl ?_
    show Steps p.tables e below (s₁.setTop (mkF m 76 #[.val (.int (((((((8192 : Int32) ^^^ (-1 : Int32)) &&& (8191 : Int32)).toUInt32 >>> ((8 : Int32) &&& 31).toUInt32).toInt32).toUInt32 >>> ((4 : Int32) &&& 31).toUInt32).toInt32)), .val (.int (((1 : Int32) + (8 : Int32)) + (4 : Int32)))] [(.int (((((((8192 : Int32) ^^^ (-1 : Int32)) &&& (8191 : Int32)).toUInt32 >>> ((8 : Int32) &&& 31).toUInt32).toInt32).toUInt32 >>> ((4 : Int32) &&& 31).toUInt32).toInt32)), (.int (((1 : Int32) + (8 : Int32)) + (4 : Int32)))])) _
    refine XS.iconst X0.here hx rfl (hb hby d8_76) ?_
    show Steps p.tables e below (s₁.setTop (mkF m 77 #[.val (.int (((((((8192 : Int32) ^^^ (-1 : Int32)) &&& (8191 : Int32)).toUInt32 >>> ((8 : Int32) &&& 31).toUInt32).toInt32).toUInt32 >>> ((4 : Int32) &&& 31).toUInt32).toInt32)), .val (.int (((1 : Int32) + (8 : Int32)) + (4 : Int32)))] [(.int (1 : Int32)), (.int (((((((8192 : Int32) ^^^ (-1 : Int32)) &&& (8191 : Int32)).toUInt32 >>> ((8 : Int32) &&& 31).toUInt32).toInt32).toUInt32 >>> ((4 : Int32) &&& 31).toUInt32).toInt32)), (.int (((1 : Int32) + (8 : Int32)) + (4 : Int32)))])) _
    refine XS.iushr X0.here hx rfl (hb hby d8_77) rfl ?_
    show Steps p.tables e below (s₁.setTop (mkF m 78 #[.val (.int (((((((8192 : Int32) ^^^ (-1 : Int32)) &&& (8191 : Int32)).toUInt32 >>> ((8 : Int32) &&& 31).toUInt32).toInt32).toUInt32 >>> ((4 : Int32) &&& 31).toUInt32).toInt32)), .val (.int (((1 : Int32) + (8 : Int32)) + (4 : Int32)))] [(.int (((((((((8192 : Int32) ^^^ (-1 : Int32)) &&& (8191 : Int32)).toUInt32 >>> ((8 : Int32) &&& 31).toUInt32).toInt32).toUInt32 >>> ((4 : Int32) &&& 31).toUInt32).toInt32).toUInt32 >>> ((1 : Int32) &&& 31).toUInt32).toInt32)), (.int (((1 : Int32) + (8 : Int32)) + (4 : Int32)))])) _
    refine XS.iadd X0.here hx rfl (hb hby d8_78) rfl ?_
    show Steps p.tables e below (s₁.setTop (mkF m 79 #[.val (.int (((((((8192 : Int32) ^^^ (-1 : Int32)) &&& (8191 : Int32)).toUInt32 >>> ((8 : Int32) &&& 31).toUInt32).toInt32).toUInt32 >>> ((4 : Int32) &&& 31).toUInt32).toInt32)), .val (.int (((1 : Int32) + (8 : Int32)) + (4 : Int32)))] [(.int ((((1 : Int32) + (8 : Int32)) + (4 : Int32)) + (((((((((8192 : Int32) ^^^ (-1 : Int32)) &&& (8191 : Int32)).toUInt32 >>> ((8 : Int32) &&& 31).toUInt32).toInt32).toUInt32 >>> ((4 : Int32) &&& 31).toUInt32).toInt32).toUInt32 >>> ((1 : Int32) &&& 31).toUInt32).toInt32)))])) _
    exact retI X0 hx Bd.returns (hb hby d8_79) hr
  · show Q8_k13 Z  h0 n0 _ s₁.heap _
    rw [e0]
    exact ⟨(congrArg (fun z => some (Value.int z)) (by decide : ((((1 : Int32) + (8 : Int32)) + (4 : Int32)) + (((((((((8192 : Int32) ^^^ (-1 : Int32)) &&& (8191 : Int32)).toUInt32 >>> ((8 : Int32) &&& 31).toUInt32).toInt32).toUInt32 >>> ((4 : Int32) &&& 31).toUInt32).toInt32).toUInt32 >>> ((1 : Int32) &&& 31).toUInt32).toInt32)) = (13 : Int32))), N0, rfl⟩
theorem ef_8_k14 (m : MethodId)  : entryFrame m #[(.int (16384 : Int32))] 2 = mkF m 0 #[.val (.int (16384 : Int32)), .unset] [] := by first | (simp [entryFrame, mkF, argsToLocals, Value.category]; done) | rfl
def Q8_k14 (Z : State)  (h0 : Heap) (n0 : Nat) (v : Option Value) (h : Heap) (L : List Loc) : Prop := v = some (.int (14 : Int32)) ∧ Fr n0 L ∧ h = h0
set_option maxRecDepth 65536 in
set_option maxHeartbeats 40000000 in
theorem rm8_k14 (l : Launch) (Z : State) (a0 : Array Value) (hw : ∀ d ∈ tables_1, d.before a0 Z = true) (ws : List Jvm.Cond)  (h0 : Heap) (n0 : Nat) (Z0 : n0 ≤ h0.size) :
    MetFree l (⟨"java/lang/Integer", "numberOfTrailingZeros", "(I)I"⟩ : MethodName) (head1 (Jvm.Cond.code (⟨"java/lang/Integer", "numberOfTrailingZeros", "(I)I"⟩ : MethodName) jdk_33_method_48_code 2 (some .int) :: ws) ({ frames := 0, cells := 0, slots := 0, locals := 0 } : Room)) (fun a U => a = #[(.int (16384 : Int32))] ∧ Z.Warmed39 U.vm ∧ U.heap = h0) (fun _ _ _ _ _ => True) (fun _ U o U' => ∃ v L, o = .returned v ∧ Q8_k14 Z  h0 n0 v U'.heap L ∧ FrameEnd U o U' L ({ frames := 0, cells := 0, slots := 0, locals := 0 } : Room).cells ({ frames := 0, cells := 0, slots := 0, locals := 0 } : Room).slots) := by
  refine MetFree.of_bodySF (plainFor_of_name pn_java_lang_Integer) hisR ?_
  intro p e s m args below meth c s₁ Bd hml0 hP hK
  obtain ⟨rfl, hZ, hh⟩ := hP
  have hx := Bd.exec
  have hby := Bd.bytes
  have hml : c.maxLocals = 2 := hml0
  have hown : s.vm.findClass "java/lang/Integer" = some m.cls := findClass_of_methodNamed Bd.named
  have hnm := (name_of_methodNamed Bd.named Bd.method).1
  have X0 : Stand p l e ({ frames := 0, cells := 0, slots := 0, locals := 0 } : Room) s m #[(.int (16384 : Int32))] below meth c s₁ [] 0 0 := Stand.of_body Bd
  have e0 : s₁.heap = h0 := by rw [← hh, Bd.state]; rfl
  have N0 := Fr.nil n0
  have pre0 : ∀ t, Steps p.tables e below (s₁.setTop (mkF m 0 #[.val (.int (16384 : Int32)), .unset] [])) t → Steps p.tables e below (s₁.setTop (entryFrame m #[(.int (16384 : Int32))] 2)) t := fun t k => castTop (ef_8_k14 m ) k
  obtain ⟨fs, hr, hrun, hended, hW, hsame⟩ := X0.leave (v := some (.int ((((1 : Int32) + (8 : Int32)) + (4 : Int32)) + (((((((((16384 : Int32) ^^^ (-1 : Int32)) &&& (16383 : Int32)).toUInt32 >>> ((8 : Int32) &&& 31).toUInt32).toInt32).toUInt32 >>> ((4 : Int32) &&& 31).toUInt32).toInt32).toUInt32 >>> ((1 : Int32) &&& 31).toUInt32).toInt32)))) (fun h => by rw [Bd.returns] at h; cases h)
  refine ⟨_, _, pre0 _ ?_, hrun, hended, _, _, rfl, ?_, ⟨_, rfl⟩, hW, hsame.mono (by decide) (by decide)⟩
  · show Steps p.tables e below (s₁.setTop (mkF m 0 #[.val (.int (16384 : Int32)), .unset] [])) _
    refine XS.iloadN X0.here hx rfl (hb hby d8_0) rfl ?_
    show Steps p.tables e below (s₁.setTop (mkF m 1 #[.val (.int (16384 : Int32)), .unset] [(.int (16384 : Int32))])) _
    refine XS.iconst X0.here hx rfl (hb hby d8_1) ?_
    show Steps p.tables e below (s₁.setTop (mkF m 2 #[.val (.int (16384 : Int32)), .unset] [(.int (-1 : Int32)), (.int (16384 : Int32))])) _
    refine XS.ixor X0.here hx rfl (hb hby d8_2) rfl ?_
    show Steps p.tables e below (s₁.setTop (mkF m 3 #[.val (.int (16384 : Int32)), .unset] [(.int ((16384 : Int32) ^^^ (-1 : Int32)))])) _
    refine XS.iloadN X0.here hx rfl (hb hby d8_3) rfl ?_
    show Steps p.tables e below (s₁.setTop (mkF m 4 #[.val (.int (16384 : Int32)), .unset] [(.int (16384 : Int32)), (.int ((16384 : Int32) ^^^ (-1 : Int32)))])) _
    refine XS.iconst X0.here hx rfl (hb hby d8_4) ?_
    show Steps p.tables e below (s₁.setTop (mkF m 5 #[.val (.int (16384 : Int32)), .unset] [(.int (1 : Int32)), (.int (16384 : Int32)), (.int ((16384 : Int32) ^^^ (-1 : Int32)))])) _
    refine XS.isub X0.here hx rfl (hb hby d8_5) rfl ?_
    show Steps p.tables e below (s₁.setTop (mkF m 6 #[.val (.int (16384 : Int32)), .unset] [(.int (16383 : Int32)), (.int ((16384 : Int32) ^^^ (-1 : Int32)))])) _
    refine XS.iand X0.here hx rfl (hb hby d8_6) rfl ?_
    show Steps p.tables e below (s₁.setTop (mkF m 7 #[.val (.int (16384 : Int32)), .unset] [(.int (((16384 : Int32) ^^^ (-1 : Int32)) &&& (16383 : Int32)))])) _
    refine XS.istoreN X0.here hx rfl (hb hby d8_7) rfl (l' := #[.val (.int (((16384 : Int32) ^^^ (-1 : Int32)) &&& (16383 : Int32))), .unset]) rfl ?_
    show Steps p.tables e below (s₁.setTop (mkF m 8 #[.val (.int (((16384 : Int32) ^^^ (-1 : Int32)) &&& (16383 : Int32))), .unset] [])) _
    refine XS.iloadN X0.here hx rfl (hb hby d8_8) rfl ?_
    show Steps p.tables e below (s₁.setTop (mkF m 9 #[.val (.int (((16384 : Int32) ^^^ (-1 : Int32)) &&& (16383 : Int32))), .unset] [(.int (((16384 : Int32) ^^^ (-1 : Int32)) &&& (16383 : Int32)))])) _
    refine XS.ifYes X0.here hx rfl (pc0 := 9) (pc' := 17) rfl (hb hby d8_9) rfl ((if0 _ _).trans (tlt (by decide : (0 : Int32) < (((16384 : Int32) ^^^ (-1 : Int32)) &&& (16383 : Int32)))).2.2.1) (by decide) (by decide) ?_
    show Steps p.tables e below (s₁.setTop (mkF m 17 #[.val (.int (((16384 : Int32) ^^^ (-1 : Int32)) &&& (16383 : Int32))), .unset] [])) _
    refine XS.iconst X0.here hx rfl (hb hby d8_17) ?_
    show Steps p.tables e below (s₁.setTop (mkF m 18 #[.val (.int (((16384 : Int32) ^^^ (-1 : Int32)) &&& (16383 : Int32))), .unset] [(.int (1 : Int32))])) _
    refine XS.istoreN X0.here hx rfl (hb hby d8_18) rfl (l' := #[.val (.int (((16384 : Int32) ^^^ (-1 : Int32)) &&& (16383 : Int32))), .val (.int (1 : Int32))]) rfl ?_
    show Steps p.tables e below (s₁.setTop (mkF m 19 #[.val (.int (((16384 : Int32) ^^^ (-1 : Int32)) &&& (16383 : Int32))), .val (.int (1 : Int32))] [])) _
    refine XS.iloadN X0.here hx rfl (hb hby d8_19) rfl ?_
    show Steps p.tables e below (s₁.setTop (mkF m 20 #[.val (.int (((16384 : Int32) ^^^ (-1 : Int32)) &&& (16383 : Int32))), .val (.int (1 : Int32))] [(.int (((16384 : Int32) ^^^ (-1 : Int32)) &&& (16383 : Int32)))])) _
    refine X0.ldcwInt hx hown (mvT hZ (wd_76 hw)) (g := (mkF m 20 #[.val (.int (((16384 : Int32) ^^^ (-1 : Int32)) &&& (16383 : Int32))), .val (.int (1 : Int32))] [(.int (((16384 : Int32) ^^^ (-1 : Int32)) &&& (16383 : Int32)))])) rfl (hb hby d8_20) _ ?_
    show Steps p.tables e below (s₁.setTop (mkF m 23 #[.val (.int (((16384 : Int32) ^^^ (-1 : Int32)) &&& (16383 : Int32))), .val (.int (1 : Int32))] [(.int (65536 : Int32)), (.int (((16384 : Int32) ^^^ (-1 : Int32)) &&& (16383 : Int32)))])) _
    refine XS.icmpYes X0.here hx rfl (pc0 := 23) (pc' := 34) rfl (hb hby d8_23) rfl (flt (by decide : ¬ ((65536 : Int32) < (((16384 : Int32) ^^^ (-1 : Int32)) &&& (16383 : Int32))))).2.2.2 (by decide) (by decide) ?_
    show Steps p.tables e below (s₁.setTop (mkF m 34 #[.val (.int (((16384 : Int32) ^^^ (-1 : Int32)) &&& (16383 : Int32))), .val (.int (1 : Int32))] [])) _
    refine XS.iloadN X0.here hx rfl (hb hby d8_34) rfl ?_
    show Steps p.tables e below (s₁.setTop (mkF m 35 #[.val (.int (((16384 : Int32) ^^^ (-1 : Int32)) &&& (16383 : Int32))), .val (.int (1 : Int32))] [(.int (((16384 : Int32) ^^^ (-1 : Int32)) &&& (16383 : Int32)))])) _
    refine XS.sipush X0.here hx rfl (hb hby d8_35) ?_
    show Steps p.tables e below (s₁.setTop (mkF m 38 #[.val (.int (((16384 : Int32) ^^^ (-1 : Int32)) &&& (16383 : Int32))), .val (.int (1 : Int32))] [(.int (256 : Int32)), (.int (((16384 : Int32) ^^^ (-1 : Int32)) &&& (16383 : Int32)))])) _
    refine XS.icmpNo X0.here hx rfl (hb hby d8_38) rfl (tlt (by decide : (256 : Int32) < (((16384 : Int32) ^^^ (-1 : Int32)) &&& (16383 : Int32)))).2.2.2 ?_
    show Steps p.tables e below (s₁.setTop (mkF m 41 #[.val (.int (((16384 : Int32) ^^^ (-1 : Int32)) &&& (16383 : Int32))), .val (.int (1 : Int32))] [])) _
    refine XS.iinc X0.here hx rfl (hb hby d8_41) rfl (l' := #[.val (.int (((16384 : Int32) ^^^ (-1 : Int32)) &&& (16383 : Int32))), .val (.int ((1 : Int32) + (8 : Int32)))]) rfl ?_
    show Steps p.tables e below (s₁.setTop (mkF m 44 #[.val (.int (((16384 : Int32) ^^^ (-1 : Int32)) &&& (16383 : Int32))), .val (.int ((1 : Int32) + (8 : Int32)))] [])) _
    refine XS.iloadN X0.here hx rfl (hb hby d8_44) rfl ?_
    show Steps p.tables e below (s₁.setTop (mkF m 45 #[.val (.int (((16384 : Int32) ^^^ (-1 : Int32)) &&& (16383 : Int32))), .val (.int ((1 : Int32) + (8 : Int32)))] [(.int (((16384 : Int32) ^^^ (-1 : Int32)) &&& (16383 : Int32)))])) _
    refine XS.bipush X0.here hx rfl (hb hby d8_45) ?_
    show Steps p.tables e below (s₁.setTop (mkF m 47 #[.val (.int (((16384 : Int32) ^^^ (-1 : Int32)) &&& (16383 : Int32))), .val (.int ((1 : Int32) + (8 : Int32)))] [(.int (8 : Int32)), (.int (((16384 : Int32) ^^^ (-1 : Int32)) &&& (16383 : Int32)))])) _
    refine XS.iushr X0.here hx rfl (hb hby d8_47) rfl ?_
    show Steps p.tables e below (s₁.setTop (mkF m 48 #[.val (.int (((16384 : Int32) ^^^ (-1 : Int32)) &&& (16383 : Int32))), .val (.int ((1 : Int32) + (8 : Int32)))] [(.int (((((16384 : Int32) ^^^ (-1 : Int32)) &&& (16383 : Int32)).toUInt32 >>> ((8 : Int32) &&& 31).toUInt32).toInt32))])) _
    refine XS.istoreN X0.here hx rfl (hb hby d8_48) rfl (l' := #[.val (.int (((((16384 : Int32) ^^^ (-1 : Int32)) &&& (16383 : Int32)).toUInt32 >>> ((8 : Int32) &&& 31).toUInt32).toInt32)), .val (.int ((1 : Int32) + (8 : Int32)))]) rfl ?_
    show Steps p.tables e below (s₁.setTop (mkF m 49 #[.val (.int (((((16384 : Int32) ^^^ (-1 : Int32)) &&& (16383 : Int32)).toUInt32 >>> ((8 : Int32) &&& 31).toUInt32).toInt32)), .val (.int ((1 : Int32) + (8 : Int32)))] [])) _
    refine XS.iloadN X0.here hx rfl (hb hby d8_49) rfl ?_
    show Steps p.tables e below (s₁.setTop (mkF m 50 #[.val (.int (((((16384 : Int32) ^^^ (-1 : Int32)) &&& (16383 : Int32)).toUInt32 >>> ((8 : Int32) &&& 31).toUInt32).toInt32)), .val (.int ((1 : Int32) + (8 : Int32)))] [(.int (((((16384 : Int32) ^^^ (-1 : Int32)) &&& (16383 : Int32)).toUInt32 >>> ((8 : Int32) &&& 31).toUInt32).toInt32))])) _
    refine XS.bipush X0.here hx rfl (hb hby d8_50) ?_
    show Steps p.tables e below (s₁.setTop (mkF m 52 #[.val (.int (((((16384 : Int32) ^^^ (-1 : Int32)) &&& (16383 : Int32)).toUInt32 >>> ((8 : Int32) &&& 31).toUInt32).toInt32)), .val (.int ((1 : Int32) + (8 : Int32)))] [(.int (16 : Int32)), (.int (((((16384 : Int32) ^^^ (-1 : Int32)) &&& (16383 : Int32)).toUInt32 >>> ((8 : Int32) &&& 31).toUInt32).toInt32))])) _
    refine XS.icmpNo X0.here hx rfl (hb hby d8_52) rfl (tlt (by decide : (16 : Int32) < (((((16384 : Int32) ^^^ (-1 : Int32)) &&& (16383 : Int32)).toUInt32 >>> ((8 : Int32) &&& 31).toUInt32).toInt32))).2.2.2 ?_
    show Steps p.tables e below (s₁.setTop (mkF m 55 #[.val (.int (((((16384 : Int32) ^^^ (-1 : Int32)) &&& (16383 : Int32)).toUInt32 >>> ((8 : Int32) &&& 31).toUInt32).toInt32)), .val (.int ((1 : Int32) + (8 : Int32)))] [])) _
    refine XS.iinc X0.here hx rfl (hb hby d8_55) rfl (l' := #[.val (.int (((((16384 : Int32) ^^^ (-1 : Int32)) &&& (16383 : Int32)).toUInt32 >>> ((8 : Int32) &&& 31).toUInt32).toInt32)), .val (.int (((1 : Int32) + (8 : Int32)) + (4 : Int32)))]) rfl ?_
    show Steps p.tables e below (s₁.setTop (mkF m 58 #[.val (.int (((((16384 : Int32) ^^^ (-1 : Int32)) &&& (16383 : Int32)).toUInt32 >>> ((8 : Int32) &&& 31).toUInt32).toInt32)), .val (.int (((1 : Int32) + (8 : Int32)) + (4 : Int32)))] [])) _
    refine XS.iloadN X0.here hx rfl (hb hby d8_58) rfl ?_
    show Steps p.tables e below (s₁.setTop (mkF m 59 #[.val (.int (((((16384 : Int32) ^^^ (-1 : Int32)) &&& (16383 : Int32)).toUInt32 >>> ((8 : Int32) &&& 31).toUInt32).toInt32)), .val (.int (((1 : Int32) + (8 : Int32)) + (4 : Int32)))] [(.int (((((16384 : Int32) ^^^ (-1 : Int32)) &&& (16383 : Int32)).toUInt32 >>> ((8 : Int32) &&& 31).toUInt32).toInt32))])) _
    refine XS.iconst X0.here hx rfl (hb hby d8_59) ?_
    show Steps p.tables e below (s₁.setTop (mkF m 60 #[.val (.int (((((16384 : Int32) ^^^ (-1 : Int32)) &&& (16383 : Int32)).toUInt32 >>> ((8 : Int32) &&& 31).toUInt32).toInt32)), .val (.int (((1 : Int32) + (8 : Int32)) + (4 : Int32)))] [(.int (4 : Int32)), (.int (((((16384 : Int32) ^^^ (-1 : Int32)) &&& (16383 : Int32)).toUInt32 >>> ((8 : Int32) &&& 31).toUInt32).toInt32))])) _
    refine XS.iushr X0.here hx rfl (hb hby d8_60) rfl ?_
    show Steps p.tables e below (s₁.setTop (mkF m 61 #[.val (.int (((((16384 : Int32) ^^^ (-1 : Int32)) &&& (16383 : Int32)).toUInt32 >>> ((8 : Int32) &&& 31).toUInt32).toInt32)), .val (.int (((1 : Int32) + (8 : Int32)) + (4 : Int32)))] [(.int (((((((16384 : Int32) ^^^ (-1 : Int32)) &&& (16383 : Int32)).toUInt32 >>> ((8 : Int32) &&& 31).toUInt32).toInt32).toUInt32 >>> ((4 : Int32) &&& 31).toUInt32).toInt32))])) _
    refine XS.istoreN X0.here hx rfl (hb hby d8_61) rfl (l' := #[.val (.int (((((((16384 : Int32) ^^^ (-1 : Int32)) &&& (16383 : Int32)).toUInt32 >>> ((8 : Int32) &&& 31).toUInt32).toInt32).toUInt32 >>> ((4 : Int32) &&& 31).toUInt32).toInt32)), .val (.int (((1 : Int32) + (8 : Int32)) + (4 : Int32)))]) rfl ?_
    show Steps p.tables e below (s₁.setTop (mkF m 62 #[.val (.int (((((((16384 : Int32) ^^^ (-1 : Int32)) &&& (16383 : Int32)).toUInt32 >>> ((8 : Int32) &&& 31).toUInt32).toInt32).toUInt32 >>> ((4 : Int32) &&& 31).toUInt32).toInt32)), .val (.int (((1 : Int32) + (8 : Int32)) + (4 : Int32)))] [])) _
    refine XS.iloadN X0.here hx rfl (hb hby d8_62) rfl ?_
    show Steps p.tables e below (s₁.setTop (mkF m 63 #[.val (.int (((((((16384 : Int32) ^^^ (-1 : Int32)) &&& (16383 : Int32)).toUInt32 >>> ((8 : Int32) &&& 31).toUInt32).toInt32).toUInt32 >>> ((4 : Int32) &&& 31).toUInt32).toInt32)), .val (.int (((1 : Int32) + (8 : Int32)) + (4 : Int32)))] [(.int (((((((16384 : Int32) ^^^ (-1 : Int32)) &&& (16383 : Int32)).toUInt32 >>> ((8 : Int32) &&& 31).toUInt32).toInt32).toUInt32 >>> ((4 : Int32) &&& 31).toUInt32).toInt32))])) _
    refine XS.iconst X0.here hx rfl (hb hby d8_63) ?_
    show Steps p.tables e below (s₁.setTop (mkF m 64 #[.val (.int (((((((16384 : Int32) ^^^ (-1 : Int32)) &&& (16383 : Int32)).toUInt32 >>> ((8 : Int32) &&& 31).toUInt32).toInt32).toUInt32 >>> ((4 : Int32) &&& 31).toUInt32).toInt32)), .val (.int (((1 : Int32) + (8 : Int32)) + (4 : Int32)))] [(.int (4 : Int32)), (.int (((((((16384 : Int32) ^^^ (-1 : Int32)) &&& (16383 : Int32)).toUInt32 >>> ((8 : Int32) &&& 31).toUInt32).toInt32).toUInt32 >>> ((4 : Int32) &&& 31).toUInt32).toInt32))])) _
    refine XS.icmpYes X0.here hx rfl (pc0 := 64) (pc' := 74) rfl (hb hby d8_64) rfl (flt (by decide : ¬ ((4 : Int32) < (((((((16384 : Int32) ^^^ (-1 : Int32)) &&& (16383 : Int32)).toUInt32 >>> ((8 : Int32) &&& 31).toUInt32).toInt32).toUInt32 >>> ((4 : Int32) &&& 31).toUInt32).toInt32)))).2.2.2 (by decide) (by decide) ?_
    show Steps p.tables e below (s₁.setTop (mkF m 74 #[.val (.int (((((((16384 : Int32) ^^^ (-1 : Int32)) &&& (16383 : Int32)).toUInt32 >>> ((8 : Int32) &&& 31).toUInt32).toInt32).toUInt32 >>> ((4 : Int32) &&& 31).toUInt32).toInt32)), .val (.int (((1 : Int32) + (8 : Int32)) + (4 : Int32)))] [])) _
    refine XS.iloadN X0.here hx rfl (hb hby d8_74) rfl ?_
    show Steps p.tables e below (s₁.setTop (mkF m 75 #[.val (.int (((((((16384 : Int32) ^^^ (-1 : Int32)) &&& (16383 : Int32)).toUInt32 >>> ((8 : Int32) &&& 31).toUInt32).toInt32).toUInt32 >>> ((4 : Int32) &&& 31).toUInt32).toInt32)), .val (.int (((1 : Int32) + (8 : Int32)) + (4 : Int32)))] [(.int (((1 : Int32) + (8 : Int32)) + (4 : Int32)))])) _
    refine XS.iloadN X0.here hx rfl (hb hby d8_75) rfl ?_
    show Steps p.tables e below (s₁.setTop (mkF m 76 #[.val (.int (((((((16384 : Int32) ^^^ (-1 : Int32)) &&& (16383 : Int32)).toUInt32 >>> ((8 : Int32) &&& 31).toUInt32).toInt32).toUInt32 >>> ((4 : Int32) &&& 31).toUInt32).toInt32)), .val (.int (((1 : Int32) + (8 : Int32)) + (4 : Int32)))] [(.int (((((((16384 : Int32) ^^^ (-1 : Int32)) &&& (16383 : Int32)).toUInt32 >>> ((8 : Int32) &&& 31).toUInt32).toInt32).toUInt32 >>> ((4 : Int32) &&& 31).toUInt32).toInt32)), (.int (((1 : Int32) + (8 : Int32)) + (4 : Int32)))])) _
    refine XS.iconst X0.here hx rfl (hb hby d8_76) ?_
    show Steps p.tables e below (s₁.setTop (mkF m 77 #[.val (.int (((((((16384 : Int32) ^^^ (-1 : Int32)) &&& (16383 : Int32)).toUInt32 >>> ((8 : Int32) &&& 31).toUInt32).toInt32).toUInt32 >>> ((4 : Int32) &&& 31).toUInt32).toInt32)), .val (.int (((1 : Int32) + (8 : Int32)) + (4 : Int32)))] [(.int (1 : Int32)), (.int (((((((16384 : Int32) ^^^ (-1 : Int32)) &&& (16383 : Int32)).toUInt32 >>> ((8 : Int32) &&& 31).toUInt32).toInt32).toUInt32 >>> ((4 : Int32) &&& 31).toUInt32).toInt32)), (.int (((1 : Int32) + (8 : Int32)) + (4 : Int32)))])) _
    refine XS.iushr X0.here hx rfl (hb hby d8_77) rfl ?_
    show Steps p.tables e below (s₁.setTop (mkF m 78 #[.val (.int (((((((16384 : Int32) ^^^ (-1 : Int32)) &&& (16383 : Int32)).toUInt32 >>> ((8 : Int32) &&& 31).toUInt32).toInt32).toUInt32 >>> ((4 : Int32) &&& 31).toUInt32).toInt32)), .val (.int (((1 : Int32) + (8 : Int32)) + (4 : Int32)))] [(.int (((((((((16384 : Int32) ^^^ (-1 : Int32)) &&& (16383 : Int32)).toUInt32 >>> ((8 : Int32) &&& 31).toUInt32).toInt32).toUInt32 >>> ((4 : Int32) &&& 31).toUInt32).toInt32).toUInt32 >>> ((1 : Int32) &&& 31).toUInt32).toInt32)), (.int (((1 : Int32) + (8 : Int32)) + (4 : Int32)))])) _
    refine XS.iadd X0.here hx rfl (hb hby d8_78) rfl ?_
    show Steps p.tables e below (s₁.setTop (mkF m 79 #[.val (.int (((((((16384 : Int32) ^^^ (-1 : Int32)) &&& (16383 : Int32)).toUInt32 >>> ((8 : Int32) &&& 31).toUInt32).toInt32).toUInt32 >>> ((4 : Int32) &&& 31).toUInt32).toInt32)), .val (.int (((1 : Int32) + (8 : Int32)) + (4 : Int32)))] [(.int ((((1 : Int32) + (8 : Int32)) + (4 : Int32)) + (((((((((16384 : Int32) ^^^ (-1 : Int32)) &&& (16383 : Int32)).toUInt32 >>> ((8 : Int32) &&& 31).toUInt32).toInt32).toUInt32 >>> ((4 : Int32) &&& 31).toUInt32).toInt32).toUInt32 >>> ((1 : Int32) &&& 31).toUInt32).toInt32)))])) _
    exact retI X0 hx Bd.returns (hb hby d8_79) hr
  · show Q8_k14 Z  h0 n0 _ s₁.heap _
    rw [e0]
    exact ⟨(congrArg (fun z => some (Value.int z)) (by decide : ((((1 : Int32) + (8 : Int32)) + (4 : Int32)) + (((((((((16384 : Int32) ^^^ (-1 : Int32)) &&& (16383 : Int32)).toUInt32 >>> ((8 : Int32) &&& 31).toUInt32).toInt32).toUInt32 >>> ((4 : Int32) &&& 31).toUInt32).toInt32).toUInt32 >>> ((1 : Int32) &&& 31).toUInt32).toInt32)) = (14 : Int32))), N0, rfl⟩
theorem ef_8_k15 (m : MethodId)  : entryFrame m #[(.int (32768 : Int32))] 2 = mkF m 0 #[.val (.int (32768 : Int32)), .unset] [] := by first | (simp [entryFrame, mkF, argsToLocals, Value.category]; done) | rfl
def Q8_k15 (Z : State)  (h0 : Heap) (n0 : Nat) (v : Option Value) (h : Heap) (L : List Loc) : Prop := v = some (.int (15 : Int32)) ∧ Fr n0 L ∧ h = h0
set_option maxRecDepth 65536 in
set_option maxHeartbeats 40000000 in
theorem rm8_k15 (l : Launch) (Z : State) (a0 : Array Value) (hw : ∀ d ∈ tables_1, d.before a0 Z = true) (ws : List Jvm.Cond)  (h0 : Heap) (n0 : Nat) (Z0 : n0 ≤ h0.size) :
    MetFree l (⟨"java/lang/Integer", "numberOfTrailingZeros", "(I)I"⟩ : MethodName) (head1 (Jvm.Cond.code (⟨"java/lang/Integer", "numberOfTrailingZeros", "(I)I"⟩ : MethodName) jdk_33_method_48_code 2 (some .int) :: ws) ({ frames := 0, cells := 0, slots := 0, locals := 0 } : Room)) (fun a U => a = #[(.int (32768 : Int32))] ∧ Z.Warmed39 U.vm ∧ U.heap = h0) (fun _ _ _ _ _ => True) (fun _ U o U' => ∃ v L, o = .returned v ∧ Q8_k15 Z  h0 n0 v U'.heap L ∧ FrameEnd U o U' L ({ frames := 0, cells := 0, slots := 0, locals := 0 } : Room).cells ({ frames := 0, cells := 0, slots := 0, locals := 0 } : Room).slots) := by
  refine MetFree.of_bodySF (plainFor_of_name pn_java_lang_Integer) hisR ?_
  intro p e s m args below meth c s₁ Bd hml0 hP hK
  obtain ⟨rfl, hZ, hh⟩ := hP
  have hx := Bd.exec
  have hby := Bd.bytes
  have hml : c.maxLocals = 2 := hml0
  have hown : s.vm.findClass "java/lang/Integer" = some m.cls := findClass_of_methodNamed Bd.named
  have hnm := (name_of_methodNamed Bd.named Bd.method).1
  have X0 : Stand p l e ({ frames := 0, cells := 0, slots := 0, locals := 0 } : Room) s m #[(.int (32768 : Int32))] below meth c s₁ [] 0 0 := Stand.of_body Bd
  have e0 : s₁.heap = h0 := by rw [← hh, Bd.state]; rfl
  have N0 := Fr.nil n0
  have pre0 : ∀ t, Steps p.tables e below (s₁.setTop (mkF m 0 #[.val (.int (32768 : Int32)), .unset] [])) t → Steps p.tables e below (s₁.setTop (entryFrame m #[(.int (32768 : Int32))] 2)) t := fun t k => castTop (ef_8_k15 m ) k
  obtain ⟨fs, hr, hrun, hended, hW, hsame⟩ := X0.leave (v := some (.int (((((1 : Int32) + (8 : Int32)) + (4 : Int32)) + (2 : Int32)) + (((((((((((32768 : Int32) ^^^ (-1 : Int32)) &&& (32767 : Int32)).toUInt32 >>> ((8 : Int32) &&& 31).toUInt32).toInt32).toUInt32 >>> ((4 : Int32) &&& 31).toUInt32).toInt32).toUInt32 >>> ((2 : Int32) &&& 31).toUInt32).toInt32).toUInt32 >>> ((1 : Int32) &&& 31).toUInt32).toInt32)))) (fun h => by rw [Bd.returns] at h; cases h)
  refine ⟨_, _, pre0 _ ?_, hrun, hended, _, _, rfl, ?_, ⟨_, rfl⟩, hW, hsame.mono (by decide) (by decide)⟩
  · show Steps p.tables e below (s₁.setTop (mkF m 0 #[.val (.int (32768 : Int32)), .unset] [])) _
    refine XS.iloadN X0.here hx rfl (hb hby d8_0) rfl ?_
    show Steps p.tables e below (s₁.setTop (mkF m 1 #[.val (.int (32768 : Int32)), .unset] [(.int (32768 : Int32))])) _
    refine XS.iconst X0.here hx rfl (hb hby d8_1) ?_
    show Steps p.tables e below (s₁.setTop (mkF m 2 #[.val (.int (32768 : Int32)), .unset] [(.int (-1 : Int32)), (.int (32768 : Int32))])) _
    refine XS.ixor X0.here hx rfl (hb hby d8_2) rfl ?_
    show Steps p.tables e below (s₁.setTop (mkF m 3 #[.val (.int (32768 : Int32)), .unset] [(.int ((32768 : Int32) ^^^ (-1 : Int32)))])) _
    refine XS.iloadN X0.here hx rfl (hb hby d8_3) rfl ?_
    show Steps p.tables e below (s₁.setTop (mkF m 4 #[.val (.int (32768 : Int32)), .unset] [(.int (32768 : Int32)), (.int ((32768 : Int32) ^^^ (-1 : Int32)))])) _
    refine XS.iconst X0.here hx rfl (hb hby d8_4) ?_
    show Steps p.tables e below (s₁.setTop (mkF m 5 #[.val (.int (32768 : Int32)), .unset] [(.int (1 : Int32)), (.int (32768 : Int32)), (.int ((32768 : Int32) ^^^ (-1 : Int32)))])) _
    refine XS.isub X0.here hx rfl (hb hby d8_5) rfl ?_
    show Steps p.tables e below (s₁.setTop (mkF m 6 #[.val (.int (32768 : Int32)), .unset] [(.int (32767 : Int32)), (.int ((32768 : Int32) ^^^ (-1 : Int32)))])) _
    refine XS.iand X0.here hx rfl (hb hby d8_6) rfl ?_
    show Steps p.tables e below (s₁.setTop (mkF m 7 #[.val (.int (32768 : Int32)), .unset] [(.int (((32768 : Int32) ^^^ (-1 : Int32)) &&& (32767 : Int32)))])) _
    refine XS.istoreN X0.here hx rfl (hb hby d8_7) rfl (l' := #[.val (.int (((32768 : Int32) ^^^ (-1 : Int32)) &&& (32767 : Int32))), .unset]) rfl ?_
    show Steps p.tables e below (s₁.setTop (mkF m 8 #[.val (.int (((32768 : Int32) ^^^ (-1 : Int32)) &&& (32767 : Int32))), .unset] [])) _
    refine XS.iloadN X0.here hx rfl (hb hby d8_8) rfl ?_
    show Steps p.tables e below (s₁.setTop (mkF m 9 #[.val (.int (((32768 : Int32) ^^^ (-1 : Int32)) &&& (32767 : Int32))), .unset] [(.int (((32768 : Int32) ^^^ (-1 : Int32)) &&& (32767 : Int32)))])) _
    refine XS.ifYes X0.here hx rfl (pc0 := 9) (pc' := 17) rfl (hb hby d8_9) rfl ((if0 _ _).trans (tlt (by decide : (0 : Int32) < (((32768 : Int32) ^^^ (-1 : Int32)) &&& (32767 : Int32)))).2.2.1) (by decide) (by decide) ?_
    show Steps p.tables e below (s₁.setTop (mkF m 17 #[.val (.int (((32768 : Int32) ^^^ (-1 : Int32)) &&& (32767 : Int32))), .unset] [])) _
    refine XS.iconst X0.here hx rfl (hb hby d8_17) ?_
    show Steps p.tables e below (s₁.setTop (mkF m 18 #[.val (.int (((32768 : Int32) ^^^ (-1 : Int32)) &&& (32767 : Int32))), .unset] [(.int (1 : Int32))])) _
    refine XS.istoreN X0.here hx rfl (hb hby d8_18) rfl (l' := #[.val (.int (((32768 : Int32) ^^^ (-1 : Int32)) &&& (32767 : Int32))), .val (.int (1 : Int32))]) rfl ?_
    show Steps p.tables e below (s₁.setTop (mkF m 19 #[.val (.int (((32768 : Int32) ^^^ (-1 : Int32)) &&& (32767 : Int32))), .val (.int (1 : Int32))] [])) _
    refine XS.iloadN X0.here hx rfl (hb hby d8_19) rfl ?_
    show Steps p.tables e below (s₁.setTop (mkF m 20 #[.val (.int (((32768 : Int32) ^^^ (-1 : Int32)) &&& (32767 : Int32))), .val (.int (1 : Int32))] [(.int (((32768 : Int32) ^^^ (-1 : Int32)) &&& (32767 : Int32)))])) _
    refine X0.ldcwInt hx hown (mvT hZ (wd_76 hw)) (g := (mkF m 20 #[.val (.int (((32768 : Int32) ^^^ (-1 : Int32)) &&& (32767 : Int32))), .val (.int (1 : Int32))] [(.int (((32768 : Int32) ^^^ (-1 : Int32)) &&& (32767 : Int32)))])) rfl (hb hby d8_20) _ ?_
    show Steps p.tables e below (s₁.setTop (mkF m 23 #[.val (.int (((32768 : Int32) ^^^ (-1 : Int32)) &&& (32767 : Int32))), .val (.int (1 : Int32))] [(.int (65536 : Int32)), (.int (((32768 : Int32) ^^^ (-1 : Int32)) &&& (32767 : Int32)))])) _
    refine XS.icmpYes X0.here hx rfl (pc0 := 23) (pc' := 34) rfl (hb hby d8_23) rfl (flt (by decide : ¬ ((65536 : Int32) < (((32768 : Int32) ^^^ (-1 : Int32)) &&& (32767 : Int32))))).2.2.2 (by decide) (by decide) ?_
    show Steps p.tables e below (s₁.setTop (mkF m 34 #[.val (.int (((32768 : Int32) ^^^ (-1 : Int32)) &&& (32767 : Int32))), .val (.int (1 : Int32))] [])) _
    refine XS.iloadN X0.here hx rfl (hb hby d8_34) rfl ?_
    show Steps p.tables e below (s₁.setTop (mkF m 35 #[.val (.int (((32768 : Int32) ^^^ (-1 : Int32)) &&& (32767 : Int32))), .val (.int (1 : Int32))] [(.int (((32768 : Int32) ^^^ (-1 : Int32)) &&& (32767 : Int32)))])) _
    refine XS.sipush X0.here hx rfl (hb hby d8_35) ?_
    show Steps p.tables e below (s₁.setTop (mkF m 38 #[.val (.int (((32768 : Int32) ^^^ (-1 : Int32)) &&& (32767 : Int32))), .val (.int (1 : Int32))] [(.int (256 : Int32)), (.int (((32768 : Int32) ^^^ (-1 : Int32)) &&& (32767 : Int32)))])) _
    refine XS.icmpNo X0.here hx rfl (hb hby d8_38) rfl (tlt (by decide : (256 : Int32) < (((32768 : Int32) ^^^ (-1 : Int32)) &&& (32767 : Int32)))).2.2.2 ?_
    show Steps p.tables e below (s₁.setTop (mkF m 41 #[.val (.int (((32768 : Int32) ^^^ (-1 : Int32)) &&& (32767 : Int32))), .val (.int (1 : Int32))] [])) _
    refine XS.iinc X0.here hx rfl (hb hby d8_41) rfl (l' := #[.val (.int (((32768 : Int32) ^^^ (-1 : Int32)) &&& (32767 : Int32))), .val (.int ((1 : Int32) + (8 : Int32)))]) rfl ?_
    show Steps p.tables e below (s₁.setTop (mkF m 44 #[.val (.int (((32768 : Int32) ^^^ (-1 : Int32)) &&& (32767 : Int32))), .val (.int ((1 : Int32) + (8 : Int32)))] [])) _
    refine XS.iloadN X0.here hx rfl (hb hby d8_44) rfl ?_
    show Steps p.tables e below (s₁.setTop (mkF m 45 #[.val (.int (((32768 : Int32) ^^^ (-1 : Int32)) &&& (32767 : Int32))), .val (.int ((1 : Int32) + (8 : Int32)))] [(.int (((32768 : Int32) ^^^ (-1 : Int32)) &&& (32767 : Int32)))])) _
    refine XS.bipush X0.here hx rfl (hb hby d8_45) ?_
    show Steps p.tables e below (s₁.setTop (mkF m 47 #[.val (.int (((32768 : Int32) ^^^ (-1 : Int32)) &&& (32767 : Int32))), .val (.int ((1 : Int32) + (8 : Int32)))] [(.int (8 : Int32)), (.int (((32768 : Int32) ^^^ (-1 : Int32)) &&& (32767 : Int32)))])) _
    refine XS.iushr X0.here hx rfl (hb hby d8_47) rfl ?_
    show Steps p.tables e below (s₁.setTop (mkF m 48 #[.val (.int (((32768 : Int32) ^^^ (-1 : Int32)) &&& (32767 : Int32))), .val (.int ((1 : Int32) + (8 : Int32)))] [(.int (((((32768 : Int32) ^^^ (-1 : Int32)) &&& (32767 : Int32)).toUInt32 >>> ((8 : Int32) &&& 31).toUInt32).toInt32))])) _
    refine XS.istoreN X0.here hx rfl (hb hby d8_48) rfl (l' := #[.val (.int (((((32768 : Int32) ^^^ (-1 : Int32)) &&& (32767 : Int32)).toUInt32 >>> ((8 : Int32) &&& 31).toUInt32).toInt32)), .val (.int ((1 : Int32) + (8 : Int32)))]) rfl ?_
    show Steps p.tables e below (s₁.setTop (mkF m 49 #[.val (.int (((((32768 : Int32) ^^^ (-1 : Int32)) &&& (32767 : Int32)).toUInt32 >>> ((8 : Int32) &&& 31).toUInt32).toInt32)), .val (.int ((1 : Int32) + (8 : Int32)))] [])) _
    refine XS.iloadN X0.here hx rfl (hb hby d8_49) rfl ?_
    show Steps p.tables e below (s₁.setTop (mkF m 50 #[.val (.int (((((32768 : Int32) ^^^ (-1 : Int32)) &&& (32767 : Int32)).toUInt32 >>> ((8 : Int32) &&& 31).toUInt32).toInt32)), .val (.int ((1 : Int32) + (8 : Int32)))] [(.int (((((32768 : Int32) ^^^ (-1 : Int32)) &&& (32767 : Int32)).toUInt32 >>> ((8 : Int32) &&& 31).toUInt32).toInt32))])) _
    refine XS.bipush X0.here hx rfl (hb hby d8_50) ?_
    show Steps p.tables e below (s₁.setTop (mkF m 52 #[.val (.int (((((32768 : Int32) ^^^ (-1 : Int32)) &&& (32767 : Int32)).toUInt32 >>> ((8 : Int32) &&& 31).toUInt32).toInt32)), .val (.int ((1 : Int32) + (8 : Int32)))] [(.int (16 : Int32)), (.int (((((32768 : Int32) ^^^ (-1 : Int32)) &&& (32767 : Int32)).toUInt32 >>> ((8 : Int32) &&& 31).toUInt32).toInt32))])) _
    refine XS.icmpNo X0.here hx rfl (hb hby d8_52) rfl (tlt (by decide : (16 : Int32) < (((((32768 : Int32) ^^^ (-1 : Int32)) &&& (32767 : Int32)).toUInt32 >>> ((8 : Int32) &&& 31).toUInt32).toInt32))).2.2.2 ?_
    show Steps p.tables e below (s₁.setTop (mkF m 55 #[.val (.int (((((32768 : Int32) ^^^ (-1 : Int32)) &&& (32767 : Int32)).toUInt32 >>> ((8 : Int32) &&& 31).toUInt32).toInt32)), .val (.int ((1 : Int32) + (8 : Int32)))] [])) _
    refine XS.iinc X0.here hx rfl (hb hby d8_55) rfl (l' := #[.val (.int (((((32768 : Int32) ^^^ (-1 : Int32)) &&& (32767 : Int32)).toUInt32 >>> ((8 : Int32) &&& 31).toUInt32).toInt32)), .val (.int (((1 : Int32) + (8 : Int32)) + (4 : Int32)))]) rfl ?_
    show Steps p.tables e below (s₁.setTop (mkF m 58 #[.val (.int (((((32768 : Int32) ^^^ (-1 : Int32)) &&& (32767 : Int32)).toUInt32 >>> ((8 : Int32) &&& 31).toUInt32).toInt32)), .val (.int (((1 : Int32) + (8 : Int32)) + (4 : Int32)))] [])) _
    refine XS.iloadN X0.here hx rfl (hb hby d8_58) rfl ?_
    show Steps p.tables e below (s₁.setTop (mkF m 59 #[.val (.int (((((32768 : Int32) ^^^ (-1 : Int32)) &&& (32767 : Int32)).toUInt32 >>> ((8 : Int32) &&& 31).toUInt32).toInt32)), .val (.int (((1 : Int32) + (8 : Int32)) + (4 : Int32)))] [(.int (((((32768 : Int32) ^^^ (-1 : Int32)) &&& (32767 : Int32)).toUInt32 >>> ((8 : Int32) &&& 31).toUInt32).toInt32))])) _
    refine XS.iconst X0.here hx rfl (hb hby d8_59) ?_
    show Steps p.tables e below (s₁.setTop (mkF m 60 #[.val (.int (((((32768 : Int32) ^^^ (-1 : Int32)) &&& (32767 : Int32)).toUInt32 >>> ((8 : Int32) &&& 31).toUInt32).toInt32)), .val (.int (((1 : Int32) + (8 : Int32)) + (4 : Int32)))] [(.int (4 : Int32)), (.int (((((32768 : Int32) ^^^ (-1 : Int32)) &&& (32767 : Int32)).toUInt32 >>> ((8 : Int32) &&& 31).toUInt32).toInt32))])) _
    refine XS.iushr X0.here hx rfl (hb hby d8_60) rfl ?_
    show Steps p.tables e below (s₁.setTop (mkF m 61 #[.val (.int (((((32768 : Int32) ^^^ (-1 : Int32)) &&& (32767 : Int32)).toUInt32 >>> ((8 : Int32) &&& 31).toUInt32).toInt32)), .val (.int (((1 : Int32) + (8 : Int32)) + (4 : Int32)))] [(.int (((((((32768 : Int32) ^^^ (-1 : Int32)) &&& (32767 : Int32)).toUInt32 >>> ((8 : Int32) &&& 31).toUInt32).toInt32).toUInt32 >>> ((4 : Int32) &&& 31).toUInt32).toInt32))])) _
    refine XS.istoreN X0.here hx rfl (hb hby d8_61) rfl (l' := #[.val (.int (((((((32768 : Int32) ^^^ (-1 : Int32)) &&& (32767 : Int32)).toUInt32 >>> ((8 : Int32) &&& 31).toUInt32).toInt32).toUInt32 >>> ((4 : Int32) &&& 31).toUInt32).toInt32)), .val (.int (((1 : Int32) + (8 : Int32)) + (4 : Int32)))]) rfl ?_
    show Steps p.tables e below (s₁.setTop (mkF m 62 #[.val (.int (((((((32768 : Int32) ^^^ (-1 : Int32)) &&& (32767 : Int32)).toUInt32 >>> ((8 : Int32) &&& 31).toUInt32).toInt32).toUInt32 >>> ((4 : Int32) &&& 31).toUInt32).toInt32)), .val (.int (((1 : Int32) + (8 : Int32)) + (4 : Int32)))] [])) _
    refine XS.iloadN X0.here hx rfl (hb hby d8_62) rfl ?_
    show Steps p.tables e below (s₁.setTop (mkF m 63 #[.val (.int (((((((32768 : Int32) ^^^ (-1 : Int32)) &&& (32767 : Int32)).toUInt32 >>> ((8 : Int32) &&& 31).toUInt32).toInt32).toUInt32 >>> ((4 : Int32) &&& 31).toUInt32).toInt32)), .val (.int (((1 : Int32) + (8 : Int32)) + (4 : Int32)))] [(.int (((((((32768 : Int32) ^^^ (-1 : Int32)) &&& (32767 : Int32)).toUInt32 >>> ((8 : Int32) &&& 31).toUInt32).toInt32).toUInt32 >>> ((4 : Int32) &&& 31).toUInt32).toInt32))])) _
    refine XS.iconst X0.here hx rfl (hb hby d8_63) ?_
    show Steps p.tables e below (s₁.setTop (mkF m 64 #[.val (.int (((((((32768 : Int32) ^^^ (-1 : Int32)) &&& (32767 : Int32)).toUInt32 >>> ((8 : Int32) &&& 31).toUInt32).toInt32).toUInt32 >>> ((4 : Int32) &&& 31).toUInt32).toInt32)), .val (.int (((1 : Int32) + (8 : Int32)) + (4 : Int32)))] [(.int (4 : Int32)), (.int (((((((32768 : Int32) ^^^ (-1 : Int32)) &&& (32767 : Int32)).toUInt32 >>> ((8 : Int32) &&& 31).toUInt32).toInt32).toUInt32 >>> ((4 : Int32) &&& 31).toUInt32).toInt32))])) _
    refine XS.icmpNo X0.here hx rfl (hb hby d8_64) rfl (tlt (by decide : (4 : Int32) < (((((((32768 : Int32) ^^^ (-1 : Int32)) &&& (32767 : Int32)).toUInt32 >>> ((8 : Int32) &&& 31).toUInt32).toInt32).toUInt32 >>> ((4 : Int32) &&& 31).toUInt32).toInt32))).2.2.2 ?_
    show Steps p.tables e below (s₁.setTop (mkF m 67 #[.val (.int (((((((32768 : Int32) ^^^ (-1 : Int32)) &&& (32767 : Int32)).toUInt32 >>> ((8 : Int32) &&& 31).toUInt32).toInt32).toUInt32 >>> ((4 : Int32) &&& 31).toUInt32).toInt32)), .val (.int (((1 : Int32) + (8 : Int32)) + (4 : Int32)))] [])) _
    refine XS.iinc X0.here hx rfl (hb hby d8_67) rfl (l' := #[.val (.int (((((((32768 : Int32) ^^^ (-1 : Int32)) &&& (32767 : Int32)).toUInt32 >>> ((8 : Int32) &&& 31).toUInt32).toInt32).toUInt32 >>> ((4 : Int32) &&& 31).toUInt32).toInt32)), .val (.int ((((1 : Int32) + (8 : Int32)) + (4 : Int32)) + (2 : Int32)))]) rfl ?_
    show Steps p.tables e below (s₁.setTop (mkF m 70 #[.val (.int (((((((32768 : Int32) ^^^ (-1 : Int32)) &&& (32767 : Int32)).toUInt32 >>> ((8 : Int32) &&& 31).toUInt32).toInt32).toUInt32 >>> ((4 : Int32) &&& 31).toUInt32).toInt32)), .val (.int ((((1 : Int32) + (8 : Int32)) + (4 : Int32)) + (2 : Int32)))] [])) _
    refine XS.iloadN X0.here hx rfl (hb hby d8_70) rfl ?_
    show Steps p.tables e below (s₁.setTop (mkF m 71 #[.val (.int (((((((32768 : Int32) ^^^ (-1 : Int32)) &&& (32767 : Int32)).toUInt32 >>> ((8 : Int32) &&& 31).toUInt32).toInt32).toUInt32 >>> ((4 : Int32) &&& 31).toUInt32).toInt32)), .val (.int ((((1 : Int32) + (8 : Int32)) + (4 : Int32)) + (2 : Int32)))] [(.int (((((((32768 : Int32) ^^^ (-1 : Int32)) &&& (32767 : Int32)).toUInt32 >>> ((8 : Int32) &&& 31).toUInt32).toInt32).toUInt32 >>> ((4 : Int32) &&& 31).toUInt32).toInt32))])) _
    refine XS.iconst X0.here hx rfl (hb hby d8_71) ?_
    show Steps p.tables e below (s₁.setTop (mkF m 72 #[.val (.int (((((((32768 : Int32) ^^^ (-1 : Int32)) &&& (32767 : Int32)).toUInt32 >>> ((8 : Int32) &&& 31).toUInt32).toInt32).toUInt32 >>> ((4 : Int32) &&& 31).toUInt32).toInt32)), .val (.int ((((1 : Int32) + (8 : Int32)) + (4 : Int32)) + (2 : Int32)))] [(.int (2 : Int32)), (.int (((((((32768 : Int32) ^^^ (-1 : Int32)) &&& (32767 : Int32)).toUInt32 >>> ((8 : Int32) &&& 31).toUInt32).toInt32).toUInt32 >>> ((4 : Int32) &&& 31).toUInt32).toInt32))])) _
    refine XS.iushr X0.here hx rfl (hb hby d8_72) rfl ?_
    show Steps p.tables e below (s₁.setTop (mkF m 73 #[.val (.int (((((((32768 : Int32) ^^^ (-1 : Int32)) &&& (32767 : Int32)).toUInt32 >>> ((8 : Int32) &&& 31).toUInt32).toInt32).toUInt32 >>> ((4 : Int32) &&& 31).toUInt32).toInt32)), .val (.int ((((1 : Int32) + (8 : Int32)) + (4 : Int32)) + (2 : Int32)))] [(.int (((((((((32768 : Int32) ^^^ (-1 : Int32)) &&& (32767 : Int32)).toUInt32 >>> ((8 : Int32) &&& 31).toUInt32).toInt32).toUInt32 >>> ((4 : Int32) &&& 31).toUInt32).toInt32).toUInt32 >>> ((2 : Int32) &&& 31).toUInt32).toInt32))])) _
    refine XS.istoreN X0.here hx rfl (hb hby d8_73) rfl (l' := #[.val (.int (((((((((32768 : Int32) ^^^ (-1 : Int32)) &&& (32767 : Int32)).toUInt32 >>> ((8 : Int32) &&& 31).toUInt32).toInt32).toUInt32 >>> ((4 : Int32) &&& 31).toUInt32).toInt32).toUInt32 >>> ((2 : Int32) &&& 31).toUInt32).toInt32)), .val (.int ((((1 : Int32) + (8 : Int32)) + (4 : Int32)) + (2 : Int32)))]) rfl ?_
    show Steps p.tables e below (s₁.setTop (mkF m 74 #[.val (.int (((((((((32768 : Int32) ^^^ (-1 : Int32)) &&& (32767 : Int32)).toUInt32 >>> ((8 : Int32) &&& 31).toUInt32).toInt32).toUInt32 >>> ((4 : Int32) &&& 31).toUInt32).toInt32).toUInt32 >>> ((2 : Int32) &&& 31).toUInt32).toInt32)), .val (.int ((((1 : Int32) + (8 : Int32)) + (4 : Int32)) + (2 : Int32)))] [])) _
    refine XS.iloadN X0.here hx rfl (hb hby d8_74) rfl ?_
    show Steps p.tables e below (s₁.setTop (mkF m 75 #[.val (.int (((((((((32768 : Int32) ^^^ (-1 : Int32)) &&& (32767 : Int32)).toUInt32 >>> ((8 : Int32) &&& 31).toUInt32).toInt32).toUInt32 >>> ((4 : Int32) &&& 31).toUInt32).toInt32).toUInt32 >>> ((2 : Int32) &&& 31).toUInt32).toInt32)), .val (.int ((((1 : Int32) + (8 : Int32)) + (4 : Int32)) + (2 : Int32)))] [(.int ((((1 : Int32) + (8 : Int32)) + (4 : Int32)) + (2 : Int32)))])) _
    refine XS.iloadN X0.here hx rfl (hb hby d8_75) rfl ?_
    show Steps p.tables e below (s₁.setTop (mkF m 76 #[.val (.int (((((((((32768 : Int32) ^^^ (-1 : Int32)) &&& (32767 : Int32)).toUInt32 >>> ((8 : Int32) &&& 31).toUInt32).toInt32).toUInt32 >>> ((4 : Int32) &&& 31).toUInt32).toInt32).toUInt32 >>> ((2 : Int32) &&& 31).toUInt32).toInt32)), .val (.int ((((1 : Int32) + (8 : Int32)) + (4 : Int32)) + (2 : Int32)))] [(.int (((((((((32768 : Int32) ^^^ (-1 : Int32)) &&& (32767 : Int32)).toUInt32 >>> ((8 : Int32) &&& 31).toUInt32).toInt32).toUInt32 >>> ((4 : Int32) &&& 31).toUInt32).toInt32).toUInt32 >>> ((2 : Int32) &&& 31).toUInt32).toInt32)), (.int ((((1 : Int32) + (8 : Int32)) + (4 : Int32)) + (2 : Int32)))])) _
    refine XS.iconst X0.here hx rfl (hb hby d8_76) ?_
    show Steps p.tables e below (s₁.setTop (mkF m 77 #[.val (.int (((((((((32768 : Int32) ^^^ (-1 : Int32)) &&& (32767 : Int32)).toUInt32 >>> ((8 : Int32) &&& 31).toUInt32).toInt32).toUInt32 >>> ((4 : Int32) &&& 31).toUInt32).toInt32).toUInt32 >>> ((2 : Int32) &&& 31).toUInt32).toInt32)), .val (.int ((((1 : Int32) + (8 : Int32)) + (4 : Int32)) + (2 : Int32)))] [(.int (1 : Int32)), (.int (((((((((32768 : Int32) ^^^ (-1 : Int32)) &&& (32767 : Int32)).toUInt32 >>> ((8 : Int32) &&& 31).toUInt32).toInt32).toUInt32 >>> ((4 : Int32) &&& 31).toUInt32).toInt32).toUInt32 >>> ((2 : Int32) &&& 31).toUInt32).toInt32)), (.int ((((1 : Int32) + (8 : Int32)) + (4 : Int32)) + (2 : Int32)))])) _
    refine XS.iushr X0.here hx rfl (hb hby d8_77) rfl ?_
    show Steps p.tables e below (s₁.setTop (mkF m 78 #[.val (.int (((((((((32768 : Int32) ^^^ (-1 : Int32)) &&& (32767 : Int32)).toUInt32 >>> ((8 : Int32) &&& 31).toUInt32).toInt32).toUInt32 >>> ((4 : Int32) &&& 31).toUInt32).toInt32).toUInt32 >>> ((2 : Int32) &&& 31).toUInt32).toInt32)), .val (.int ((((1 : Int32) + (8 : Int32)) + (4 : Int32)) + (2 : Int32)))] [(.int (((((((((((32768 : Int32) ^^^ (-1 : Int32)) &&& (32767 : Int32)).toUInt32 >>> ((8 : Int32) &&& 31).toUInt32).toInt32).toUInt32 >>> ((4 : Int32) &&& 31).toUInt32).toInt32).toUInt32 >>> ((2 : Int32) &&& 31).toUInt32).toInt32).toUInt32 >>> ((1 : Int32) &&& 31).toUInt32).toInt32)), (.int ((((1 : Int32) + (8 : Int32)) + (4 : Int32)) + (2 : Int32)))])) _
    refine XS.iadd X0.here hx rfl (hb hby d8_78) rfl ?_
    show Steps p.tables e below (s₁.setTop (mkF m 79 #[.val (.int (((((((((32768 : Int32) ^^^ (-1 : Int32)) &&& (32767 : Int32)).toUInt32 >>> ((8 : Int32) &&& 31).toUInt32).toInt32).toUInt32 >>> ((4 : Int32) &&& 31).toUInt32).toInt32).toUInt32 >>> ((2 : Int32) &&& 31).toUInt32).toInt32)), .val (.int ((((1 : Int32) + (8 : Int32)) + (4 : Int32)) + (2 : Int32)))] [(.int (((((1 : Int32) + (8 : Int32)) + (4 : Int32)) + (2 : Int32)) + (((((((((((32768 : Int32) ^^^ (-1 : Int32)) &&& (32767 : Int32)).toUInt32 >>> ((8 : Int32) &&& 31).toUInt32).toInt32).toUInt32 >>> ((4 : Int32) &&& 31).toUInt32).toInt32).toUInt32 >>> ((2 : Int32) &&& 31).toUInt32).toInt32).toUInt32 >>> ((1 : Int32) &&& 31).toUInt32).toInt32)))])) _
    exact retI X0 hx Bd.returns (hb hby d8_79) hr
  · show Q8_k15 Z  h0 n0 _ s₁.heap _
    rw [e0]
    exact ⟨(congrArg (fun z => some (Value.int z)) (by decide : (((((1 : Int32) + (8 : Int32)) + (4 : Int32)) + (2 : Int32)) + (((((((((((32768 : Int32) ^^^ (-1 : Int32)) &&& (32767 : Int32)).toUInt32 >>> ((8 : Int32) &&& 31).toUInt32).toInt32).toUInt32 >>> ((4 : Int32) &&& 31).toUInt32).toInt32).toUInt32 >>> ((2 : Int32) &&& 31).toUInt32).toInt32).toUInt32 >>> ((1 : Int32) &&& 31).toUInt32).toInt32)) = (15 : Int32))), N0, rfl⟩
def own_pow (x : Int32) : Prop := x = (1 : Int32) ∨ x = (2 : Int32) ∨ x = (4 : Int32) ∨ x = (8 : Int32) ∨ x = (16 : Int32) ∨ x = (32 : Int32) ∨ x = (64 : Int32) ∨ x = (128 : Int32) ∨ x = (256 : Int32) ∨ x = (512 : Int32) ∨ x = (1024 : Int32) ∨ x = (2048 : Int32) ∨ x = (4096 : Int32) ∨ x = (8192 : Int32) ∨ x = (16384 : Int32) ∨ x = (32768 : Int32)
def own_tz (x : Int32) : Int32 := if x = (1 : Int32) then (0 : Int32) else if x = (2 : Int32) then (1 : Int32) else if x = (4 : Int32) then (2 : Int32) else if x = (8 : Int32) then (3 : Int32) else if x = (16 : Int32) then (4 : Int32) else if x = (32 : Int32) then (5 : Int32) else if x = (64 : Int32) then (6 : Int32) else if x = (128 : Int32) then (7 : Int32) else if x = (256 : Int32) then (8 : Int32) else if x = (512 : Int32) then (9 : Int32) else if x = (1024 : Int32) then (10 : Int32) else if x = (2048 : Int32) then (11 : Int32) else if x = (4096 : Int32) then (12 : Int32) else if x = (8192 : Int32) then (13 : Int32) else if x = (16384 : Int32) then (14 : Int32) else (15 : Int32)
theorem own_tz0 : own_tz (1 : Int32) = (0 : Int32) := by decide
theorem own_tz1 : own_tz (2 : Int32) = (1 : Int32) := by decide
theorem own_tz2 : own_tz (4 : Int32) = (2 : Int32) := by decide
theorem own_tz3 : own_tz (8 : Int32) = (3 : Int32) := by decide
theorem own_tz4 : own_tz (16 : Int32) = (4 : Int32) := by decide
theorem own_tz5 : own_tz (32 : Int32) = (5 : Int32) := by decide
theorem own_tz6 : own_tz (64 : Int32) = (6 : Int32) := by decide
theorem own_tz7 : own_tz (128 : Int32) = (7 : Int32) := by decide
theorem own_tz8 : own_tz (256 : Int32) = (8 : Int32) := by decide
theorem own_tz9 : own_tz (512 : Int32) = (9 : Int32) := by decide
theorem own_tz10 : own_tz (1024 : Int32) = (10 : Int32) := by decide
theorem own_tz11 : own_tz (2048 : Int32) = (11 : Int32) := by decide
theorem own_tz12 : own_tz (4096 : Int32) = (12 : Int32) := by decide
theorem own_tz13 : own_tz (8192 : Int32) = (13 : Int32) := by decide
theorem own_tz14 : own_tz (16384 : Int32) = (14 : Int32) := by decide
theorem own_tz15 : own_tz (32768 : Int32) = (15 : Int32) := by decide
def QTz (Z : State) (vi0 : Int32) (h0 : Heap) (n0 : Nat) (v : Option Value) (h : Heap) (L : List Loc) : Prop := v = some (.int (own_tz vi0)) ∧ Fr n0 L ∧ h = h0
set_option maxRecDepth 65536 in
set_option maxHeartbeats 4000000 in
theorem rmTz (l : Launch) (Z : State) (a0 : Array Value) (hw : ∀ d ∈ tables_1, d.before a0 Z = true) (ws : List Jvm.Cond) (vi0 : Int32) (h0 : Heap) (n0 : Nat) (Z0 : n0 ≤ h0.size) (hp : own_pow vi0) :
    MetFree l (⟨"java/lang/Integer", "numberOfTrailingZeros", "(I)I"⟩ : MethodName) (head1 (Jvm.Cond.code (⟨"java/lang/Integer", "numberOfTrailingZeros", "(I)I"⟩ : MethodName) jdk_33_method_48_code 2 (some .int) :: ws) ({ frames := 0, cells := 0, slots := 0, locals := 0 } : Room)) (fun a U => a = #[(.int vi0)] ∧ Z.Warmed39 U.vm ∧ U.heap = h0) (fun _ _ _ _ _ => True) (fun _ U o U' => ∃ v L, o = .returned v ∧ QTz Z vi0 h0 n0 v U'.heap L ∧ FrameEnd U o U' L ({ frames := 0, cells := 0, slots := 0, locals := 0 } : Room).cells ({ frames := 0, cells := 0, slots := 0, locals := 0 } : Room).slots) := by
  rcases hp with rfl | rfl | rfl | rfl | rfl | rfl | rfl | rfl | rfl | rfl | rfl | rfl | rfl | rfl | rfl | rfl
  · exact rm8_k0 l Z a0 hw ws h0 n0 Z0
  · exact rm8_k1 l Z a0 hw ws h0 n0 Z0
  · exact rm8_k2 l Z a0 hw ws h0 n0 Z0
  · exact rm8_k3 l Z a0 hw ws h0 n0 Z0
  · exact rm8_k4 l Z a0 hw ws h0 n0 Z0
  · exact rm8_k5 l Z a0 hw ws h0 n0 Z0
  · exact rm8_k6 l Z a0 hw ws h0 n0 Z0
  · exact rm8_k7 l Z a0 hw ws h0 n0 Z0
  · exact rm8_k8 l Z a0 hw ws h0 n0 Z0
  · exact rm8_k9 l Z a0 hw ws h0 n0 Z0
  · exact rm8_k10 l Z a0 hw ws h0 n0 Z0
  · exact rm8_k11 l Z a0 hw ws h0 n0 Z0
  · exact rm8_k12 l Z a0 hw ws h0 n0 Z0
  · exact rm8_k13 l Z a0 hw ws h0 n0 Z0
  · exact rm8_k14 l Z a0 hw ws h0 n0 Z0
  · exact rm8_k15 l Z a0 hw ws h0 n0 Z0
theorem d6_0 : decode jdk_22_method_1_code 0 = .ok (.aload_n 0, 1) := by decide +kernel
theorem d6_1 : decode jdk_22_method_1_code 1 = .ok (.invokespecial 1, 3) := by decide +kernel
theorem wd_42 {Z : State} {a0 : Array Value} (hw : ∀ d ∈ tables_1, d.before a0 Z = true) : ((Jvm.Cond.methodLink "java/util/AbstractCollection" (1 : Nat) ({ cls := "java/lang/Object", name := "<init>", desc := "()V" } : Jvm.MethodName))).before a0 Z = true := hw _ (List.mem_of_getElem? (i := 42) rfl)
theorem wd_7 {Z : State} {a0 : Array Value} (hw : ∀ d ∈ tables_1, d.before a0 Z = true) : ((Jvm.Cond.instanceMethod ({ cls := "java/lang/Object", name := "<init>", desc := "()V" } : Jvm.MethodName))).before a0 Z = true := hw _ (List.mem_of_getElem? (i := 7) rfl)
theorem wd_8 {Z : State} {a0 : Array Value} (hw : ∀ d ∈ tables_1, d.before a0 Z = true) : ((Jvm.Cond.code ({ cls := "java/lang/Object", name := "<init>", desc := "()V" } : Jvm.MethodName) object_method_1_code (1 : Nat) (Option.none : Option Jvm.ClassFile.FieldType))).before a0 Z = true := hw _ (List.mem_of_getElem? (i := 8) rfl)
theorem d6_4 : decode jdk_22_method_1_code 4 = .ok (.return_, 1) := by decide +kernel
theorem pn_java_util_AbstractCollection : plainName "java/util/AbstractCollection" = true := by first | (simp [plainName, overriddenIn]; done) | decide +kernel
theorem ef_6 (m : MethodId) (x0 : Addr) : entryFrame m #[(.ref x0)] 1 = mkF m 0 #[.val (.ref x0)] [] := by first | (simp [entryFrame, mkF, argsToLocals, Value.category]; done) | rfl
def Q6 (Z : State) (vr0 : Addr) (h0 : Heap) (n0 : Nat) (v : Option Value) (h : Heap) (L : List Loc) : Prop := v = none ∧ Fr n0 L ∧ h = h0
set_option maxRecDepth 65536 in
set_option maxHeartbeats 40000000 in
theorem rm6 (l : Launch) (Z : State) (a0 : Array Value) (hw : ∀ d ∈ tables_1, d.before a0 Z = true) (ws : List Jvm.Cond) (vr0 : Addr) (h0 : Heap) (n0 : Nat) (Z0 : n0 ≤ h0.size) :
    MetFree l (⟨"java/util/AbstractCollection", "<init>", "()V"⟩ : MethodName) (head1 (Jvm.Cond.code (⟨"java/util/AbstractCollection", "<init>", "()V"⟩ : MethodName) jdk_22_method_1_code 1 none :: ws) ({ frames := 1, cells := 0, slots := 0, locals := 12 } : Room)) (fun a U => a = #[(.ref vr0)] ∧ Z.Warmed39 U.vm ∧ U.heap = h0) (fun _ _ _ _ _ => True) (fun _ U o U' => ∃ v L, o = .returned v ∧ Q6 Z vr0 h0 n0 v U'.heap L ∧ FrameEnd U o U' L ({ frames := 1, cells := 0, slots := 0, locals := 12 } : Room).cells ({ frames := 1, cells := 0, slots := 0, locals := 12 } : Room).slots) := by
  refine MetFree.of_bodySF (plainFor_of_name pn_java_util_AbstractCollection) hisR ?_
  intro p e s m args below meth c s₁ Bd hml0 hP hK
  obtain ⟨rfl, hZ, hh⟩ := hP
  have hx := Bd.exec
  have hby := Bd.bytes
  have hml : c.maxLocals = 1 := hml0
  have hown : s.vm.findClass "java/util/AbstractCollection" = some m.cls := findClass_of_methodNamed Bd.named
  have hnm := (name_of_methodNamed Bd.named Bd.method).1
  have X0 : Stand p l e ({ frames := 1, cells := 0, slots := 0, locals := 12 } : Room) s m #[(.ref vr0)] below meth c s₁ [] 0 0 := Stand.of_body Bd
  have e0 : s₁.heap = h0 := by rw [← hh, Bd.state]; rfl
  have N0 := Fr.nil n0
  have pre0 : ∀ t, Steps p.tables e below (s₁.setTop (mkF m 0 #[.val (.ref vr0)] [])) t → Steps p.tables e below (s₁.setTop (entryFrame m #[(.ref vr0)] 1)) t := fun t k => castTop (ef_6 m vr0) k
  obtain ⟨T1, X1, e1, st1⟩ := initO X0 hx hZ hown (wd_42 hw) (wd_7 hw) (wd_8 hw) e0 (g := (mkF m 1 #[.val (.ref vr0)] [(.ref vr0)])) rfl (by rw [hml]; rfl) rfl (hb hby d6_1) (by decide) (W := 0) (by show 2 * 0 + _ ≤ _; exact Nat.le_of_eq rfl) (by decide)
  obtain ⟨fs, hr, hrun, hended, hW, hsame⟩ := X1.leave (v := none) (fun _ => rfl)
  refine ⟨_, _, pre0 _ ?_, hrun, hended, _, _, rfl, ?_, ⟨_, rfl⟩, hW, hsame.mono (by decide) (by decide)⟩
  · show Steps p.tables e below (s₁.setTop (mkF m 0 #[.val (.ref vr0)] [])) _
    refine XS.aloadN X0.here hx rfl (hb hby d6_0) rfl rfl ?_
    show Steps p.tables e below (s₁.setTop (mkF m 1 #[.val (.ref vr0)] [(.ref vr0)])) _
    refine st1 _ ?_
    show Steps p.tables e below (T1.setTop (mkF m 4 #[.val (.ref vr0)] [])) _
    exact X1.returnOut hx Bd.returns (hb hby d6_4) hr
  · show Q6 Z vr0 h0 n0 _ T1.heap _
    rw [e1]
    exact ⟨rfl, N0, rfl⟩
theorem d5_0 : decode jdk_39_method_1_code 0 = .ok (.aload_n 0, 1) := by decide +kernel
theorem d5_1 : decode jdk_39_method_1_code 1 = .ok (.invokespecial 1, 3) := by decide +kernel
theorem wd_36 {Z : State} {a0 : Array Value} (hw : ∀ d ∈ tables_1, d.before a0 Z = true) : ((Jvm.Cond.methodLink "java/util/AbstractList" (1 : Nat) ({ cls := "java/util/AbstractCollection", name := "<init>", desc := "()V" } : Jvm.MethodName))).before a0 Z = true := hw _ (List.mem_of_getElem? (i := 36) rfl)
theorem wd_41 {Z : State} {a0 : Array Value} (hw : ∀ d ∈ tables_1, d.before a0 Z = true) : ((Jvm.Cond.code ({ cls := "java/util/AbstractCollection", name := "<init>", desc := "()V" } : Jvm.MethodName) jdk_22_method_1_code (1 : Nat) (Option.none : Option Jvm.ClassFile.FieldType))).before a0 Z = true := hw _ (List.mem_of_getElem? (i := 41) rfl)
theorem wd_40 {Z : State} {a0 : Array Value} (hw : ∀ d ∈ tables_1, d.before a0 Z = true) : ((Jvm.Cond.initialized "java/util/AbstractCollection")).before a0 Z = true := hw _ (List.mem_of_getElem? (i := 40) rfl)
theorem pd_1 : parseMethodDescriptor "()V" = some ⟨[], none⟩ := by decide +kernel
theorem wd_37 {Z : State} {a0 : Array Value} (hw : ∀ d ∈ tables_1, d.before a0 Z = true) : ((Jvm.Cond.instanceMethod ({ cls := "java/util/AbstractCollection", name := "<init>", desc := "()V" } : Jvm.MethodName))).before a0 Z = true := hw _ (List.mem_of_getElem? (i := 37) rfl)
theorem d5_4 : decode jdk_39_method_1_code 4 = .ok (.aload_n 0, 1) := by decide +kernel
theorem d5_5 : decode jdk_39_method_1_code 5 = .ok (.iconst 0, 1) := by decide +kernel
theorem d5_6 : decode jdk_39_method_1_code 6 = .ok (.putfield 7, 3) := by decide +kernel
theorem wd_43 {Z : State} {a0 : Array Value} (hw : ∀ d ∈ tables_1, d.before a0 Z = true) : ((Jvm.Cond.fieldLink "java/util/AbstractList" (7 : Nat) "java/util/AbstractList" "modCount" "I")).before a0 Z = true := hw _ (List.mem_of_getElem? (i := 43) rfl)
theorem wd_44 {Z : State} {a0 : Array Value} (hw : ∀ d ∈ tables_1, d.before a0 Z = true) : ((Jvm.Cond.lays "java/util/ArrayList" "java/util/AbstractList" "modCount" "I")).before a0 Z = true := hw _ (List.mem_of_getElem? (i := 44) rfl)
theorem wd_25 {Z : State} {a0 : Array Value} (hw : ∀ d ∈ tables_1, d.before a0 Z = true) : ((Jvm.Cond.instantiable "java/util/ArrayList" (3 : Nat))).before a0 Z = true := hw _ (List.mem_of_getElem? (i := 25) rfl)
theorem d5_9 : decode jdk_39_method_1_code 9 = .ok (.return_, 1) := by decide +kernel
theorem wd_47 {Z : State} {a0 : Array Value} (hw : ∀ d ∈ tables_1, d.before a0 Z = true) : ((Jvm.Cond.lays "java/util/ArrayList" "java/util/ArrayList" "elementData" "[Ljava/lang/Object;")).before a0 Z = true := hw _ (List.mem_of_getElem? (i := 47) rfl)
theorem sl_0 {Z : State} {a0 : Array Value} (hw : ∀ d ∈ tables_1, d.before a0 Z = true) : RoadKit.slotOf Z "java/util/ArrayList" "elementData" "[Ljava/lang/Object;" ≠ RoadKit.slotOf Z "java/util/AbstractList" "modCount" "I" := slot_ne (Or.inl (wd_47 hw)) (Or.inl (wd_44 hw)) (by decide) (t := (.array (.object "java/lang/Object"))) (t' := .int) (by decide) (by decide)
theorem pn_java_util_AbstractList : plainName "java/util/AbstractList" = true := by first | (simp [plainName, overriddenIn]; done) | decide +kernel
theorem ef_5 (m : MethodId) (x0 : Addr) : entryFrame m #[(.ref x0)] 1 = mkF m 0 #[.val (.ref x0)] [] := by first | (simp [entryFrame, mkF, argsToLocals, Value.category]; done) | rfl
def Q5 (Z : State) (vr0 : Addr) (u_elementData_vr0 : Value) (u_modCount_vr0 : Value) (h0 : Heap) (n0 : Nat) (v : Option Value) (h : Heap) (L : List Loc) : Prop := v = none ∧ Fr n0 L ∧ Keep h0 h [vr0] ∧ Fld Z h vr0 "java/util/ArrayList" "elementData" "[Ljava/lang/Object;" u_elementData_vr0
set_option maxRecDepth 65536 in
set_option maxHeartbeats 40000000 in
theorem rm5 (l : Launch) (Z : State) (a0 : Array Value) (hw : ∀ d ∈ tables_1, d.before a0 Z = true) (ws : List Jvm.Cond) (vr0 : Addr) (u_elementData_vr0 : Value) (u_modCount_vr0 : Value) (h0 : Heap) (n0 : Nat) (Z0 : n0 ≤ h0.size) (F_elementData_vr0 : Fld Z h0 vr0 "java/util/ArrayList" "elementData" "[Ljava/lang/Object;" u_elementData_vr0) (E_vr0 : Exa Z h0 vr0 "java/util/ArrayList") (F_modCount_vr0 : Fld Z h0 vr0 "java/util/AbstractList" "modCount" "I" u_modCount_vr0) (g_vr0 : n0 ≤ vr0) :
    MetFree l (⟨"java/util/AbstractList", "<init>", "()V"⟩ : MethodName) (head1 (Jvm.Cond.code (⟨"java/util/AbstractList", "<init>", "()V"⟩ : MethodName) jdk_39_method_1_code 1 none :: ws) ({ frames := 2, cells := 0, slots := 0, locals := 24 } : Room)) (fun a U => a = #[(.ref vr0)] ∧ Z.Warmed39 U.vm ∧ U.heap = h0) (fun _ _ _ _ _ => True) (fun _ U o U' => ∃ v L, o = .returned v ∧ Q5 Z vr0 u_elementData_vr0 u_modCount_vr0 h0 n0 v U'.heap L ∧ FrameEnd U o U' L ({ frames := 2, cells := 0, slots := 0, locals := 24 } : Room).cells ({ frames := 2, cells := 0, slots := 0, locals := 24 } : Room).slots) := by
  refine MetFree.of_bodySF (plainFor_of_name pn_java_util_AbstractList) hisR ?_
  intro p e s m args below meth c s₁ Bd hml0 hP hK
  obtain ⟨rfl, hZ, hh⟩ := hP
  have hx := Bd.exec
  have hby := Bd.bytes
  have hml : c.maxLocals = 1 := hml0
  have hown : s.vm.findClass "java/util/AbstractList" = some m.cls := findClass_of_methodNamed Bd.named
  have hnm := (name_of_methodNamed Bd.named Bd.method).1
  have X0 : Stand p l e ({ frames := 2, cells := 0, slots := 0, locals := 24 } : Room) s m #[(.ref vr0)] below meth c s₁ [] 0 0 := Stand.of_body Bd
  have e0 : s₁.heap = h0 := by rw [← hh, Bd.state]; rfl
  have N0 := Fr.nil n0
  have pre0 : ∀ t, Steps p.tables e below (s₁.setTop (mkF m 0 #[.val (.ref vr0)] [])) t → Steps p.tables e below (s₁.setTop (entryFrame m #[(.ref vr0)] 1)) t := fun t k => castTop (ef_5 m vr0) k
  obtain ⟨_, _, ⟨T1, L1, k1, n1⟩, -, X1, ⟨Lc1, hQ1, l1, y1, z1⟩, st1⟩ := X0.specialBack hx (y := (⟨"java/util/AbstractCollection", "<init>", "()V"⟩ : MethodName)) rfl hown (mvT hZ (wd_36 hw)) (mvT hZ (wd_37 hw)) (mvT hZ (wd_41 hw)) (by decide) (backOf (W := 0) (rm6 l Z a0 hw [] vr0 h0 n0 Z0 ) hZ (wd_41 hw) (wd_40 hw) (by decide) (by decide)) (g := (mkF m 1 #[.val (.ref vr0)] [(.ref vr0)])) rfl (by rw [hml]; rfl) (Steps.refl _) (a := vr0) (argsL := []) (rest := []) (lenOf pd_1 rfl) rfl (by show 2 * 0 + _ ≤ _; exact Nat.le_of_eq rfl) (hb hby d5_1) (fun _ _ => ⟨rfl, e0, (by decide : 0 + 0 ≤ _), (by decide : 0 + 0 ≤ _)⟩)
  dsimp only [Pt.U, Pt.locs, Pt.cells, Pt.slots] at X1 l1 y1 z1 st1 hQ1
  subst l1 y1 z1
  obtain ⟨rfl, N1q, p1_0⟩ := hQ1
  have N1 := Fr.app N0 N1q
  have e1 : T1.heap = h0 := p1_0
  obtain ⟨T2, h2, X2, e2, W2, st2⟩ := putF X1 hx hZ hown (host := "") (Or.inl (wd_43 hw)) Via.refl e1 F_modCount_vr0 E_vr0 (Or.inl (wd_44 hw)) (wd_25 hw) (ty := .int) (by decide) rfl rfl (g := (mkF m 6 #[.val (.ref vr0)] [(.int (0 : Int32)), (.ref vr0)])) rfl rfl (hb hby d5_6)
  have Fw2 := F_modCount_vr0.same W2
  have N2 := Fr.snoc X2 N1 g_vr0
  have K2 : Keep h0 h2 [vr0] := (Keep.refl h0 [vr0]).wr W2 (Or.inl (List.mem_of_getElem? (i := 0) rfl))
  obtain ⟨fs, hr, hrun, hended, hW, hsame⟩ := X2.leave (v := none) (fun _ => rfl)
  refine ⟨_, _, pre0 _ ?_, hrun, hended, _, _, rfl, ?_, ⟨_, rfl⟩, hW, hsame.mono (by decide) (by decide)⟩
  · show Steps p.tables e below (s₁.setTop (mkF m 0 #[.val (.ref vr0)] [])) _
    refine XS.aloadN X0.here hx rfl (hb hby d5_0) rfl rfl ?_
    show Steps p.tables e below (s₁.setTop (mkF m 1 #[.val (.ref vr0)] [(.ref vr0)])) _
    refine st1.trans ?_
    show Steps p.tables e below (T1.setTop (mkF m 4 #[.val (.ref vr0)] [])) _
    refine XS.aloadN X1.here hx rfl (hb hby d5_4) rfl rfl ?_
    show Steps p.tables e below (T1.setTop (mkF m 5 #[.val (.ref vr0)] [(.ref vr0)])) _
    refine XS.iconst X1.here hx rfl (hb hby d5_5) ?_
    show Steps p.tables e below (T1.setTop (mkF m 6 #[.val (.ref vr0)] [(.int (0 : Int32)), (.ref vr0)])) _
    refine st2 _ ?_
    show Steps p.tables e below (T2.setTop (mkF m 9 #[.val (.ref vr0)] [])) _
    exact X2.returnOut hx Bd.returns (hb hby d5_9) hr
  · show Q5 Z vr0 u_elementData_vr0 u_modCount_vr0 h0 n0 _ T2.heap _
    rw [e2]
    exact ⟨rfl, N2, K2, (F_elementData_vr0.other W2 (Or.inr (sl_0 hw)))⟩
theorem d4_0 : decode jdk_38_method_2_code 0 = .ok (.aload_n 0, 1) := by decide +kernel
theorem d4_1 : decode jdk_38_method_2_code 1 = .ok (.invokespecial 1, 3) := by decide +kernel
theorem wd_30 {Z : State} {a0 : Array Value} (hw : ∀ d ∈ tables_1, d.before a0 Z = true) : ((Jvm.Cond.methodLink "java/util/ArrayList" (1 : Nat) ({ cls := "java/util/AbstractList", name := "<init>", desc := "()V" } : Jvm.MethodName))).before a0 Z = true := hw _ (List.mem_of_getElem? (i := 30) rfl)
theorem wd_35 {Z : State} {a0 : Array Value} (hw : ∀ d ∈ tables_1, d.before a0 Z = true) : ((Jvm.Cond.code ({ cls := "java/util/AbstractList", name := "<init>", desc := "()V" } : Jvm.MethodName) jdk_39_method_1_code (1 : Nat) (Option.none : Option Jvm.ClassFile.FieldType))).before a0 Z = true := hw _ (List.mem_of_getElem? (i := 35) rfl)
theorem wd_34 {Z : State} {a0 : Array Value} (hw : ∀ d ∈ tables_1, d.before a0 Z = true) : ((Jvm.Cond.initialized "java/util/AbstractList")).before a0 Z = true := hw _ (List.mem_of_getElem? (i := 34) rfl)
theorem wd_31 {Z : State} {a0 : Array Value} (hw : ∀ d ∈ tables_1, d.before a0 Z = true) : ((Jvm.Cond.instanceMethod ({ cls := "java/util/AbstractList", name := "<init>", desc := "()V" } : Jvm.MethodName))).before a0 Z = true := hw _ (List.mem_of_getElem? (i := 31) rfl)
theorem d4_4 : decode jdk_38_method_2_code 4 = .ok (.aload_n 0, 1) := by decide +kernel
theorem d4_5 : decode jdk_38_method_2_code 5 = .ok (.getstatic 39, 3) := by decide +kernel
theorem wd_45 {Z : State} {a0 : Array Value} (hw : ∀ d ∈ tables_1, d.before a0 Z = true) : ((Jvm.Cond.fieldLink "java/util/ArrayList" (39 : Nat) "java/util/ArrayList" "DEFAULTCAPACITY_EMPTY_ELEMENTDATA" "[Ljava/lang/Object;")).before a0 Z = true := hw _ (List.mem_of_getElem? (i := 45) rfl)
theorem d4_8 : decode jdk_38_method_2_code 8 = .ok (.putfield 9, 3) := by decide +kernel
theorem wd_46 {Z : State} {a0 : Array Value} (hw : ∀ d ∈ tables_1, d.before a0 Z = true) : ((Jvm.Cond.fieldLink "java/util/ArrayList" (9 : Nat) "java/util/ArrayList" "elementData" "[Ljava/lang/Object;")).before a0 Z = true := hw _ (List.mem_of_getElem? (i := 46) rfl)
theorem d4_11 : decode jdk_38_method_2_code 11 = .ok (.return_, 1) := by decide +kernel
theorem pn_java_util_ArrayList : plainName "java/util/ArrayList" = true := by first | (simp [plainName, overriddenIn]; done) | decide +kernel
theorem ef_4 (m : MethodId) (x0 : Addr) : entryFrame m #[(.ref x0)] 1 = mkF m 0 #[.val (.ref x0)] [] := by first | (simp [entryFrame, mkF, argsToLocals, Value.category]; done) | rfl
def Q4 (Z : State) (vr0 : Addr) (w_elementData_vr0 : Value) (w_modCount_vr0 : Value) (w_DEFAULTCAPACITY_EMPTY_ELEMENTDATA : Addr) (h0 : Heap) (n0 : Nat) (v : Option Value) (h : Heap) (L : List Loc) : Prop := v = none ∧ Fr n0 L ∧ Keep h0 h [vr0]
set_option maxRecDepth 65536 in
set_option maxHeartbeats 40000000 in
theorem rm4 (l : Launch) (Z : State) (a0 : Array Value) (hw : ∀ d ∈ tables_1, d.before a0 Z = true) (ws : List Jvm.Cond) (vr0 : Addr) (w_elementData_vr0 : Value) (w_modCount_vr0 : Value) (w_DEFAULTCAPACITY_EMPTY_ELEMENTDATA : Addr) (h0 : Heap) (n0 : Nat) (Z0 : n0 ≤ h0.size) (F_elementData_vr0 : Fld Z h0 vr0 "java/util/ArrayList" "elementData" "[Ljava/lang/Object;" w_elementData_vr0) (E_vr0 : Exa Z h0 vr0 "java/util/ArrayList") (F_modCount_vr0 : Fld Z h0 vr0 "java/util/AbstractList" "modCount" "I" w_modCount_vr0) (g_vr0 : n0 ≤ vr0) (S_DEFAULTCAPACITY_EMPTY_ELEMENTDATA : Sta Z Z.heap "java/util/ArrayList" "DEFAULTCAPACITY_EMPTY_ELEMENTDATA" "[Ljava/lang/Object;" (.ref w_DEFAULTCAPACITY_EMPTY_ELEMENTDATA)) (O0 : Old Z n0 h0) :
    MetFree l (⟨"java/util/ArrayList", "<init>", "()V"⟩ : MethodName) (head1 (Jvm.Cond.code (⟨"java/util/ArrayList", "<init>", "()V"⟩ : MethodName) jdk_38_method_2_code 1 none :: ws) ({ frames := 3, cells := 0, slots := 0, locals := 36 } : Room)) (fun a U => a = #[(.ref vr0)] ∧ Z.Warmed39 U.vm ∧ U.heap = h0) (fun _ _ _ _ _ => True) (fun _ U o U' => ∃ v L, o = .returned v ∧ Q4 Z vr0 w_elementData_vr0 w_modCount_vr0 w_DEFAULTCAPACITY_EMPTY_ELEMENTDATA h0 n0 v U'.heap L ∧ FrameEnd U o U' L ({ frames := 3, cells := 0, slots := 0, locals := 36 } : Room).cells ({ frames := 3, cells := 0, slots := 0, locals := 36 } : Room).slots) := by
  refine MetFree.of_bodySF (plainFor_of_name pn_java_util_ArrayList) hisR ?_
  intro p e s m args below meth c s₁ Bd hml0 hP hK
  obtain ⟨rfl, hZ, hh⟩ := hP
  have hx := Bd.exec
  have hby := Bd.bytes
  have hml : c.maxLocals = 1 := hml0
  have hown : s.vm.findClass "java/util/ArrayList" = some m.cls := findClass_of_methodNamed Bd.named
  have hnm := (name_of_methodNamed Bd.named Bd.method).1
  have X0 : Stand p l e ({ frames := 3, cells := 0, slots := 0, locals := 36 } : Room) s m #[(.ref vr0)] below meth c s₁ [] 0 0 := Stand.of_body Bd
  have e0 : s₁.heap = h0 := by rw [← hh, Bd.state]; rfl
  have N0 := Fr.nil n0
  have pre0 : ∀ t, Steps p.tables e below (s₁.setTop (mkF m 0 #[.val (.ref vr0)] [])) t → Steps p.tables e below (s₁.setTop (entryFrame m #[(.ref vr0)] 1)) t := fun t k => castTop (ef_4 m vr0) k
  obtain ⟨_, _, ⟨T1, L1, k1, n1⟩, -, X1, ⟨Lc1, hQ1, l1, y1, z1⟩, st1⟩ := X0.specialBack hx (y := (⟨"java/util/AbstractList", "<init>", "()V"⟩ : MethodName)) rfl hown (mvT hZ (wd_30 hw)) (mvT hZ (wd_31 hw)) (mvT hZ (wd_35 hw)) (by decide) (backOf (W := 0) (rm5 l Z a0 hw [] vr0 w_elementData_vr0 w_modCount_vr0 h0 n0 Z0 F_elementData_vr0 E_vr0 F_modCount_vr0 g_vr0) hZ (wd_35 hw) (wd_34 hw) (by decide) (by decide)) (g := (mkF m 1 #[.val (.ref vr0)] [(.ref vr0)])) rfl (by rw [hml]; rfl) (Steps.refl _) (a := vr0) (argsL := []) (rest := []) (lenOf pd_1 rfl) rfl (by show 2 * 0 + _ ≤ _; exact Nat.le_of_eq rfl) (hb hby d4_1) (fun _ _ => ⟨rfl, e0, (by decide : 0 + 0 ≤ _), (by decide : 0 + 0 ≤ _)⟩)
  dsimp only [Pt.U, Pt.locs, Pt.cells, Pt.slots] at X1 l1 y1 z1 st1 hQ1
  subst l1 y1 z1
  obtain ⟨rfl, N1q, p1_0, p1_1⟩ := hQ1
  have N1 := Fr.app N0 N1q
  have K1 : Keep h0 T1.heap [vr0] := (Keep.refl h0 [vr0]).trans p1_0 (allS (Or.inl (List.mem_of_getElem? (i := 0) rfl)) all0)
  obtain ⟨T2, X2, e2, st2⟩ := getS2 X1 hx hZ hown (host := "") (Or.inl (wd_45 hw)) Via.refl rfl (S_DEFAULTCAPACITY_EMPTY_ELEMENTDATA.ext (O0.keep p1_0 (allS g_vr0 all0)).2) (g := (mkF m 5 #[.val (.ref vr0)] [(.ref vr0)])) rfl (hb hby d4_5)
  obtain ⟨T3, h3, X3, e3, W3, st3⟩ := putF X2 hx hZ hown (host := "") (Or.inl (wd_46 hw)) Via.refl e2 p1_1 (E_vr0.keep p1_0) (Or.inl (wd_47 hw)) (wd_25 hw) (ty := (.array (.object "java/lang/Object"))) (by decide) rfl rfl (g := (mkF m 8 #[.val (.ref vr0)] [(.ref w_DEFAULTCAPACITY_EMPTY_ELEMENTDATA), (.ref vr0)])) rfl rfl (hb hby d4_8)
  have Fw3 := p1_1.same W3
  have N3 := Fr.snoc X3 N1 g_vr0
  have K3 : Keep h0 h3 [vr0] := K1.wr W3 (Or.inl (List.mem_of_getElem? (i := 0) rfl))
  obtain ⟨fs, hr, hrun, hended, hW, hsame⟩ := X3.leave (v := none) (fun _ => rfl)
  refine ⟨_, _, pre0 _ ?_, hrun, hended, _, _, rfl, ?_, ⟨_, rfl⟩, hW, hsame.mono (by decide) (by decide)⟩
  · show Steps p.tables e below (s₁.setTop (mkF m 0 #[.val (.ref vr0)] [])) _
    refine XS.aloadN X0.here hx rfl (hb hby d4_0) rfl rfl ?_
    show Steps p.tables e below (s₁.setTop (mkF m 1 #[.val (.ref vr0)] [(.ref vr0)])) _
    refine st1.trans ?_
    show Steps p.tables e below (T1.setTop (mkF m 4 #[.val (.ref vr0)] [])) _
    refine XS.aloadN X1.here hx rfl (hb hby d4_4) rfl rfl ?_
    show Steps p.tables e below (T1.setTop (mkF m 5 #[.val (.ref vr0)] [(.ref vr0)])) _
    refine st2 _ ?_
    show Steps p.tables e below (T2.setTop (mkF m 8 #[.val (.ref vr0)] [(.ref w_DEFAULTCAPACITY_EMPTY_ELEMENTDATA), (.ref vr0)])) _
    refine st3 _ ?_
    show Steps p.tables e below (T3.setTop (mkF m 11 #[.val (.ref vr0)] [])) _
    exact X3.returnOut hx Bd.returns (hb hby d4_11) hr
  · show Q4 Z vr0 w_elementData_vr0 w_modCount_vr0 w_DEFAULTCAPACITY_EMPTY_ELEMENTDATA h0 n0 _ T3.heap _
    rw [e3]
    exact ⟨rfl, N3, K3⟩
theorem d3_0 : decode prog_54_method_1_code 0 = .ok (.aload_n 0, 1) := by decide +kernel
theorem d3_1 : decode prog_54_method_1_code 1 = .ok (.invokespecial 1, 3) := by decide +kernel
theorem wd_23 {Z : State} {a0 : Array Value} (hw : ∀ d ∈ tables_1, d.before a0 Z = true) : ((Jvm.Cond.methodLink "com/example/careful_ledger/carefulledger/UnreadRuns" (1 : Nat) ({ cls := "java/lang/Object", name := "<init>", desc := "()V" } : Jvm.MethodName))).before a0 Z = true := hw _ (List.mem_of_getElem? (i := 23) rfl)
theorem d3_4 : decode prog_54_method_1_code 4 = .ok (.aload_n 0, 1) := by decide +kernel
theorem d3_5 : decode prog_54_method_1_code 5 = .ok (.new 7, 3) := by decide +kernel
theorem wd_24 {Z : State} {a0 : Array Value} (hw : ∀ d ∈ tables_1, d.before a0 Z = true) : ((Jvm.Cond.classLink "com/example/careful_ledger/carefulledger/UnreadRuns" (7 : Nat) "java/util/ArrayList")).before a0 Z = true := hw _ (List.mem_of_getElem? (i := 24) rfl)
theorem wd_26 {Z : State} {a0 : Array Value} (hw : ∀ d ∈ tables_1, d.before a0 Z = true) : ((Jvm.Cond.initialized "java/util/ArrayList")).before a0 Z = true := hw _ (List.mem_of_getElem? (i := 26) rfl)
theorem d3_8 : decode prog_54_method_1_code 8 = .ok (.dup, 1) := by decide +kernel
theorem d3_9 : decode prog_54_method_1_code 9 = .ok (.invokespecial 9, 3) := by decide +kernel
theorem wd_27 {Z : State} {a0 : Array Value} (hw : ∀ d ∈ tables_1, d.before a0 Z = true) : ((Jvm.Cond.methodLink "com/example/careful_ledger/carefulledger/UnreadRuns" (9 : Nat) ({ cls := "java/util/ArrayList", name := "<init>", desc := "()V" } : Jvm.MethodName))).before a0 Z = true := hw _ (List.mem_of_getElem? (i := 27) rfl)
theorem wd_29 {Z : State} {a0 : Array Value} (hw : ∀ d ∈ tables_1, d.before a0 Z = true) : ((Jvm.Cond.code ({ cls := "java/util/ArrayList", name := "<init>", desc := "()V" } : Jvm.MethodName) jdk_38_method_2_code (1 : Nat) (Option.none : Option Jvm.ClassFile.FieldType))).before a0 Z = true := hw _ (List.mem_of_getElem? (i := 29) rfl)
theorem wd_28 {Z : State} {a0 : Array Value} (hw : ∀ d ∈ tables_1, d.before a0 Z = true) : ((Jvm.Cond.instanceMethod ({ cls := "java/util/ArrayList", name := "<init>", desc := "()V" } : Jvm.MethodName))).before a0 Z = true := hw _ (List.mem_of_getElem? (i := 28) rfl)
theorem d3_12 : decode prog_54_method_1_code 12 = .ok (.putfield 10, 3) := by decide +kernel
theorem wd_48 {Z : State} {a0 : Array Value} (hw : ∀ d ∈ tables_1, d.before a0 Z = true) : ((Jvm.Cond.fieldLink "com/example/careful_ledger/carefulledger/UnreadRuns" (10 : Nat) "com/example/careful_ledger/carefulledger/UnreadRuns" "pieces" "Ljava/util/List;")).before a0 Z = true := hw _ (List.mem_of_getElem? (i := 48) rfl)
theorem wd_49 {Z : State} {a0 : Array Value} (hw : ∀ d ∈ tables_1, d.before a0 Z = true) : ((Jvm.Cond.laysFinal "com/example/careful_ledger/carefulledger/UnreadRuns" "com/example/careful_ledger/carefulledger/UnreadRuns" "pieces" "Ljava/util/List;")).before a0 Z = true := hw _ (List.mem_of_getElem? (i := 49) rfl)
theorem wd_18 {Z : State} {a0 : Array Value} (hw : ∀ d ∈ tables_1, d.before a0 Z = true) : ((Jvm.Cond.instantiable "com/example/careful_ledger/carefulledger/UnreadRuns" (5 : Nat))).before a0 Z = true := hw _ (List.mem_of_getElem? (i := 18) rfl)
theorem d3_15 : decode prog_54_method_1_code 15 = .ok (.aload_n 0, 1) := by decide +kernel
theorem d3_16 : decode prog_54_method_1_code 16 = .ok (.new 7, 3) := by decide +kernel
theorem d3_19 : decode prog_54_method_1_code 19 = .ok (.dup, 1) := by decide +kernel
theorem d3_20 : decode prog_54_method_1_code 20 = .ok (.invokespecial 9, 3) := by decide +kernel
theorem d3_23 : decode prog_54_method_1_code 23 = .ok (.putfield 16, 3) := by decide +kernel
theorem wd_50 {Z : State} {a0 : Array Value} (hw : ∀ d ∈ tables_1, d.before a0 Z = true) : ((Jvm.Cond.fieldLink "com/example/careful_ledger/carefulledger/UnreadRuns" (16 : Nat) "com/example/careful_ledger/carefulledger/UnreadRuns" "restores" "Ljava/util/List;")).before a0 Z = true := hw _ (List.mem_of_getElem? (i := 50) rfl)
theorem wd_51 {Z : State} {a0 : Array Value} (hw : ∀ d ∈ tables_1, d.before a0 Z = true) : ((Jvm.Cond.laysFinal "com/example/careful_ledger/carefulledger/UnreadRuns" "com/example/careful_ledger/carefulledger/UnreadRuns" "restores" "Ljava/util/List;")).before a0 Z = true := hw _ (List.mem_of_getElem? (i := 51) rfl)
theorem sl_1 {Z : State} {a0 : Array Value} (hw : ∀ d ∈ tables_1, d.before a0 Z = true) : RoadKit.slotOf Z "com/example/careful_ledger/carefulledger/UnreadRuns" "restores" "Ljava/util/List;" ≠ RoadKit.slotOf Z "com/example/careful_ledger/carefulledger/UnreadRuns" "pieces" "Ljava/util/List;" := slot_ne (Or.inr (wd_51 hw)) (Or.inr (wd_49 hw)) (by decide) (t := (.object "java/util/List")) (t' := (.object "java/util/List")) (by decide) (by decide)
theorem d3_26 : decode prog_54_method_1_code 26 = .ok (.return_, 1) := by decide +kernel
theorem pn_com_example_careful_ledger_carefulledger_UnreadRuns : plainName "com/example/careful_ledger/carefulledger/UnreadRuns" = true := by first | (simp [plainName, overriddenIn]; done) | decide +kernel
theorem ef_3 (m : MethodId) (x0 : Addr) : entryFrame m #[(.ref x0)] 1 = mkF m 0 #[.val (.ref x0)] [] := by first | (simp [entryFrame, mkF, argsToLocals, Value.category]; done) | rfl
def Q3 (Z : State) (vr0 : Addr) (w_DEFAULTCAPACITY_EMPTY_ELEMENTDATA : Addr) (u_pieces_vr0 : Value) (u_restores_vr0 : Value) (h0 : Heap) (n0 : Nat) (v : Option Value) (h : Heap) (L : List Loc) : Prop := v = none ∧ Fr n0 L ∧ Keep h0 h [vr0]
set_option maxRecDepth 65536 in
set_option maxHeartbeats 40000000 in
theorem rm3 (l : Launch) (Z : State) (a0 : Array Value) (hw : ∀ d ∈ tables_1, d.before a0 Z = true) (ws : List Jvm.Cond) (vr0 : Addr) (w_DEFAULTCAPACITY_EMPTY_ELEMENTDATA : Addr) (u_pieces_vr0 : Value) (u_restores_vr0 : Value) (h0 : Heap) (n0 : Nat) (Z0 : n0 ≤ h0.size) (S_DEFAULTCAPACITY_EMPTY_ELEMENTDATA : Sta Z Z.heap "java/util/ArrayList" "DEFAULTCAPACITY_EMPTY_ELEMENTDATA" "[Ljava/lang/Object;" (.ref w_DEFAULTCAPACITY_EMPTY_ELEMENTDATA)) (O0 : Old Z n0 h0) (E_vr0 : Exa Z h0 vr0 "com/example/careful_ledger/carefulledger/UnreadRuns") (F_pieces_vr0 : Fld Z h0 vr0 "com/example/careful_ledger/carefulledger/UnreadRuns" "pieces" "Ljava/util/List;" u_pieces_vr0) (g_vr0 : n0 ≤ vr0) (F_restores_vr0 : Fld Z h0 vr0 "com/example/careful_ledger/carefulledger/UnreadRuns" "restores" "Ljava/util/List;" u_restores_vr0) :
    MetFree l (⟨"com/example/careful_ledger/carefulledger/UnreadRuns", "<init>", "()V"⟩ : MethodName) (head1 (Jvm.Cond.code (⟨"com/example/careful_ledger/carefulledger/UnreadRuns", "<init>", "()V"⟩ : MethodName) prog_54_method_1_code 1 none :: ws) ({ frames := 4, cells := 2, slots := 6, locals := 50 } : Room)) (fun a U => a = #[(.ref vr0)] ∧ Z.Warmed39 U.vm ∧ U.heap = h0) (fun _ _ _ _ _ => True) (fun _ U o U' => ∃ v L, o = .returned v ∧ Q3 Z vr0 w_DEFAULTCAPACITY_EMPTY_ELEMENTDATA u_pieces_vr0 u_restores_vr0 h0 n0 v U'.heap L ∧ FrameEnd U o U' L ({ frames := 4, cells := 2, slots := 6, locals := 50 } : Room).cells ({ frames := 4, cells := 2, slots := 6, locals := 50 } : Room).slots) := by
  refine MetFree.of_bodySF (plainFor_of_name pn_com_example_careful_ledger_carefulledger_UnreadRuns) hisR ?_
  intro p e s m args below meth c s₁ Bd hml0 hP hK
  obtain ⟨rfl, hZ, hh⟩ := hP
  have hx := Bd.exec
  have hby := Bd.bytes
  have hml : c.maxLocals = 1 := hml0
  have hown : s.vm.findClass "com/example/careful_ledger/carefulledger/UnreadRuns" = some m.cls := findClass_of_methodNamed Bd.named
  have hnm := (name_of_methodNamed Bd.named Bd.method).1
  have X0 : Stand p l e ({ frames := 4, cells := 2, slots := 6, locals := 50 } : Room) s m #[(.ref vr0)] below meth c s₁ [] 0 0 := Stand.of_body Bd
  have e0 : s₁.heap = h0 := by rw [← hh, Bd.state]; rfl
  have N0 := Fr.nil n0
  have pre0 : ∀ t, Steps p.tables e below (s₁.setTop (mkF m 0 #[.val (.ref vr0)] [])) t → Steps p.tables e below (s₁.setTop (entryFrame m #[(.ref vr0)] 1)) t := fun t k => castTop (ef_3 m vr0) k
  obtain ⟨T1, X1, e1, st1⟩ := initO X0 hx hZ hown (wd_23 hw) (wd_7 hw) (wd_8 hw) e0 (g := (mkF m 1 #[.val (.ref vr0)] [(.ref vr0)])) rfl (by rw [hml]; rfl) rfl (hb hby d3_1) (by decide) (W := 0) (by show 2 * 0 + _ ≤ _; exact Nat.le_of_eq rfl) (by decide)
  obtain ⟨T2, h2, X2, e2, E2, A2, D2, -, st2⟩ := newO X1 hx hZ hown (wd_24 hw) (wd_25 hw) (wd_26 hw) e1 (g := (mkF m 5 #[.val (.ref vr0)] [(.ref vr0)])) rfl (hb hby d3_5) (by decide) (by decide)
  obtain ⟨b2, g2⟩ : ∃ z, z = h0.size := ⟨_, rfl⟩
  rw [← g2] at A2 D2 st2
  have g_b2 : n0 ≤ b2 := Nat.le_trans Z0 (Nat.le_of_eq g2.symm)
  have sz_b2 : h0.size ≤ b2 := Nat.le_trans (Keep.refl h0 [vr0]).1 (Nat.le_of_eq g2.symm)
  have K2 : Keep h0 h2 [vr0] := (Keep.refl h0 [vr0]).ext E2
  have F_modCount_b2 : Fld Z h2 b2 "java/util/AbstractList" "modCount" "I" (.int (0 : Int32)) := D2 (Or.inl (wd_44 hw)) (ty := .int) (by decide)
  have F_elementData_b2 : Fld Z h2 b2 "java/util/ArrayList" "elementData" "[Ljava/lang/Object;" .null := D2 (Or.inl (wd_47 hw)) (ty := (.array (.object "java/lang/Object"))) (by decide)
  obtain ⟨_, _, ⟨T3, L3, k3, n3⟩, -, X3, ⟨Lc3, hQ3, l3, y3, z3⟩, st3⟩ := X2.specialBack hx (y := (⟨"java/util/ArrayList", "<init>", "()V"⟩ : MethodName)) rfl hown (mvT hZ (wd_27 hw)) (mvT hZ (wd_28 hw)) (mvT hZ (wd_29 hw)) (by decide) (backOf (W := 2) (rm4 l Z a0 hw [] b2 .null (.int (0 : Int32)) w_DEFAULTCAPACITY_EMPTY_ELEMENTDATA h2 n0 (Nat.le_trans Z0 E2.1) F_elementData_b2 A2 F_modCount_b2 g_b2 S_DEFAULTCAPACITY_EMPTY_ELEMENTDATA (O0.ext E2)) hZ (wd_29 hw) (wd_26 hw) (by decide) (by decide)) (g := (mkF m 9 #[.val (.ref vr0)] [(.ref b2), (.ref b2), (.ref vr0)])) rfl (by rw [hml]; rfl) (Steps.refl _) (a := b2) (argsL := []) (rest := [(.ref b2), (.ref vr0)]) (lenOf pd_1 rfl) rfl (by show 2 * 0 + _ ≤ _; exact Nat.le_of_eq rfl) (hb hby d3_9) (fun _ _ => ⟨rfl, e2, (by decide : 1 + 0 ≤ _), (by decide : 3 + 0 ≤ _)⟩)
  dsimp only [Pt.U, Pt.locs, Pt.cells, Pt.slots] at X3 l3 y3 z3 st3 hQ3
  subst l3 y3 z3
  obtain ⟨rfl, N3q, p3_0⟩ := hQ3
  have N3 := Fr.app N0 N3q
  have K3 : Keep h0 T3.heap [vr0] := K2.trans p3_0 (allS (Or.inr sz_b2) all0)
  obtain ⟨T4, h4, X4, e4, W4, st4⟩ := putF X3 hx hZ hown (host := "") (Or.inl (wd_48 hw)) Via.refl rfl ((F_pieces_vr0.ext E2).keep p3_0 (ninS (Nat.ne_of_lt (Nat.lt_of_lt_of_le E_vr0.lt (Nat.le_of_eq g2.symm))) nin0)) ((E_vr0.ext E2).keep p3_0) (Or.inr ⟨(wd_49 hw), rfl, hnm⟩) (wd_18 hw) (ty := (.object "java/util/List")) (by decide) rfl rfl (g := (mkF m 12 #[.val (.ref vr0)] [(.ref b2), (.ref vr0)])) rfl rfl (hb hby d3_12)
  have Fw4 := ((F_pieces_vr0.ext E2).keep p3_0 (ninS (Nat.ne_of_lt (Nat.lt_of_lt_of_le E_vr0.lt (Nat.le_of_eq g2.symm))) nin0)).same W4
  have N4 := Fr.snoc X4 N3 g_vr0
  have K4 : Keep h0 h4 [vr0] := K3.wr W4 (Or.inl (List.mem_of_getElem? (i := 0) rfl))
  obtain ⟨T5, h5, X5, e5, E5, A5, D5, -, st5⟩ := newO X4 hx hZ hown (wd_24 hw) (wd_25 hw) (wd_26 hw) e4 (g := (mkF m 16 #[.val (.ref vr0)] [(.ref vr0)])) rfl (hb hby d3_16) (by decide) (by decide)
  obtain ⟨b5, g5⟩ : ∃ z, z = h4.size := ⟨_, rfl⟩
  rw [← g5] at A5 D5 st5
  have g_b5 : n0 ≤ b5 := Nat.le_trans (Nat.le_trans (Nat.le_trans (Nat.le_trans Z0 E2.1) p3_0.1) (Keep.of_wr W4).1) (Nat.le_of_eq g5.symm)
  have sz_b5 : h0.size ≤ b5 := Nat.le_trans K4.1 (Nat.le_of_eq g5.symm)
  have K5 : Keep h0 h5 [vr0] := K4.ext E5
  have F_modCount_b5 : Fld Z h5 b5 "java/util/AbstractList" "modCount" "I" (.int (0 : Int32)) := D5 (Or.inl (wd_44 hw)) (ty := .int) (by decide)
  have F_elementData_b5 : Fld Z h5 b5 "java/util/ArrayList" "elementData" "[Ljava/lang/Object;" .null := D5 (Or.inl (wd_47 hw)) (ty := (.array (.object "java/lang/Object"))) (by decide)
  obtain ⟨_, _, ⟨T6, L6, k6, n6⟩, -, X6, ⟨Lc6, hQ6, l6, y6, z6⟩, st6⟩ := X5.specialBack hx (y := (⟨"java/util/ArrayList", "<init>", "()V"⟩ : MethodName)) rfl hown (mvT hZ (wd_27 hw)) (mvT hZ (wd_28 hw)) (mvT hZ (wd_29 hw)) (by decide) (backOf (W := 2) (rm4 l Z a0 hw [] b5 .null (.int (0 : Int32)) w_DEFAULTCAPACITY_EMPTY_ELEMENTDATA h5 n0 (Nat.le_trans (Nat.le_trans (Nat.le_trans (Nat.le_trans Z0 E2.1) p3_0.1) (Keep.of_wr W4).1) E5.1) F_elementData_b5 A5 F_modCount_b5 g_b5 S_DEFAULTCAPACITY_EMPTY_ELEMENTDATA ((((O0.ext E2).keep p3_0 (allS g_b2 all0)).wr W4 g_vr0).ext E5)) hZ (wd_29 hw) (wd_26 hw) (by decide) (by decide)) (g := (mkF m 20 #[.val (.ref vr0)] [(.ref b5), (.ref b5), (.ref vr0)])) rfl (by rw [hml]; rfl) (Steps.refl _) (a := b5) (argsL := []) (rest := [(.ref b5), (.ref vr0)]) (lenOf pd_1 rfl) rfl (by show 2 * 0 + _ ≤ _; exact Nat.le_of_eq rfl) (hb hby d3_20) (fun _ _ => ⟨rfl, e5, (by decide : 2 + 0 ≤ _), (by decide : 6 + 0 ≤ _)⟩)
  dsimp only [Pt.U, Pt.locs, Pt.cells, Pt.slots] at X6 l6 y6 z6 st6 hQ6
  subst l6 y6 z6
  obtain ⟨rfl, N6q, p6_0⟩ := hQ6
  have N6 := Fr.app N4 N6q
  have K6 : Keep h0 T6.heap [vr0] := K5.trans p6_0 (allS (Or.inr sz_b5) all0)
  obtain ⟨T7, h7, X7, e7, W7, st7⟩ := putF X6 hx hZ hown (host := "") (Or.inl (wd_50 hw)) Via.refl rfl (((((F_restores_vr0.ext E2).keep p3_0 (ninS (Nat.ne_of_lt (Nat.lt_of_lt_of_le E_vr0.lt (Nat.le_of_eq g2.symm))) nin0)).other W4 (Or.inr (sl_1 hw))).ext E5).keep p6_0 (ninS (Nat.ne_of_lt (Nat.lt_of_lt_of_le (((E_vr0.ext E2).keep p3_0).wr W4).lt (Nat.le_of_eq g5.symm))) nin0)) (((((E_vr0.ext E2).keep p3_0).wr W4).ext E5).keep p6_0) (Or.inr ⟨(wd_51 hw), rfl, hnm⟩) (wd_18 hw) (ty := (.object "java/util/List")) (by decide) rfl rfl (g := (mkF m 23 #[.val (.ref vr0)] [(.ref b5), (.ref vr0)])) rfl rfl (hb hby d3_23)
  have Fw7 := (((((F_restores_vr0.ext E2).keep p3_0 (ninS (Nat.ne_of_lt (Nat.lt_of_lt_of_le E_vr0.lt (Nat.le_of_eq g2.symm))) nin0)).other W4 (Or.inr (sl_1 hw))).ext E5).keep p6_0 (ninS (Nat.ne_of_lt (Nat.lt_of_lt_of_le (((E_vr0.ext E2).keep p3_0).wr W4).lt (Nat.le_of_eq g5.symm))) nin0)).same W7
  have N7 := Fr.snoc X7 N6 g_vr0
  have K7 : Keep h0 h7 [vr0] := K6.wr W7 (Or.inl (List.mem_of_getElem? (i := 0) rfl))
  obtain ⟨fs, hr, hrun, hended, hW, hsame⟩ := X7.leave (v := none) (fun _ => rfl)
  refine ⟨_, _, pre0 _ ?_, hrun, hended, _, _, rfl, ?_, ⟨_, rfl⟩, hW, hsame.mono (by decide) (by decide)⟩
  · show Steps p.tables e below (s₁.setTop (mkF m 0 #[.val (.ref vr0)] [])) _
    refine XS.aloadN X0.here hx rfl (hb hby d3_0) rfl rfl ?_
    show Steps p.tables e below (s₁.setTop (mkF m 1 #[.val (.ref vr0)] [(.ref vr0)])) _
    refine st1 _ ?_
    show Steps p.tables e below (T1.setTop (mkF m 4 #[.val (.ref vr0)] [])) _
    refine XS.aloadN X1.here hx rfl (hb hby d3_4) rfl rfl ?_
    show Steps p.tables e below (T1.setTop (mkF m 5 #[.val (.ref vr0)] [(.ref vr0)])) _
    refine st2 _ ?_
    show Steps p.tables e below (T2.setTop (mkF m 8 #[.val (.ref vr0)] [(.ref b2), (.ref vr0)])) _
    refine XS.dup X2.here hx rfl (hb hby d3_8) rfl rfl ?_
    show Steps p.tables e below (T2.setTop (mkF m 9 #[.val (.ref vr0)] [(.ref b2), (.ref b2), (.ref vr0)])) _
    refine st3.trans ?_
    show Steps p.tables e below (T3.setTop (mkF m 12 #[.val (.ref vr0)] [(.ref b2), (.ref vr0)])) _
    refine st4 _ ?_
    show Steps p.tables e below (T4.setTop (mkF m 15 #[.val (.ref vr0)] [])) _
    refine XS.aloadN X4.here hx rfl (hb hby d3_15) rfl rfl ?_
    show Steps p.tables e below (T4.setTop (mkF m 16 #[.val (.ref vr0)] [(.ref vr0)])) _
    refine st5 _ ?_
    show Steps p.tables e below (T5.setTop (mkF m 19 #[.val (.ref vr0)] [(.ref b5), (.ref vr0)])) _
    refine XS.dup X5.here hx rfl (hb hby d3_19) rfl rfl ?_
    show Steps p.tables e below (T5.setTop (mkF m 20 #[.val (.ref vr0)] [(.ref b5), (.ref b5), (.ref vr0)])) _
    refine st6.trans ?_
    show Steps p.tables e below (T6.setTop (mkF m 23 #[.val (.ref vr0)] [(.ref b5), (.ref vr0)])) _
    refine st7 _ ?_
    show Steps p.tables e below (T7.setTop (mkF m 26 #[.val (.ref vr0)] [])) _
    exact X7.returnOut hx Bd.returns (hb hby d3_26) hr
  · show Q3 Z vr0 w_DEFAULTCAPACITY_EMPTY_ELEMENTDATA u_pieces_vr0 u_restores_vr0 h0 n0 _ T7.heap _
    rw [e7]
    exact ⟨rfl, N7, K7⟩
theorem d1_0 : decode prog_36_method_1_code 0 = .ok (.aload_n 0, 1) := by decide +kernel
theorem d1_1 : decode prog_36_method_1_code 1 = .ok (.invokespecial 1, 3) := by decide +kernel
theorem wd_6 {Z : State} {a0 : Array Value} (hw : ∀ d ∈ tables_1, d.before a0 Z = true) : ((Jvm.Cond.methodLink "com/example/careful_ledger/carefulledger/RowPages" (1 : Nat) ({ cls := "java/lang/Object", name := "<init>", desc := "()V" } : Jvm.MethodName))).before a0 Z = true := hw _ (List.mem_of_getElem? (i := 6) rfl)
theorem d1_4 : decode prog_36_method_1_code 4 = .ok (.aload_n 0, 1) := by decide +kernel
theorem d1_5 : decode prog_36_method_1_code 5 = .ok (.iconst 0, 1) := by decide +kernel
theorem d1_6 : decode prog_36_method_1_code 6 = .ok (.anewarray 7, 3) := by decide +kernel
theorem wd_9 {Z : State} {a0 : Array Value} (hw : ∀ d ∈ tables_1, d.before a0 Z = true) : ((Jvm.Cond.classLink "com/example/careful_ledger/carefulledger/RowPages" (7 : Nat) "[J")).before a0 Z = true := hw _ (List.mem_of_getElem? (i := 9) rfl)
theorem wd_10 {Z : State} {a0 : Array Value} (hw : ∀ d ∈ tables_1, d.before a0 Z = true) : ((Jvm.Cond.arrayOver (Jvm.ClassFile.FieldType.array Jvm.ClassFile.FieldType.long))).before a0 Z = true := hw _ (List.mem_of_getElem? (i := 10) rfl)
theorem d1_9 : decode prog_36_method_1_code 9 = .ok (.putfield 9, 3) := by decide +kernel
theorem wd_11 {Z : State} {a0 : Array Value} (hw : ∀ d ∈ tables_1, d.before a0 Z = true) : ((Jvm.Cond.fieldLink "com/example/careful_ledger/carefulledger/RowPages" (9 : Nat) "com/example/careful_ledger/carefulledger/RowPages" "pages" "[[J")).before a0 Z = true := hw _ (List.mem_of_getElem? (i := 11) rfl)
theorem wd_12 {Z : State} {a0 : Array Value} (hw : ∀ d ∈ tables_1, d.before a0 Z = true) : ((Jvm.Cond.lays "com/example/careful_ledger/carefulledger/RowPages" "com/example/careful_ledger/carefulledger/RowPages" "pages" "[[J")).before a0 Z = true := hw _ (List.mem_of_getElem? (i := 12) rfl)
theorem wd_1 {Z : State} {a0 : Array Value} (hw : ∀ d ∈ tables_1, d.before a0 Z = true) : ((Jvm.Cond.instantiable "com/example/careful_ledger/carefulledger/RowPages" (7 : Nat))).before a0 Z = true := hw _ (List.mem_of_getElem? (i := 1) rfl)
theorem d1_12 : decode prog_36_method_1_code 12 = .ok (.aload_n 0, 1) := by decide +kernel
theorem d1_13 : decode prog_36_method_1_code 13 = .ok (.iconst 0, 1) := by decide +kernel
theorem d1_14 : decode prog_36_method_1_code 14 = .ok (.anewarray 15, 3) := by decide +kernel
theorem wd_13 {Z : State} {a0 : Array Value} (hw : ∀ d ∈ tables_1, d.before a0 Z = true) : ((Jvm.Cond.classLink "com/example/careful_ledger/carefulledger/RowPages" (15 : Nat) "com/example/careful_ledger/carefulledger/PageSource")).before a0 Z = true := hw _ (List.mem_of_getElem? (i := 13) rfl)
theorem wd_14 {Z : State} {a0 : Array Value} (hw : ∀ d ∈ tables_1, d.before a0 Z = true) : ((Jvm.Cond.arrayOver (Jvm.ClassFile.FieldType.object "com/example/careful_ledger/carefulledger/PageSource"))).before a0 Z = true := hw _ (List.mem_of_getElem? (i := 14) rfl)
theorem d1_17 : decode prog_36_method_1_code 17 = .ok (.putfield 17, 3) := by decide +kernel
theorem wd_15 {Z : State} {a0 : Array Value} (hw : ∀ d ∈ tables_1, d.before a0 Z = true) : ((Jvm.Cond.fieldLink "com/example/careful_ledger/carefulledger/RowPages" (17 : Nat) "com/example/careful_ledger/carefulledger/RowPages" "sources" "[Lcom/example/careful_ledger/carefulledger/PageSource;")).before a0 Z = true := hw _ (List.mem_of_getElem? (i := 15) rfl)
theorem wd_16 {Z : State} {a0 : Array Value} (hw : ∀ d ∈ tables_1, d.before a0 Z = true) : ((Jvm.Cond.lays "com/example/careful_ledger/carefulledger/RowPages" "com/example/careful_ledger/carefulledger/RowPages" "sources" "[Lcom/example/careful_ledger/carefulledger/PageSource;")).before a0 Z = true := hw _ (List.mem_of_getElem? (i := 16) rfl)
theorem sl_2 {Z : State} {a0 : Array Value} (hw : ∀ d ∈ tables_1, d.before a0 Z = true) : RoadKit.slotOf Z "com/example/careful_ledger/carefulledger/RowPages" "sources" "[Lcom/example/careful_ledger/carefulledger/PageSource;" ≠ RoadKit.slotOf Z "com/example/careful_ledger/carefulledger/RowPages" "pages" "[[J" := slot_ne (Or.inl (wd_16 hw)) (Or.inl (wd_12 hw)) (by decide) (t := (.array (.object "com/example/careful_ledger/carefulledger/PageSource"))) (t' := (.array (.array .long))) (by decide) (by decide)
theorem d1_20 : decode prog_36_method_1_code 20 = .ok (.aload_n 0, 1) := by decide +kernel
theorem d1_21 : decode prog_36_method_1_code 21 = .ok (.new 21, 3) := by decide +kernel
theorem wd_17 {Z : State} {a0 : Array Value} (hw : ∀ d ∈ tables_1, d.before a0 Z = true) : ((Jvm.Cond.classLink "com/example/careful_ledger/carefulledger/RowPages" (21 : Nat) "com/example/careful_ledger/carefulledger/UnreadRuns")).before a0 Z = true := hw _ (List.mem_of_getElem? (i := 17) rfl)
theorem wd_19 {Z : State} {a0 : Array Value} (hw : ∀ d ∈ tables_1, d.before a0 Z = true) : ((Jvm.Cond.initialized "com/example/careful_ledger/carefulledger/UnreadRuns")).before a0 Z = true := hw _ (List.mem_of_getElem? (i := 19) rfl)
theorem d1_24 : decode prog_36_method_1_code 24 = .ok (.dup, 1) := by decide +kernel
theorem d1_25 : decode prog_36_method_1_code 25 = .ok (.invokespecial 23, 3) := by decide +kernel
theorem wd_20 {Z : State} {a0 : Array Value} (hw : ∀ d ∈ tables_1, d.before a0 Z = true) : ((Jvm.Cond.methodLink "com/example/careful_ledger/carefulledger/RowPages" (23 : Nat) ({ cls := "com/example/careful_ledger/carefulledger/UnreadRuns", name := "<init>", desc := "()V" } : Jvm.MethodName))).before a0 Z = true := hw _ (List.mem_of_getElem? (i := 20) rfl)
theorem wd_22 {Z : State} {a0 : Array Value} (hw : ∀ d ∈ tables_1, d.before a0 Z = true) : ((Jvm.Cond.code ({ cls := "com/example/careful_ledger/carefulledger/UnreadRuns", name := "<init>", desc := "()V" } : Jvm.MethodName) prog_54_method_1_code (1 : Nat) (Option.none : Option Jvm.ClassFile.FieldType))).before a0 Z = true := hw _ (List.mem_of_getElem? (i := 22) rfl)
theorem wd_21 {Z : State} {a0 : Array Value} (hw : ∀ d ∈ tables_1, d.before a0 Z = true) : ((Jvm.Cond.instanceMethod ({ cls := "com/example/careful_ledger/carefulledger/UnreadRuns", name := "<init>", desc := "()V" } : Jvm.MethodName))).before a0 Z = true := hw _ (List.mem_of_getElem? (i := 21) rfl)
theorem d1_28 : decode prog_36_method_1_code 28 = .ok (.putfield 24, 3) := by decide +kernel
theorem wd_52 {Z : State} {a0 : Array Value} (hw : ∀ d ∈ tables_1, d.before a0 Z = true) : ((Jvm.Cond.fieldLink "com/example/careful_ledger/carefulledger/RowPages" (24 : Nat) "com/example/careful_ledger/carefulledger/RowPages" "unread" "Lcom/example/careful_ledger/carefulledger/UnreadRuns;")).before a0 Z = true := hw _ (List.mem_of_getElem? (i := 52) rfl)
theorem wd_53 {Z : State} {a0 : Array Value} (hw : ∀ d ∈ tables_1, d.before a0 Z = true) : ((Jvm.Cond.laysFinal "com/example/careful_ledger/carefulledger/RowPages" "com/example/careful_ledger/carefulledger/RowPages" "unread" "Lcom/example/careful_ledger/carefulledger/UnreadRuns;")).before a0 Z = true := hw _ (List.mem_of_getElem? (i := 53) rfl)
theorem sl_3 {Z : State} {a0 : Array Value} (hw : ∀ d ∈ tables_1, d.before a0 Z = true) : RoadKit.slotOf Z "com/example/careful_ledger/carefulledger/RowPages" "unread" "Lcom/example/careful_ledger/carefulledger/UnreadRuns;" ≠ RoadKit.slotOf Z "com/example/careful_ledger/carefulledger/RowPages" "pages" "[[J" := slot_ne (Or.inr (wd_53 hw)) (Or.inl (wd_12 hw)) (by decide) (t := (.object "com/example/careful_ledger/carefulledger/UnreadRuns")) (t' := (.array (.array .long))) (by decide) (by decide)
theorem sl_4 {Z : State} {a0 : Array Value} (hw : ∀ d ∈ tables_1, d.before a0 Z = true) : RoadKit.slotOf Z "com/example/careful_ledger/carefulledger/RowPages" "unread" "Lcom/example/careful_ledger/carefulledger/UnreadRuns;" ≠ RoadKit.slotOf Z "com/example/careful_ledger/carefulledger/RowPages" "sources" "[Lcom/example/careful_ledger/carefulledger/PageSource;" := slot_ne (Or.inr (wd_53 hw)) (Or.inl (wd_16 hw)) (by decide) (t := (.object "com/example/careful_ledger/carefulledger/UnreadRuns")) (t' := (.array (.object "com/example/careful_ledger/carefulledger/PageSource"))) (by decide) (by decide)
theorem d1_31 : decode prog_36_method_1_code 31 = .ok (.iload_n 1, 1) := by decide +kernel
theorem d1_32 : decode prog_36_method_1_code 32 = .ok (.invokestatic 28, 3) := by decide +kernel
theorem wd_54 {Z : State} {a0 : Array Value} (hw : ∀ d ∈ tables_1, d.before a0 Z = true) : ((Jvm.Cond.methodLink "com/example/careful_ledger/carefulledger/RowPages" (28 : Nat) ({ cls := "java/lang/Integer", name := "bitCount", desc := "(I)I" } : Jvm.MethodName))).before a0 Z = true := hw _ (List.mem_of_getElem? (i := 54) rfl)
theorem wd_57 {Z : State} {a0 : Array Value} (hw : ∀ d ∈ tables_1, d.before a0 Z = true) : ((Jvm.Cond.code ({ cls := "java/lang/Integer", name := "bitCount", desc := "(I)I" } : Jvm.MethodName) jdk_33_method_49_code (1 : Nat) (Option.some Jvm.ClassFile.FieldType.int))).before a0 Z = true := hw _ (List.mem_of_getElem? (i := 57) rfl)
theorem wd_56 {Z : State} {a0 : Array Value} (hw : ∀ d ∈ tables_1, d.before a0 Z = true) : ((Jvm.Cond.initialized "java/lang/Integer")).before a0 Z = true := hw _ (List.mem_of_getElem? (i := 56) rfl)
theorem pd_2 : parseMethodDescriptor "(I)I" = some ⟨[.int], some .int⟩ := by decide +kernel
theorem wd_55 {Z : State} {a0 : Array Value} (hw : ∀ d ∈ tables_1, d.before a0 Z = true) : ((Jvm.Cond.static ({ cls := "java/lang/Integer", name := "bitCount", desc := "(I)I" } : Jvm.MethodName))).before a0 Z = true := hw _ (List.mem_of_getElem? (i := 55) rfl)
theorem d1_35 : decode prog_36_method_1_code 35 = .ok (.iconst 1, 1) := by decide +kernel
theorem d1_36 : decode prog_36_method_1_code 36 = .ok (.if_icmp .ne 9, 3) := by decide +kernel
theorem d1_39 : decode prog_36_method_1_code 39 = .ok (.iload_n 1, 1) := by decide +kernel
theorem d1_40 : decode prog_36_method_1_code 40 = .ok (.ldc 34, 2) := by decide +kernel
theorem wd_61 {Z : State} {a0 : Array Value} (hw : ∀ d ∈ tables_1, d.before a0 Z = true) : ((Jvm.Cond.constant "com/example/careful_ledger/carefulledger/RowPages" (34 : Nat) (32768 : Int32))).before a0 Z = true := hw _ (List.mem_of_getElem? (i := 61) rfl)
theorem d1_42 : decode prog_36_method_1_code 42 = .ok (.if_icmp .le 17, 3) := by decide +kernel
theorem d1_59 : decode prog_36_method_1_code 59 = .ok (.aload_n 0, 1) := by decide +kernel
theorem d1_60 : decode prog_36_method_1_code 60 = .ok (.iload_n 1, 1) := by decide +kernel
theorem d1_61 : decode prog_36_method_1_code 61 = .ok (.invokestatic 44, 3) := by decide +kernel
theorem wd_62 {Z : State} {a0 : Array Value} (hw : ∀ d ∈ tables_1, d.before a0 Z = true) : ((Jvm.Cond.methodLink "com/example/careful_ledger/carefulledger/RowPages" (44 : Nat) ({ cls := "java/lang/Integer", name := "numberOfTrailingZeros", desc := "(I)I" } : Jvm.MethodName))).before a0 Z = true := hw _ (List.mem_of_getElem? (i := 62) rfl)
theorem wd_64 {Z : State} {a0 : Array Value} (hw : ∀ d ∈ tables_1, d.before a0 Z = true) : ((Jvm.Cond.code ({ cls := "java/lang/Integer", name := "numberOfTrailingZeros", desc := "(I)I" } : Jvm.MethodName) jdk_33_method_48_code (2 : Nat) (Option.some Jvm.ClassFile.FieldType.int))).before a0 Z = true := hw _ (List.mem_of_getElem? (i := 64) rfl)
theorem wd_63 {Z : State} {a0 : Array Value} (hw : ∀ d ∈ tables_1, d.before a0 Z = true) : ((Jvm.Cond.static ({ cls := "java/lang/Integer", name := "numberOfTrailingZeros", desc := "(I)I" } : Jvm.MethodName))).before a0 Z = true := hw _ (List.mem_of_getElem? (i := 63) rfl)
theorem d1_64 : decode prog_36_method_1_code 64 = .ok (.putfield 47, 3) := by decide +kernel
theorem wd_65 {Z : State} {a0 : Array Value} (hw : ∀ d ∈ tables_1, d.before a0 Z = true) : ((Jvm.Cond.fieldLink "com/example/careful_ledger/carefulledger/RowPages" (47 : Nat) "com/example/careful_ledger/carefulledger/RowPages" "rowBits" "I")).before a0 Z = true := hw _ (List.mem_of_getElem? (i := 65) rfl)
theorem wd_66 {Z : State} {a0 : Array Value} (hw : ∀ d ∈ tables_1, d.before a0 Z = true) : ((Jvm.Cond.laysFinal "com/example/careful_ledger/carefulledger/RowPages" "com/example/careful_ledger/carefulledger/RowPages" "rowBits" "I")).before a0 Z = true := hw _ (List.mem_of_getElem? (i := 66) rfl)
theorem sl_5 {Z : State} {a0 : Array Value} (hw : ∀ d ∈ tables_1, d.before a0 Z = true) : RoadKit.slotOf Z "com/example/careful_ledger/carefulledger/RowPages" "rowBits" "I" ≠ RoadKit.slotOf Z "com/example/careful_ledger/carefulledger/RowPages" "pages" "[[J" := slot_ne (Or.inr (wd_66 hw)) (Or.inl (wd_12 hw)) (by decide) (t := .int) (t' := (.array (.array .long))) (by decide) (by decide)
theorem sl_6 {Z : State} {a0 : Array Value} (hw : ∀ d ∈ tables_1, d.before a0 Z = true) : RoadKit.slotOf Z "com/example/careful_ledger/carefulledger/RowPages" "rowBits" "I" ≠ RoadKit.slotOf Z "com/example/careful_ledger/carefulledger/RowPages" "sources" "[Lcom/example/careful_ledger/carefulledger/PageSource;" := slot_ne (Or.inr (wd_66 hw)) (Or.inl (wd_16 hw)) (by decide) (t := .int) (t' := (.array (.object "com/example/careful_ledger/carefulledger/PageSource"))) (by decide) (by decide)
theorem sl_7 {Z : State} {a0 : Array Value} (hw : ∀ d ∈ tables_1, d.before a0 Z = true) : RoadKit.slotOf Z "com/example/careful_ledger/carefulledger/RowPages" "rowBits" "I" ≠ RoadKit.slotOf Z "com/example/careful_ledger/carefulledger/RowPages" "unread" "Lcom/example/careful_ledger/carefulledger/UnreadRuns;" := slot_ne (Or.inr (wd_66 hw)) (Or.inr (wd_53 hw)) (by decide) (t := .int) (t' := (.object "com/example/careful_ledger/carefulledger/UnreadRuns")) (by decide) (by decide)
theorem d1_67 : decode prog_36_method_1_code 67 = .ok (.aload_n 0, 1) := by decide +kernel
theorem d1_68 : decode prog_36_method_1_code 68 = .ok (.bipush 15, 2) := by decide +kernel
theorem d1_70 : decode prog_36_method_1_code 70 = .ok (.aload_n 0, 1) := by decide +kernel
theorem d1_71 : decode prog_36_method_1_code 71 = .ok (.getfield 47, 3) := by decide +kernel
theorem d1_74 : decode prog_36_method_1_code 74 = .ok (.isub, 1) := by decide +kernel
theorem d1_75 : decode prog_36_method_1_code 75 = .ok (.putfield 51, 3) := by decide +kernel
theorem wd_67 {Z : State} {a0 : Array Value} (hw : ∀ d ∈ tables_1, d.before a0 Z = true) : ((Jvm.Cond.fieldLink "com/example/careful_ledger/carefulledger/RowPages" (51 : Nat) "com/example/careful_ledger/carefulledger/RowPages" "pageBits" "I")).before a0 Z = true := hw _ (List.mem_of_getElem? (i := 67) rfl)
theorem wd_68 {Z : State} {a0 : Array Value} (hw : ∀ d ∈ tables_1, d.before a0 Z = true) : ((Jvm.Cond.laysFinal "com/example/careful_ledger/carefulledger/RowPages" "com/example/careful_ledger/carefulledger/RowPages" "pageBits" "I")).before a0 Z = true := hw _ (List.mem_of_getElem? (i := 68) rfl)
theorem sl_8 {Z : State} {a0 : Array Value} (hw : ∀ d ∈ tables_1, d.before a0 Z = true) : RoadKit.slotOf Z "com/example/careful_ledger/carefulledger/RowPages" "pageBits" "I" ≠ RoadKit.slotOf Z "com/example/careful_ledger/carefulledger/RowPages" "pages" "[[J" := slot_ne (Or.inr (wd_68 hw)) (Or.inl (wd_12 hw)) (by decide) (t := .int) (t' := (.array (.array .long))) (by decide) (by decide)
theorem sl_9 {Z : State} {a0 : Array Value} (hw : ∀ d ∈ tables_1, d.before a0 Z = true) : RoadKit.slotOf Z "com/example/careful_ledger/carefulledger/RowPages" "pageBits" "I" ≠ RoadKit.slotOf Z "com/example/careful_ledger/carefulledger/RowPages" "sources" "[Lcom/example/careful_ledger/carefulledger/PageSource;" := slot_ne (Or.inr (wd_68 hw)) (Or.inl (wd_16 hw)) (by decide) (t := .int) (t' := (.array (.object "com/example/careful_ledger/carefulledger/PageSource"))) (by decide) (by decide)
theorem sl_10 {Z : State} {a0 : Array Value} (hw : ∀ d ∈ tables_1, d.before a0 Z = true) : RoadKit.slotOf Z "com/example/careful_ledger/carefulledger/RowPages" "pageBits" "I" ≠ RoadKit.slotOf Z "com/example/careful_ledger/carefulledger/RowPages" "unread" "Lcom/example/careful_ledger/carefulledger/UnreadRuns;" := slot_ne (Or.inr (wd_68 hw)) (Or.inr (wd_53 hw)) (by decide) (t := .int) (t' := (.object "com/example/careful_ledger/carefulledger/UnreadRuns")) (by decide) (by decide)
theorem sl_11 {Z : State} {a0 : Array Value} (hw : ∀ d ∈ tables_1, d.before a0 Z = true) : RoadKit.slotOf Z "com/example/careful_ledger/carefulledger/RowPages" "pageBits" "I" ≠ RoadKit.slotOf Z "com/example/careful_ledger/carefulledger/RowPages" "rowBits" "I" := slot_ne (Or.inr (wd_68 hw)) (Or.inr (wd_66 hw)) (by decide) (t := .int) (t' := .int) (by decide) (by decide)
theorem d1_78 : decode prog_36_method_1_code 78 = .ok (.return_, 1) := by decide +kernel
theorem sl_12 {Z : State} {a0 : Array Value} (hw : ∀ d ∈ tables_1, d.before a0 Z = true) : RoadKit.slotOf Z "com/example/careful_ledger/carefulledger/RowPages" "rowBits" "I" ≠ RoadKit.slotOf Z "com/example/careful_ledger/carefulledger/RowPages" "pageBits" "I" := slot_ne (Or.inr (wd_66 hw)) (Or.inr (wd_68 hw)) (by decide) (t := .int) (t' := .int) (by decide) (by decide)
theorem pn_com_example_careful_ledger_carefulledger_RowPages : plainName "com/example/careful_ledger/carefulledger/RowPages" = true := by first | (simp [plainName, overriddenIn]; done) | decide +kernel
theorem ef_1 (m : MethodId) (x0 : Addr) (x1 : Int32) : entryFrame m #[(.ref x0), (.int x1)] 2 = mkF m 0 #[.val (.ref x0), .val (.int x1)] [] := by first | (simp [entryFrame, mkF, argsToLocals, Value.category]; done) | rfl
def Q1 (Z : State) (vr0 : Addr) (vi1 : Int32) (u_pages_vr0 : Value) (u_sources_vr0 : Value) (w_DEFAULTCAPACITY_EMPTY_ELEMENTDATA : Addr) (u_unread_vr0 : Value) (u_rowBits_vr0 : Value) (u_pageBits_vr0 : Value) (h0 : Heap) (n0 : Nat) (v : Option Value) (h : Heap) (L : List Loc) : Prop := v = none ∧ Fr n0 L ∧ Keep h0 h [vr0] ∧ Fld Z h vr0 "com/example/careful_ledger/carefulledger/RowPages" "rowBits" "I" (.int (own_tz vi1)) ∧ Fld Z h vr0 "com/example/careful_ledger/carefulledger/RowPages" "pageBits" "I" (.int ((15 : Int32) - (own_tz vi1)))
set_option maxRecDepth 65536 in
set_option maxHeartbeats 40000000 in
theorem rm1 (l : Launch) (Z : State) (a0 : Array Value) (hw : ∀ d ∈ tables_1, d.before a0 Z = true) (ws : List Jvm.Cond) (vr0 : Addr) (vi1 : Int32) (u_pages_vr0 : Value) (u_sources_vr0 : Value) (w_DEFAULTCAPACITY_EMPTY_ELEMENTDATA : Addr) (u_unread_vr0 : Value) (u_rowBits_vr0 : Value) (u_pageBits_vr0 : Value) (h0 : Heap) (n0 : Nat) (Z0 : n0 ≤ h0.size) (E_vr0 : Exa Z h0 vr0 "com/example/careful_ledger/carefulledger/RowPages") (F_pages_vr0 : Fld Z h0 vr0 "com/example/careful_ledger/carefulledger/RowPages" "pages" "[[J" u_pages_vr0) (g_vr0 : n0 ≤ vr0) (F_sources_vr0 : Fld Z h0 vr0 "com/example/careful_ledger/carefulledger/RowPages" "sources" "[Lcom/example/careful_ledger/carefulledger/PageSource;" u_sources_vr0) (S_DEFAULTCAPACITY_EMPTY_ELEMENTDATA : Sta Z Z.heap "java/util/ArrayList" "DEFAULTCAPACITY_EMPTY_ELEMENTDATA" "[Ljava/lang/Object;" (.ref w_DEFAULTCAPACITY_EMPTY_ELEMENTDATA)) (O0 : Old Z n0 h0) (F_unread_vr0 : Fld Z h0 vr0 "com/example/careful_ledger/carefulledger/RowPages" "unread" "Lcom/example/careful_ledger/carefulledger/UnreadRuns;" u_unread_vr0) (hc36 : (own_bc vi1) = (1 : Int32)) (hc42 : ¬ ((32768 : Int32) < vi1)) (c61_hp : own_pow vi1) (F_rowBits_vr0 : Fld Z h0 vr0 "com/example/careful_ledger/carefulledger/RowPages" "rowBits" "I" u_rowBits_vr0) (F_pageBits_vr0 : Fld Z h0 vr0 "com/example/careful_ledger/carefulledger/RowPages" "pageBits" "I" u_pageBits_vr0) :
    MetFree l (⟨"com/example/careful_ledger/carefulledger/RowPages", "<init>", "(I)V"⟩ : MethodName) (head1 (Jvm.Cond.code (⟨"com/example/careful_ledger/carefulledger/RowPages", "<init>", "(I)V"⟩ : MethodName) prog_36_method_1_code 2 none :: ws) ({ frames := 5, cells := 5, slots := 11, locals := 64 } : Room)) (fun a U => a = #[(.ref vr0), (.int vi1)] ∧ Z.Warmed39 U.vm ∧ U.heap = h0) (fun _ _ _ _ _ => True) (fun _ U o U' => ∃ v L, o = .returned v ∧ Q1 Z vr0 vi1 u_pages_vr0 u_sources_vr0 w_DEFAULTCAPACITY_EMPTY_ELEMENTDATA u_unread_vr0 u_rowBits_vr0 u_pageBits_vr0 h0 n0 v U'.heap L ∧ FrameEnd U o U' L ({ frames := 5, cells := 5, slots := 11, locals := 64 } : Room).cells ({ frames := 5, cells := 5, slots := 11, locals := 64 } : Room).slots) := by
  refine MetFree.of_bodySF (plainFor_of_name pn_com_example_careful_ledger_carefulledger_RowPages) hisR ?_
  intro p e s m args below meth c s₁ Bd hml0 hP hK
  obtain ⟨rfl, hZ, hh⟩ := hP
  have hx := Bd.exec
  have hby := Bd.bytes
  have hml : c.maxLocals = 2 := hml0
  have hown : s.vm.findClass "com/example/careful_ledger/carefulledger/RowPages" = some m.cls := findClass_of_methodNamed Bd.named
  have hnm := (name_of_methodNamed Bd.named Bd.method).1
  have X0 : Stand p l e ({ frames := 5, cells := 5, slots := 11, locals := 64 } : Room) s m #[(.ref vr0), (.int vi1)] below meth c s₁ [] 0 0 := Stand.of_body Bd
  have e0 : s₁.heap = h0 := by rw [← hh, Bd.state]; rfl
  have N0 := Fr.nil n0
  have pre0 : ∀ t, Steps p.tables e below (s₁.setTop (mkF m 0 #[.val (.ref vr0), .val (.int vi1)] [])) t → Steps p.tables e below (s₁.setTop (entryFrame m #[(.ref vr0), (.int vi1)] 2)) t := fun t k => castTop (ef_1 m vr0 vi1) k
  obtain ⟨T1, X1, e1, st1⟩ := initO X0 hx hZ hown (wd_6 hw) (wd_7 hw) (wd_8 hw) e0 (g := (mkF m 1 #[.val (.ref vr0), .val (.int vi1)] [(.ref vr0)])) rfl (by rw [hml]; rfl) rfl (hb hby d1_1) (by decide) (W := 0) (by show 2 * 0 + _ ≤ _; exact Nat.le_of_eq rfl) (by decide)
  obtain ⟨T2, h2, k2, X2, e2, E2, A2, _, O2, st2⟩ := newRA X1 hx hZ hown (C := "[J") (ty := .long) (by decide) (wd_9 hw) (wd_10 hw) e1 (g := (mkF m 6 #[.val (.ref vr0), .val (.int vi1)] [(.int (0 : Int32)), (.ref vr0)])) rfl (hb hby d1_6) rfl (by decide) (cap := 0) (by decide) (by decide) (by decide) (by decide) rfl
  obtain ⟨b2, g2⟩ : ∃ z, z = h0.size := ⟨_, rfl⟩
  rw [← g2] at A2 st2
  have g_b2 : n0 ≤ b2 := Nat.le_trans Z0 (Nat.le_of_eq g2.symm)
  have sz_b2 : h0.size ≤ b2 := Nat.le_trans (Keep.refl h0 [vr0]).1 (Nat.le_of_eq g2.symm)
  have K2 : Keep h0 h2 [vr0] := (Keep.refl h0 [vr0]).ext E2
  have V_b2 : Arv Z h2 b2 k2 (.array .long) (0 : Int32) [] .null := Arv.new A2 (by decide)
  obtain ⟨T3, h3, X3, e3, W3, st3⟩ := putF X2 hx hZ hown (host := "") (Or.inl (wd_11 hw)) Via.refl e2 (F_pages_vr0.ext E2) (E_vr0.ext E2) (Or.inl (wd_12 hw)) (wd_1 hw) (ty := (.array (.array .long))) (by decide) rfl rfl (g := (mkF m 9 #[.val (.ref vr0), .val (.int vi1)] [(.ref b2), (.ref vr0)])) rfl rfl (hb hby d1_9)
  have Fw3 := (F_pages_vr0.ext E2).same W3
  have N3 := Fr.snoc X3 N0 g_vr0
  have K3 : Keep h0 h3 [vr0] := K2.wr W3 (Or.inl (List.mem_of_getElem? (i := 0) rfl))
  obtain ⟨T4, h4, k4, X4, e4, E4, A4, O4, st4⟩ := newR X3 hx hZ hown (wd_13 hw) (wd_14 hw) e3 (g := (mkF m 14 #[.val (.ref vr0), .val (.int vi1)] [(.int (0 : Int32)), (.ref vr0)])) rfl (hb hby d1_14) rfl (by decide) (cap := 0) (by decide) (by decide) (by decide) (by decide)
  obtain ⟨b4, g4⟩ : ∃ z, z = h3.size := ⟨_, rfl⟩
  rw [← g4] at A4 st4
  have g_b4 : n0 ≤ b4 := Nat.le_trans (Nat.le_trans (Nat.le_trans Z0 E2.1) (Keep.of_wr W3).1) (Nat.le_of_eq g4.symm)
  have sz_b4 : h0.size ≤ b4 := Nat.le_trans K3.1 (Nat.le_of_eq g4.symm)
  have K4 : Keep h0 h4 [vr0] := K3.ext E4
  have V_b4 : Arv Z h4 b4 k4 (.object "com/example/careful_ledger/carefulledger/PageSource") (0 : Int32) [] .null := Arv.new A4 (by decide)
  obtain ⟨T5, h5, X5, e5, W5, st5⟩ := putF X4 hx hZ hown (host := "") (Or.inl (wd_15 hw)) Via.refl e4 (((F_sources_vr0.ext E2).other W3 (Or.inr (sl_2 hw))).ext E4) (((E_vr0.ext E2).wr W3).ext E4) (Or.inl (wd_16 hw)) (wd_1 hw) (ty := (.array (.object "com/example/careful_ledger/carefulledger/PageSource"))) (by decide) rfl rfl (g := (mkF m 17 #[.val (.ref vr0), .val (.int vi1)] [(.ref b4), (.ref vr0)])) rfl rfl (hb hby d1_17)
  have Fw5 := (((F_sources_vr0.ext E2).other W3 (Or.inr (sl_2 hw))).ext E4).same W5
  have N5 := Fr.snoc X5 N3 g_vr0
  have K5 : Keep h0 h5 [vr0] := K4.wr W5 (Or.inl (List.mem_of_getElem? (i := 0) rfl))
  obtain ⟨T6, h6, X6, e6, E6, A6, D6, -, st6⟩ := newO X5 hx hZ hown (wd_17 hw) (wd_18 hw) (wd_19 hw) e5 (g := (mkF m 21 #[.val (.ref vr0), .val (.int vi1)] [(.ref vr0)])) rfl (hb hby d1_21) (by decide) (by decide)
  obtain ⟨b6, g6⟩ : ∃ z, z = h5.size := ⟨_, rfl⟩
  rw [← g6] at A6 D6 st6
  have g_b6 : n0 ≤ b6 := Nat.le_trans (Nat.le_trans (Nat.le_trans (Nat.le_trans (Nat.le_trans Z0 E2.1) (Keep.of_wr W3).1) E4.1) (Keep.of_wr W5).1) (Nat.le_of_eq g6.symm)
  have sz_b6 : h0.size ≤ b6 := Nat.le_trans K5.1 (Nat.le_of_eq g6.symm)
  have K6 : Keep h0 h6 [vr0] := K5.ext E6
  have F_pieces_b6 : Fld Z h6 b6 "com/example/careful_ledger/carefulledger/UnreadRuns" "pieces" "Ljava/util/List;" .null := D6 (Or.inr (wd_49 hw)) (ty := (.object "java/util/List")) (by decide)
  have F_restores_b6 : Fld Z h6 b6 "com/example/careful_ledger/carefulledger/UnreadRuns" "restores" "Ljava/util/List;" .null := D6 (Or.inr (wd_51 hw)) (ty := (.object "java/util/List")) (by decide)
  obtain ⟨_, _, ⟨T7, L7, k7, n7⟩, -, X7, ⟨Lc7, hQ7, l7, y7, z7⟩, st7⟩ := X6.specialBack hx (y := (⟨"com/example/careful_ledger/carefulledger/UnreadRuns", "<init>", "()V"⟩ : MethodName)) rfl hown (mvT hZ (wd_20 hw)) (mvT hZ (wd_21 hw)) (mvT hZ (wd_22 hw)) (by decide) (backOf (W := 2) (rm3 l Z a0 hw [] b6 w_DEFAULTCAPACITY_EMPTY_ELEMENTDATA .null .null h6 n0 (Nat.le_trans (Nat.le_trans (Nat.le_trans (Nat.le_trans (Nat.le_trans Z0 E2.1) (Keep.of_wr W3).1) E4.1) (Keep.of_wr W5).1) E6.1) S_DEFAULTCAPACITY_EMPTY_ELEMENTDATA (((((O0.ext E2).wr W3 g_vr0).ext E4).wr W5 g_vr0).ext E6) A6 F_pieces_b6 g_b6 F_restores_b6) hZ (wd_22 hw) (wd_19 hw) (by decide) (by decide)) (g := (mkF m 25 #[.val (.ref vr0), .val (.int vi1)] [(.ref b6), (.ref b6), (.ref vr0)])) rfl (by rw [hml]; rfl) (Steps.refl _) (a := b6) (argsL := []) (rest := [(.ref b6), (.ref vr0)]) (lenOf pd_1 rfl) rfl (by show 2 * 0 + _ ≤ _; exact Nat.le_of_eq rfl) (hb hby d1_25) (fun _ _ => ⟨rfl, e6, (by decide : 3 + 2 ≤ _), (by decide : 5 + 6 ≤ _)⟩)
  dsimp only [Pt.U, Pt.locs, Pt.cells, Pt.slots] at X7 l7 y7 z7 st7 hQ7
  subst l7 y7 z7
  obtain ⟨rfl, N7q, p7_0⟩ := hQ7
  have N7 := Fr.app N5 N7q
  have K7 : Keep h0 T7.heap [vr0] := K6.trans p7_0 (allS (Or.inr sz_b6) all0)
  obtain ⟨T8, h8, X8, e8, W8, st8⟩ := putF X7 hx hZ hown (host := "") (Or.inl (wd_52 hw)) Via.refl rfl ((((((F_unread_vr0.ext E2).other W3 (Or.inr (sl_3 hw))).ext E4).other W5 (Or.inr (sl_4 hw))).ext E6).keep p7_0 (ninS (Nat.ne_of_lt (Nat.lt_of_lt_of_le ((((E_vr0.ext E2).wr W3).ext E4).wr W5).lt (Nat.le_of_eq g6.symm))) nin0)) ((((((E_vr0.ext E2).wr W3).ext E4).wr W5).ext E6).keep p7_0) (Or.inr ⟨(wd_53 hw), rfl, hnm⟩) (wd_1 hw) (ty := (.object "com/example/careful_ledger/carefulledger/UnreadRuns")) (by decide) rfl rfl (g := (mkF m 28 #[.val (.ref vr0), .val (.int vi1)] [(.ref b6), (.ref vr0)])) rfl rfl (hb hby d1_28)
  have Fw8 := ((((((F_unread_vr0.ext E2).other W3 (Or.inr (sl_3 hw))).ext E4).other W5 (Or.inr (sl_4 hw))).ext E6).keep p7_0 (ninS (Nat.ne_of_lt (Nat.lt_of_lt_of_le ((((E_vr0.ext E2).wr W3).ext E4).wr W5).lt (Nat.le_of_eq g6.symm))) nin0)).same W8
  have N8 := Fr.snoc X8 N7 g_vr0
  have K8 : Keep h0 h8 [vr0] := K7.wr W8 (Or.inl (List.mem_of_getElem? (i := 0) rfl))
  obtain ⟨_, _, ⟨T9, L9, k9, n9⟩, -, X9, ⟨Lc9, hQ9, l9, y9, z9⟩, st9⟩ := Jvm.LawKit.callS X8 hx (y := (⟨"java/lang/Integer", "bitCount", "(I)I"⟩ : MethodName)) hown (mvT hZ (wd_54 hw)) (mvT hZ (wd_55 hw)) (mvT hZ (wd_56 hw)) (mvT hZ (wd_57 hw)) (by decide) (backOf (W := 0) (rm7 l Z a0 hw [] vi1 h8 n0 (Nat.le_trans (Nat.le_trans (Nat.le_trans (Nat.le_trans (Nat.le_trans (Nat.le_trans (Nat.le_trans Z0 E2.1) (Keep.of_wr W3).1) E4.1) (Keep.of_wr W5).1) E6.1) p7_0.1) (Keep.of_wr W8).1) ) hZ (wd_57 hw) (wd_56 hw) (by decide) (by decide)) (g := (mkF m 32 #[.val (.ref vr0), .val (.int vi1)] [(.int vi1)])) rfl (by rw [hml]; rfl) (argsL := [(.int vi1)]) (rest := []) (lenOf pd_2 rfl) rfl (by show 2 * 0 + _ ≤ _; exact Nat.le_of_eq rfl) (hb hby d1_32) (fun _ _ => ⟨rfl, e8, (by decide : 5 + 0 ≤ _), (by decide : 11 + 0 ≤ _)⟩)
  dsimp only [Pt.U, Pt.locs, Pt.cells, Pt.slots] at X9 l9 y9 z9 st9 hQ9
  subst l9 y9 z9
  obtain ⟨rfl, N9q, p9_0⟩ := hQ9
  have N9 := Fr.app N8 N9q
  have e9 : T9.heap = h8 := p9_0
  obtain ⟨_, _, ⟨T10, L10, k10, n10⟩, -, X10, ⟨Lc10, hQ10, l10, y10, z10⟩, st10⟩ := Jvm.LawKit.callS X9 hx (y := (⟨"java/lang/Integer", "numberOfTrailingZeros", "(I)I"⟩ : MethodName)) hown (mvT hZ (wd_62 hw)) (mvT hZ (wd_63 hw)) (mvT hZ (wd_56 hw)) (mvT hZ (wd_64 hw)) (by decide) (backOf (W := 1) (rmTz l Z a0 hw [] vi1 h8 n0 (Nat.le_trans (Nat.le_trans (Nat.le_trans (Nat.le_trans (Nat.le_trans (Nat.le_trans (Nat.le_trans Z0 E2.1) (Keep.of_wr W3).1) E4.1) (Keep.of_wr W5).1) E6.1) p7_0.1) (Keep.of_wr W8).1) c61_hp) hZ (wd_64 hw) (wd_56 hw) (by decide) (by decide)) (g := (mkF m 61 #[.val (.ref vr0), .val (.int vi1)] [(.int vi1), (.ref vr0)])) rfl (by rw [hml]; rfl) (argsL := [(.int vi1)]) (rest := [(.ref vr0)]) (lenOf pd_2 rfl) rfl (by show 2 * 0 + _ ≤ _; exact Nat.le_of_eq rfl) (hb hby d1_61) (fun _ _ => ⟨rfl, e9, (by decide : 5 + 0 ≤ _), (by decide : 11 + 0 ≤ _)⟩)
  dsimp only [Pt.U, Pt.locs, Pt.cells, Pt.slots] at X10 l10 y10 z10 st10 hQ10
  subst l10 y10 z10
  obtain ⟨rfl, N10q, p10_0⟩ := hQ10
  have N10 := Fr.app N9 N10q
  have e10 : T10.heap = h8 := p10_0
  obtain ⟨T11, h11, X11, e11, W11, st11⟩ := putF X10 hx hZ hown (host := "") (Or.inl (wd_65 hw)) Via.refl e10 (((((((F_rowBits_vr0.ext E2).other W3 (Or.inr (sl_5 hw))).ext E4).other W5 (Or.inr (sl_6 hw))).ext E6).keep p7_0 (ninS (Nat.ne_of_lt (Nat.lt_of_lt_of_le ((((E_vr0.ext E2).wr W3).ext E4).wr W5).lt (Nat.le_of_eq g6.symm))) nin0)).other W8 (Or.inr (sl_7 hw))) (((((((E_vr0.ext E2).wr W3).ext E4).wr W5).ext E6).keep p7_0).wr W8) (Or.inr ⟨(wd_66 hw), rfl, hnm⟩) (wd_1 hw) (ty := .int) (by decide) rfl rfl (g := (mkF m 64 #[.val (.ref vr0), .val (.int vi1)] [(.int (own_tz vi1)), (.ref vr0)])) rfl rfl (hb hby d1_64)
  have Fw11 := (((((((F_rowBits_vr0.ext E2).other W3 (Or.inr (sl_5 hw))).ext E4).other W5 (Or.inr (sl_6 hw))).ext E6).keep p7_0 (ninS (Nat.ne_of_lt (Nat.lt_of_lt_of_le ((((E_vr0.ext E2).wr W3).ext E4).wr W5).lt (Nat.le_of_eq g6.symm))) nin0)).other W8 (Or.inr (sl_7 hw))).same W11
  have N11 := Fr.snoc X11 N10 g_vr0
  have K11 : Keep h0 h11 [vr0] := K8.wr W11 (Or.inl (List.mem_of_getElem? (i := 0) rfl))
  obtain ⟨T12, X12, e12, st12⟩ := getF X11 hx hZ hown (host := "") (Or.inl (wd_65 hw)) Via.refl e11 Fw11 (g := (mkF m 71 #[.val (.ref vr0), .val (.int vi1)] [(.ref vr0), (.int (15 : Int32)), (.ref vr0)])) rfl rfl (hb hby d1_71)
  obtain ⟨T13, h13, X13, e13, W13, st13⟩ := putF X12 hx hZ hown (host := "") (Or.inl (wd_67 hw)) Via.refl e12 ((((((((F_pageBits_vr0.ext E2).other W3 (Or.inr (sl_8 hw))).ext E4).other W5 (Or.inr (sl_9 hw))).ext E6).keep p7_0 (ninS (Nat.ne_of_lt (Nat.lt_of_lt_of_le ((((E_vr0.ext E2).wr W3).ext E4).wr W5).lt (Nat.le_of_eq g6.symm))) nin0)).other W8 (Or.inr (sl_10 hw))).other W11 (Or.inr (sl_11 hw))) ((((((((E_vr0.ext E2).wr W3).ext E4).wr W5).ext E6).keep p7_0).wr W8).wr W11) (Or.inr ⟨(wd_68 hw), rfl, hnm⟩) (wd_1 hw) (ty := .int) (by decide) rfl rfl (g := (mkF m 75 #[.val (.ref vr0), .val (.int vi1)] [(.int ((15 : Int32) - (own_tz vi1))), (.ref vr0)])) rfl rfl (hb hby d1_75)
  have Fw13 := ((((((((F_pageBits_vr0.ext E2).other W3 (Or.inr (sl_8 hw))).ext E4).other W5 (Or.inr (sl_9 hw))).ext E6).keep p7_0 (ninS (Nat.ne_of_lt (Nat.lt_of_lt_of_le ((((E_vr0.ext E2).wr W3).ext E4).wr W5).lt (Nat.le_of_eq g6.symm))) nin0)).other W8 (Or.inr (sl_10 hw))).other W11 (Or.inr (sl_11 hw))).same W13
  have N13 := Fr.snoc X13 N11 g_vr0
  have K13 : Keep h0 h13 [vr0] := K11.wr W13 (Or.inl (List.mem_of_getElem? (i := 0) rfl))
  obtain ⟨fs, hr, hrun, hended, hW, hsame⟩ := X13.leave (v := none) (fun _ => rfl)
  refine ⟨_, _, pre0 _ ?_, hrun, hended, _, _, rfl, ?_, ⟨_, rfl⟩, hW, hsame.mono (by decide) (by decide)⟩
  · show Steps p.tables e below (s₁.setTop (mkF m 0 #[.val (.ref vr0), .val (.int vi1)] [])) _
    refine XS.aloadN X0.here hx rfl (hb hby d1_0) rfl rfl ?_
    show Steps p.tables e below (s₁.setTop (mkF m 1 #[.val (.ref vr0), .val (.int vi1)] [(.ref vr0)])) _
    refine st1 _ ?_
    show Steps p.tables e below (T1.setTop (mkF m 4 #[.val (.ref vr0), .val (.int vi1)] [])) _
    refine XS.aloadN X1.here hx rfl (hb hby d1_4) rfl rfl ?_
    show Steps p.tables e below (T1.setTop (mkF m 5 #[.val (.ref vr0), .val (.int vi1)] [(.ref vr0)])) _
    refine XS.iconst X1.here hx rfl (hb hby d1_5) ?_
    show Steps p.tables e below (T1.setTop (mkF m 6 #[.val (.ref vr0), .val (.int vi1)] [(.int (0 : Int32)), (.ref vr0)])) _
    refine st2 _ ?_
    show Steps p.tables e below (T2.setTop (mkF m 9 #[.val (.ref vr0), .val (.int vi1)] [(.ref b2), (.ref vr0)])) _
    refine st3 _ ?_
    show Steps p.tables e below (T3.setTop (mkF m 12 #[.val (.ref vr0), .val (.int vi1)] [])) _
    refine XS.aloadN X3.here hx rfl (hb hby d1_12) rfl rfl ?_
    show Steps p.tables e below (T3.setTop (mkF m 13 #[.val (.ref vr0), .val (.int vi1)] [(.ref vr0)])) _
    refine XS.iconst X3.here hx rfl (hb hby d1_13) ?_
    show Steps p.tables e below (T3.setTop (mkF m 14 #[.val (.ref vr0), .val (.int vi1)] [(.int (0 : Int32)), (.ref vr0)])) _
    refine st4 _ ?_
    show Steps p.tables e below (T4.setTop (mkF m 17 #[.val (.ref vr0), .val (.int vi1)] [(.ref b4), (.ref vr0)])) _
    refine st5 _ ?_
    show Steps p.tables e below (T5.setTop (mkF m 20 #[.val (.ref vr0), .val (.int vi1)] [])) _
    refine XS.aloadN X5.here hx rfl (hb hby d1_20) rfl rfl ?_
    show Steps p.tables e below (T5.setTop (mkF m 21 #[.val (.ref vr0), .val (.int vi1)] [(.ref vr0)])) _
    refine st6 _ ?_
    show Steps p.tables e below (T6.setTop (mkF m 24 #[.val (.ref vr0), .val (.int vi1)] [(.ref b6), (.ref vr0)])) _
    refine XS.dup X6.here hx rfl (hb hby d1_24) rfl rfl ?_
    show Steps p.tables e below (T6.setTop (mkF m 25 #[.val (.ref vr0), .val (.int vi1)] [(.ref b6), (.ref b6), (.ref vr0)])) _
    refine st7.trans ?_
    show Steps p.tables e below (T7.setTop (mkF m 28 #[.val (.ref vr0), .val (.int vi1)] [(.ref b6), (.ref vr0)])) _
    refine st8 _ ?_
    show Steps p.tables e below (T8.setTop (mkF m 31 #[.val (.ref vr0), .val (.int vi1)] [])) _
    refine XS.iloadN X8.here hx rfl (hb hby d1_31) rfl ?_
    show Steps p.tables e below (T8.setTop (mkF m 32 #[.val (.ref vr0), .val (.int vi1)] [(.int vi1)])) _
    refine st9 _ ?_
    show Steps p.tables e below (T9.setTop (mkF m 35 #[.val (.ref vr0), .val (.int vi1)] [(.int (own_bc vi1))])) _
    refine XS.iconst X9.here hx rfl (hb hby d1_35) ?_
    show Steps p.tables e below (T9.setTop (mkF m 36 #[.val (.ref vr0), .val (.int vi1)] [(.int (1 : Int32)), (.int (own_bc vi1))])) _
    refine XS.icmpNo X9.here hx rfl (hb hby d1_36) rfl (teq hc36).2 ?_
    show Steps p.tables e below (T9.setTop (mkF m 39 #[.val (.ref vr0), .val (.int vi1)] [])) _
    refine XS.iloadN X9.here hx rfl (hb hby d1_39) rfl ?_
    show Steps p.tables e below (T9.setTop (mkF m 40 #[.val (.ref vr0), .val (.int vi1)] [(.int vi1)])) _
    refine X9.ldcInt hx hown (mvT hZ (wd_61 hw)) (g := (mkF m 40 #[.val (.ref vr0), .val (.int vi1)] [(.int vi1)])) rfl (hb hby d1_40) _ ?_
    show Steps p.tables e below (T9.setTop (mkF m 42 #[.val (.ref vr0), .val (.int vi1)] [(.int (32768 : Int32)), (.int vi1)])) _
    refine XS.icmpYes X9.here hx rfl (pc0 := 42) (pc' := 59) rfl (hb hby d1_42) rfl (flt hc42).2.2.2 (by decide) (by decide) ?_
    show Steps p.tables e below (T9.setTop (mkF m 59 #[.val (.ref vr0), .val (.int vi1)] [])) _
    refine XS.aloadN X9.here hx rfl (hb hby d1_59) rfl rfl ?_
    show Steps p.tables e below (T9.setTop (mkF m 60 #[.val (.ref vr0), .val (.int vi1)] [(.ref vr0)])) _
    refine XS.iloadN X9.here hx rfl (hb hby d1_60) rfl ?_
    show Steps p.tables e below (T9.setTop (mkF m 61 #[.val (.ref vr0), .val (.int vi1)] [(.int vi1), (.ref vr0)])) _
    refine st10 _ ?_
    show Steps p.tables e below (T10.setTop (mkF m 64 #[.val (.ref vr0), .val (.int vi1)] [(.int (own_tz vi1)), (.ref vr0)])) _
    refine st11 _ ?_
    show Steps p.tables e below (T11.setTop (mkF m 67 #[.val (.ref vr0), .val (.int vi1)] [])) _
    refine XS.aloadN X11.here hx rfl (hb hby d1_67) rfl rfl ?_
    show Steps p.tables e below (T11.setTop (mkF m 68 #[.val (.ref vr0), .val (.int vi1)] [(.ref vr0)])) _
    refine XS.bipush X11.here hx rfl (hb hby d1_68) ?_
    show Steps p.tables e below (T11.setTop (mkF m 70 #[.val (.ref vr0), .val (.int vi1)] [(.int (15 : Int32)), (.ref vr0)])) _
    refine XS.aloadN X11.here hx rfl (hb hby d1_70) rfl rfl ?_
    show Steps p.tables e below (T11.setTop (mkF m 71 #[.val (.ref vr0), .val (.int vi1)] [(.ref vr0), (.int (15 : Int32)), (.ref vr0)])) _
    refine st12 _ ?_
    show Steps p.tables e below (T12.setTop (mkF m 74 #[.val (.ref vr0), .val (.int vi1)] [(.int (own_tz vi1)), (.int (15 : Int32)), (.ref vr0)])) _
    refine XS.isub X12.here hx rfl (hb hby d1_74) rfl ?_
    show Steps p.tables e below (T12.setTop (mkF m 75 #[.val (.ref vr0), .val (.int vi1)] [(.int ((15 : Int32) - (own_tz vi1))), (.ref vr0)])) _
    refine st13 _ ?_
    show Steps p.tables e below (T13.setTop (mkF m 78 #[.val (.ref vr0), .val (.int vi1)] [])) _
    exact X13.returnOut hx Bd.returns (hb hby d1_78) hr
  · show Q1 Z vr0 vi1 u_pages_vr0 u_sources_vr0 w_DEFAULTCAPACITY_EMPTY_ELEMENTDATA u_unread_vr0 u_rowBits_vr0 u_pageBits_vr0 h0 n0 _ T13.heap _
    rw [e13]
    exact ⟨rfl, N13, K13, (Fw11.other W13 (Or.inr (sl_12 hw))), Fw13⟩
theorem d9_0 : decode prog_36_method_6_code 0 = .ok (.iload_n 1, 1) := by decide +kernel
theorem d9_1 : decode prog_36_method_6_code 1 = .ok (.iconst 1, 1) := by decide +kernel
theorem d9_2 : decode prog_36_method_6_code 2 = .ok (.aload_n 0, 1) := by decide +kernel
theorem d9_3 : decode prog_36_method_6_code 3 = .ok (.getfield 51, 3) := by decide +kernel
theorem d9_6 : decode prog_36_method_6_code 6 = .ok (.ishl, 1) := by decide +kernel
theorem d9_7 : decode prog_36_method_6_code 7 = .ok (.iconst 1, 1) := by decide +kernel
theorem d9_8 : decode prog_36_method_6_code 8 = .ok (.isub, 1) := by decide +kernel
theorem d9_9 : decode prog_36_method_6_code 9 = .ok (.iand, 1) := by decide +kernel
theorem d9_10 : decode prog_36_method_6_code 10 = .ok (.aload_n 0, 1) := by decide +kernel
theorem d9_11 : decode prog_36_method_6_code 11 = .ok (.getfield 47, 3) := by decide +kernel
theorem d9_14 : decode prog_36_method_6_code 14 = .ok (.ishl, 1) := by decide +kernel
theorem d9_15 : decode prog_36_method_6_code 15 = .ok (.ireturn, 1) := by decide +kernel
theorem ef_9 (m : MethodId) (x0 : Addr) (x1 : Int32) : entryFrame m #[(.ref x0), (.int x1)] 2 = mkF m 0 #[.val (.ref x0), .val (.int x1)] [] := by first | (simp [entryFrame, mkF, argsToLocals, Value.category]; done) | rfl
def Q9 (Z : State) (vr0 : Addr) (vi1 : Int32) (w_pageBits_vr0 : Int32) (w_rowBits_vr0 : Int32) (h0 : Heap) (n0 : Nat) (v : Option Value) (h : Heap) (L : List Loc) : Prop := v = some (.int ((vi1 &&& (((1 : Int32) <<< (w_pageBits_vr0 &&& 31)) - (1 : Int32))) <<< (w_rowBits_vr0 &&& 31))) ∧ Fr n0 L ∧ h = h0
set_option maxRecDepth 65536 in
set_option maxHeartbeats 40000000 in
theorem rm9 (l : Launch) (Z : State) (a0 : Array Value) (hw : ∀ d ∈ tables_1, d.before a0 Z = true) (ws : List Jvm.Cond) (vr0 : Addr) (vi1 : Int32) (w_pageBits_vr0 : Int32) (w_rowBits_vr0 : Int32) (h0 : Heap) (n0 : Nat) (Z0 : n0 ≤ h0.size) (F_pageBits_vr0 : Fld Z h0 vr0 "com/example/careful_ledger/carefulledger/RowPages" "pageBits" "I" (.int w_pageBits_vr0)) (F_rowBits_vr0 : Fld Z h0 vr0 "com/example/careful_ledger/carefulledger/RowPages" "rowBits" "I" (.int w_rowBits_vr0)) :
    MetFree l (⟨"com/example/careful_ledger/carefulledger/RowPages", "start", "(I)I"⟩ : MethodName) (head1 (Jvm.Cond.code (⟨"com/example/careful_ledger/carefulledger/RowPages", "start", "(I)I"⟩ : MethodName) prog_36_method_6_code 2 (some .int) :: ws) ({ frames := 0, cells := 0, slots := 0, locals := 0 } : Room)) (fun a U => a = #[(.ref vr0), (.int vi1)] ∧ Z.Warmed39 U.vm ∧ U.heap = h0) (fun _ _ _ _ _ => True) (fun _ U o U' => ∃ v L, o = .returned v ∧ Q9 Z vr0 vi1 w_pageBits_vr0 w_rowBits_vr0 h0 n0 v U'.heap L ∧ FrameEnd U o U' L ({ frames := 0, cells := 0, slots := 0, locals := 0 } : Room).cells ({ frames := 0, cells := 0, slots := 0, locals := 0 } : Room).slots) := by
  refine MetFree.of_bodySF (plainFor_of_name pn_com_example_careful_ledger_carefulledger_RowPages) hisR ?_
  intro p e s m args below meth c s₁ Bd hml0 hP hK
  obtain ⟨rfl, hZ, hh⟩ := hP
  have hx := Bd.exec
  have hby := Bd.bytes
  have hml : c.maxLocals = 2 := hml0
  have hown : s.vm.findClass "com/example/careful_ledger/carefulledger/RowPages" = some m.cls := findClass_of_methodNamed Bd.named
  have hnm := (name_of_methodNamed Bd.named Bd.method).1
  have X0 : Stand p l e ({ frames := 0, cells := 0, slots := 0, locals := 0 } : Room) s m #[(.ref vr0), (.int vi1)] below meth c s₁ [] 0 0 := Stand.of_body Bd
  have e0 : s₁.heap = h0 := by rw [← hh, Bd.state]; rfl
  have N0 := Fr.nil n0
  have pre0 : ∀ t, Steps p.tables e below (s₁.setTop (mkF m 0 #[.val (.ref vr0), .val (.int vi1)] [])) t → Steps p.tables e below (s₁.setTop (entryFrame m #[(.ref vr0), (.int vi1)] 2)) t := fun t k => castTop (ef_9 m vr0 vi1) k
  obtain ⟨T1, X1, e1, st1⟩ := getF X0 hx hZ hown (host := "") (Or.inl (wd_67 hw)) Via.refl e0 F_pageBits_vr0 (g := (mkF m 3 #[.val (.ref vr0), .val (.int vi1)] [(.ref vr0), (.int (1 : Int32)), (.int vi1)])) rfl rfl (hb hby d9_3)
  obtain ⟨T2, X2, e2, st2⟩ := getF X1 hx hZ hown (host := "") (Or.inl (wd_65 hw)) Via.refl e1 F_rowBits_vr0 (g := (mkF m 11 #[.val (.ref vr0), .val (.int vi1)] [(.ref vr0), (.int (vi1 &&& (((1 : Int32) <<< (w_pageBits_vr0 &&& 31)) - (1 : Int32))))])) rfl rfl (hb hby d9_11)
  obtain ⟨fs, hr, hrun, hended, hW, hsame⟩ := X2.leave (v := some (.int ((vi1 &&& (((1 : Int32) <<< (w_pageBits_vr0 &&& 31)) - (1 : Int32))) <<< (w_rowBits_vr0 &&& 31)))) (fun h => by rw [Bd.returns] at h; cases h)
  refine ⟨_, _, pre0 _ ?_, hrun, hended, _, _, rfl, ?_, ⟨_, rfl⟩, hW, hsame.mono (by decide) (by decide)⟩
  · show Steps p.tables e below (s₁.setTop (mkF m 0 #[.val (.ref vr0), .val (.int vi1)] [])) _
    refine XS.iloadN X0.here hx rfl (hb hby d9_0) rfl ?_
    show Steps p.tables e below (s₁.setTop (mkF m 1 #[.val (.ref vr0), .val (.int vi1)] [(.int vi1)])) _
    refine XS.iconst X0.here hx rfl (hb hby d9_1) ?_
    show Steps p.tables e below (s₁.setTop (mkF m 2 #[.val (.ref vr0), .val (.int vi1)] [(.int (1 : Int32)), (.int vi1)])) _
    refine XS.aloadN X0.here hx rfl (hb hby d9_2) rfl rfl ?_
    show Steps p.tables e below (s₁.setTop (mkF m 3 #[.val (.ref vr0), .val (.int vi1)] [(.ref vr0), (.int (1 : Int32)), (.int vi1)])) _
    refine st1 _ ?_
    show Steps p.tables e below (T1.setTop (mkF m 6 #[.val (.ref vr0), .val (.int vi1)] [(.int w_pageBits_vr0), (.int (1 : Int32)), (.int vi1)])) _
    refine XS.ishl X1.here hx rfl (hb hby d9_6) rfl ?_
    show Steps p.tables e below (T1.setTop (mkF m 7 #[.val (.ref vr0), .val (.int vi1)] [(.int ((1 : Int32) <<< (w_pageBits_vr0 &&& 31))), (.int vi1)])) _
    refine XS.iconst X1.here hx rfl (hb hby d9_7) ?_
    show Steps p.tables e below (T1.setTop (mkF m 8 #[.val (.ref vr0), .val (.int vi1)] [(.int (1 : Int32)), (.int ((1 : Int32) <<< (w_pageBits_vr0 &&& 31))), (.int vi1)])) _
    refine XS.isub X1.here hx rfl (hb hby d9_8) rfl ?_
    show Steps p.tables e below (T1.setTop (mkF m 9 #[.val (.ref vr0), .val (.int vi1)] [(.int (((1 : Int32) <<< (w_pageBits_vr0 &&& 31)) - (1 : Int32))), (.int vi1)])) _
    refine XS.iand X1.here hx rfl (hb hby d9_9) rfl ?_
    show Steps p.tables e below (T1.setTop (mkF m 10 #[.val (.ref vr0), .val (.int vi1)] [(.int (vi1 &&& (((1 : Int32) <<< (w_pageBits_vr0 &&& 31)) - (1 : Int32))))])) _
    refine XS.aloadN X1.here hx rfl (hb hby d9_10) rfl rfl ?_
    show Steps p.tables e below (T1.setTop (mkF m 11 #[.val (.ref vr0), .val (.int vi1)] [(.ref vr0), (.int (vi1 &&& (((1 : Int32) <<< (w_pageBits_vr0 &&& 31)) - (1 : Int32))))])) _
    refine st2 _ ?_
    show Steps p.tables e below (T2.setTop (mkF m 14 #[.val (.ref vr0), .val (.int vi1)] [(.int w_rowBits_vr0), (.int (vi1 &&& (((1 : Int32) <<< (w_pageBits_vr0 &&& 31)) - (1 : Int32))))])) _
    refine XS.ishl X2.here hx rfl (hb hby d9_14) rfl ?_
    show Steps p.tables e below (T2.setTop (mkF m 15 #[.val (.ref vr0), .val (.int vi1)] [(.int ((vi1 &&& (((1 : Int32) <<< (w_pageBits_vr0 &&& 31)) - (1 : Int32))) <<< (w_rowBits_vr0 &&& 31)))])) _
    exact retI X2 hx Bd.returns (hb hby d9_15) hr
  · show Q9 Z vr0 vi1 w_pageBits_vr0 w_rowBits_vr0 h0 n0 _ T2.heap _
    rw [e2]
    exact ⟨rfl, N0, rfl⟩
theorem own_16 (x : Int32) : (x &&& (15 : Int32)) = (0 : Int32) ∨ (x &&& (15 : Int32)) = (1 : Int32) ∨ (x &&& (15 : Int32)) = (2 : Int32) ∨ (x &&& (15 : Int32)) = (3 : Int32) ∨ (x &&& (15 : Int32)) = (4 : Int32) ∨ (x &&& (15 : Int32)) = (5 : Int32) ∨ (x &&& (15 : Int32)) = (6 : Int32) ∨ (x &&& (15 : Int32)) = (7 : Int32) ∨ (x &&& (15 : Int32)) = (8 : Int32) ∨ (x &&& (15 : Int32)) = (9 : Int32) ∨ (x &&& (15 : Int32)) = (10 : Int32) ∨ (x &&& (15 : Int32)) = (11 : Int32) ∨ (x &&& (15 : Int32)) = (12 : Int32) ∨ (x &&& (15 : Int32)) = (13 : Int32) ∨ (x &&& (15 : Int32)) = (14 : Int32) ∨ (x &&& (15 : Int32)) = (15 : Int32) := by
  have t : ∀ k : Fin 16, (Int32.ofNat k.val) = (0 : Int32) ∨ (Int32.ofNat k.val) = (1 : Int32) ∨ (Int32.ofNat k.val) = (2 : Int32) ∨ (Int32.ofNat k.val) = (3 : Int32) ∨ (Int32.ofNat k.val) = (4 : Int32) ∨ (Int32.ofNat k.val) = (5 : Int32) ∨ (Int32.ofNat k.val) = (6 : Int32) ∨ (Int32.ofNat k.val) = (7 : Int32) ∨ (Int32.ofNat k.val) = (8 : Int32) ∨ (Int32.ofNat k.val) = (9 : Int32) ∨ (Int32.ofNat k.val) = (10 : Int32) ∨ (Int32.ofNat k.val) = (11 : Int32) ∨ (Int32.ofNat k.val) = (12 : Int32) ∨ (Int32.ofNat k.val) = (13 : Int32) ∨ (Int32.ofNat k.val) = (14 : Int32) ∨ (Int32.ofNat k.val) = (15 : Int32) := by decide +kernel
  have h : (x &&& 15).toBitVec.toNat < 16 := by
    simp only [Int32.toBitVec_and, BitVec.toNat_and]
    exact Nat.lt_succ_of_le Nat.and_le_right
  have e : (x &&& 15) = Int32.ofNat (x &&& 15).toBitVec.toNat := by
    apply Int32.toBitVec_inj.mp
    show _ = BitVec.ofNat 32 _
    rw [BitVec.ofNat_toNat]; simp
  rw [e]
  exact t ⟨_, h⟩
theorem own_pw (x : Int32) : own_pow ((1 : Int32) <<< ((x &&& (15 : Int32)) &&& 31)) := by
  unfold own_pow
  rcases own_16 x with h | h | h | h | h | h | h | h | h | h | h | h | h | h | h | h <;> rw [h] <;> decide
theorem own_bc1 {x : Int32} (h : own_pow x) : own_bc x = (1 : Int32) := by
  rcases h with rfl | rfl | rfl | rfl | rfl | rfl | rfl | rfl | rfl | rfl | rfl | rfl | rfl | rfl | rfl | rfl <;> decide
theorem own_le {x : Int32} (h : own_pow x) : ¬ ((32768 : Int32) < x) := by
  rcases h with rfl | rfl | rfl | rfl | rfl | rfl | rfl | rfl | rfl | rfl | rfl | rfl | rfl | rfl | rfl | rfl <;> decide
theorem own_nz {x : Int32} (h : own_pow x) : ¬ (x = (0 : Int32)) := by
  rcases h with rfl | rfl | rfl | rfl | rfl | rfl | rfl | rfl | rfl | rfl | rfl | rfl | rfl | rfl | rfl | rfl <;> decide
theorem own_nz2 {x : Int32} (h : own_pow x) : ¬ (((32768 : Int32) / x) = (0 : Int32)) := by
  rcases h with rfl | rfl | rfl | rfl | rfl | rfl | rfl | rfl | rfl | rfl | rfl | rfl | rfl | rfl | rfl | rfl <;> decide
theorem own_core (y : Int32) (hy : 0 ≤ y.toInt) (m d x k : Int32) (j : Nat) (hj : j ≤ 31) (hm : m.toBitVec.toNat = 2 ^ j - 1) (hd : d.toInt = ((2 ^ j : Nat) : Int)) (hk : (1 : Int32) <<< (k &&& 31) = x) : (y &&& m) <<< (k &&& 31) = (y % d) * x := by
  have e : (y &&& m) = y % d := by
    apply Int32.toInt_inj.mp
    rw [c_mask y m j hj hm, (c_irem y d _ hd).1 hy]
  rw [shlm hk, e]
theorem own_fin (r : Int32) {x : Int32} (h : own_pow x) : (((r &&& (2147483647 : Int32)) &&& (((1 : Int32) <<< (((15 : Int32) - (own_tz x)) &&& 31)) - (1 : Int32))) <<< ((own_tz x) &&& 31)) = (((r &&& (2147483647 : Int32)) % ((32768 : Int32) / x)) * x) := by
  have hy : 0 ≤ (r &&& (2147483647 : Int32)).toInt := (c_and r (2147483647 : Int32) (by decide)).1
  rcases h with rfl | rfl | rfl | rfl | rfl | rfl | rfl | rfl | rfl | rfl | rfl | rfl | rfl | rfl | rfl | rfl
  · exact own_core _ hy _ _ _ _ 15 (by decide) (by decide) (by decide) (by decide)
  · exact own_core _ hy _ _ _ _ 14 (by decide) (by decide) (by decide) (by decide)
  · exact own_core _ hy _ _ _ _ 13 (by decide) (by decide) (by decide) (by decide)
  · exact own_core _ hy _ _ _ _ 12 (by decide) (by decide) (by decide) (by decide)
  · exact own_core _ hy _ _ _ _ 11 (by decide) (by decide) (by decide) (by decide)
  · exact own_core _ hy _ _ _ _ 10 (by decide) (by decide) (by decide) (by decide)
  · exact own_core _ hy _ _ _ _ 9 (by decide) (by decide) (by decide) (by decide)
  · exact own_core _ hy _ _ _ _ 8 (by decide) (by decide) (by decide) (by decide)
  · exact own_core _ hy _ _ _ _ 7 (by decide) (by decide) (by decide) (by decide)
  · exact own_core _ hy _ _ _ _ 6 (by decide) (by decide) (by decide) (by decide)
  · exact own_core _ hy _ _ _ _ 5 (by decide) (by decide) (by decide) (by decide)
  · exact own_core _ hy _ _ _ _ 4 (by decide) (by decide) (by decide) (by decide)
  · exact own_core _ hy _ _ _ _ 3 (by decide) (by decide) (by decide) (by decide)
  · exact own_core _ hy _ _ _ _ 2 (by decide) (by decide) (by decide) (by decide)
  · exact own_core _ hy _ _ _ _ 1 (by decide) (by decide) (by decide) (by decide)
  · exact own_core _ hy _ _ _ _ 0 (by decide) (by decide) (by decide) (by decide)
theorem wd_0 {Z : State} {a0 : Array Value} (hw : ∀ d ∈ tables_1, d.before a0 Z = true) : ((Jvm.Cond.classLink "com/example/careful_ledger/carefulledger/RowPagesStartPinLaw" (7 : Nat) "com/example/careful_ledger/carefulledger/RowPages")).before a0 Z = true := hw _ (List.mem_of_getElem? (i := 0) rfl)
theorem wd_2 {Z : State} {a0 : Array Value} (hw : ∀ d ∈ tables_1, d.before a0 Z = true) : ((Jvm.Cond.initialized "com/example/careful_ledger/carefulledger/RowPages")).before a0 Z = true := hw _ (List.mem_of_getElem? (i := 2) rfl)
theorem wd_3 {Z : State} {a0 : Array Value} (hw : ∀ d ∈ tables_1, d.before a0 Z = true) : ((Jvm.Cond.methodLink "com/example/careful_ledger/carefulledger/RowPagesStartPinLaw" (9 : Nat) ({ cls := "com/example/careful_ledger/carefulledger/RowPages", name := "<init>", desc := "(I)V" } : Jvm.MethodName))).before a0 Z = true := hw _ (List.mem_of_getElem? (i := 3) rfl)
theorem wd_5 {Z : State} {a0 : Array Value} (hw : ∀ d ∈ tables_1, d.before a0 Z = true) : ((Jvm.Cond.code ({ cls := "com/example/careful_ledger/carefulledger/RowPages", name := "<init>", desc := "(I)V" } : Jvm.MethodName) prog_36_method_1_code (2 : Nat) (Option.none : Option Jvm.ClassFile.FieldType))).before a0 Z = true := hw _ (List.mem_of_getElem? (i := 5) rfl)
theorem pd_0 : parseMethodDescriptor "(I)V" = some ⟨[.int], none⟩ := by decide +kernel
theorem wd_4 {Z : State} {a0 : Array Value} (hw : ∀ d ∈ tables_1, d.before a0 Z = true) : ((Jvm.Cond.instanceMethod ({ cls := "com/example/careful_ledger/carefulledger/RowPages", name := "<init>", desc := "(I)V" } : Jvm.MethodName))).before a0 Z = true := hw _ (List.mem_of_getElem? (i := 4) rfl)
theorem wd_69 {Z : State} {a0 : Array Value} (hw : ∀ d ∈ tables_1, d.before a0 Z = true) : ((Jvm.Cond.constant "com/example/careful_ledger/carefulledger/RowPagesStartPinLaw" (12 : Nat) (2147483647 : Int32))).before a0 Z = true := hw _ (List.mem_of_getElem? (i := 69) rfl)
theorem wd_70 {Z : State} {a0 : Array Value} (hw : ∀ d ∈ tables_1, d.before a0 Z = true) : ((Jvm.Cond.constant "com/example/careful_ledger/carefulledger/RowPagesStartPinLaw" (13 : Nat) (32768 : Int32))).before a0 Z = true := hw _ (List.mem_of_getElem? (i := 70) rfl)
theorem wd_71 {Z : State} {a0 : Array Value} (hw : ∀ d ∈ tables_1, d.before a0 Z = true) : ((Jvm.Cond.methodLink "com/example/careful_ledger/carefulledger/RowPagesStartPinLaw" (14 : Nat) ({ cls := "com/example/careful_ledger/carefulledger/RowPages", name := "start", desc := "(I)I" } : Jvm.MethodName))).before a0 Z = true := hw _ (List.mem_of_getElem? (i := 71) rfl)
theorem wd_75 {Z : State} {a0 : Array Value} (hw : ∀ d ∈ tables_1, d.before a0 Z = true) : ((Jvm.Cond.code ({ cls := "com/example/careful_ledger/carefulledger/RowPages", name := "start", desc := "(I)I" } : Jvm.MethodName) prog_36_method_6_code (2 : Nat) (Option.some Jvm.ClassFile.FieldType.int))).before a0 Z = true := hw _ (List.mem_of_getElem? (i := 75) rfl)
theorem wd_74 {Z : State} {a0 : Array Value} (hw : ∀ d ∈ tables_1, d.before a0 Z = true) : ((Jvm.Cond.selects "com/example/careful_ledger/carefulledger/RowPages" ({ cls := "com/example/careful_ledger/carefulledger/RowPages", name := "start", desc := "(I)I" } : Jvm.MethodName) ({ cls := "com/example/careful_ledger/carefulledger/RowPages", name := "start", desc := "(I)I" } : Jvm.MethodName))).before a0 Z = true := hw _ (List.mem_of_getElem? (i := 74) rfl)
theorem wd_72 {Z : State} {a0 : Array Value} (hw : ∀ d ∈ tables_1, d.before a0 Z = true) : ((Jvm.Cond.declares ({ cls := "com/example/careful_ledger/carefulledger/RowPages", name := "start", desc := "(I)I" } : Jvm.MethodName))).before a0 Z = true := hw _ (List.mem_of_getElem? (i := 72) rfl)
theorem wd_73 {Z : State} {a0 : Array Value} (hw : ∀ d ∈ tables_1, d.before a0 Z = true) : ((Jvm.Cond.instanceMethod ({ cls := "com/example/careful_ledger/carefulledger/RowPages", name := "start", desc := "(I)I" } : Jvm.MethodName))).before a0 Z = true := hw _ (List.mem_of_getElem? (i := 73) rfl)
theorem pn_com_example_careful_ledger_carefulledger_RowPagesStartPinLaw : plainName "com/example/careful_ledger/carefulledger/RowPagesStartPinLaw" = true := by first | (simp [plainName, overriddenIn]; done) | decide +kernel
theorem ef_0 (m : MethodId) (x0 : Int32) (x1 : Int32) : entryFrame m #[(.int x0), (.int x1)] maxLocals = mkF m 0 #[.val (.int x0), .val (.int x1), .unset, .unset, .unset, .unset, .unset, .unset] [] := by first | (simp [entryFrame, mkF, argsToLocals, Value.category, maxLocals]; done) | rfl
def Q0 (Z : State) (vi0 : Int32) (vi1 : Int32) (w_DEFAULTCAPACITY_EMPTY_ELEMENTDATA : Addr) (h0 : Heap) (n0 : Nat) (v : Option Value) (h : Heap) (L : List Loc) : Prop := v = some (.int (1 : Int32)) ∧ Fr n0 L
set_option maxRecDepth 65536 in
set_option maxHeartbeats 40000000 in
theorem rm0 (l : Launch) (Z : State) (a0 : Array Value) (hw : ∀ d ∈ tables_1, d.before a0 Z = true) (ws : List Jvm.Cond) (vi0 : Int32) (vi1 : Int32) (w_DEFAULTCAPACITY_EMPTY_ELEMENTDATA : Addr) (h0 : Heap) (n0 : Nat) (Z0 : n0 ≤ h0.size) (S_DEFAULTCAPACITY_EMPTY_ELEMENTDATA : Sta Z Z.heap "java/util/ArrayList" "DEFAULTCAPACITY_EMPTY_ELEMENTDATA" "[Ljava/lang/Object;" (.ref w_DEFAULTCAPACITY_EMPTY_ELEMENTDATA)) (O0 : Old Z n0 h0) :
    MetFree l x (head1 (Jvm.Cond.code x code maxLocals ret :: ws) room_1) (fun a U => a = #[(.int vi0), (.int vi1)] ∧ Z.Warmed39 U.vm ∧ U.heap = h0) (fun _ _ _ _ _ => True) (fun _ U o U' => ∃ v L, o = .returned v ∧ Q0 Z vi0 vi1 w_DEFAULTCAPACITY_EMPTY_ELEMENTDATA h0 n0 v U'.heap L ∧ FrameEnd U o U' L room_1.cells room_1.slots) := by
  refine MetFree.of_bodySF (plainFor_of_name pn_com_example_careful_ledger_carefulledger_RowPagesStartPinLaw) hisR ?_
  intro p e s m args below meth c s₁ Bd hml0 hP hK
  obtain ⟨rfl, hZ, hh⟩ := hP
  have hx := Bd.exec
  have hby := Bd.bytes
  have hml : c.maxLocals = 8 := hml0
  have hown : s.vm.findClass "com/example/careful_ledger/carefulledger/RowPagesStartPinLaw" = some m.cls := findClass_of_methodNamed Bd.named
  have hnm := (name_of_methodNamed Bd.named Bd.method).1
  have X0 : Stand p l e room_1 s m #[(.int vi0), (.int vi1)] below meth c s₁ [] 0 0 := Stand.of_body Bd
  have e0 : s₁.heap = h0 := by rw [← hh, Bd.state]; rfl
  have N0 := Fr.nil n0
  have pre0 : ∀ t, Steps p.tables e below (s₁.setTop (mkF m 0 #[.val (.int vi0), .val (.int vi1), .unset, .unset, .unset, .unset, .unset, .unset] [])) t → Steps p.tables e below (s₁.setTop (entryFrame m #[(.int vi0), (.int vi1)] maxLocals)) t := fun t k => castTop (ef_0 m vi0 vi1) k
  obtain ⟨T1, h1, X1, e1, E1, A1, D1, -, st1⟩ := newO X0 hx hZ hown (wd_0 hw) (wd_1 hw) (wd_2 hw) e0 (g := (mkF m 9 #[.val (.int vi0), .val (.int vi1), .val (.int (vi0 &&& (15 : Int32))), .val (.int ((1 : Int32) <<< ((vi0 &&& (15 : Int32)) &&& 31))), .unset, .unset, .unset, .unset] [])) rfl (hb hby at_9) (by decide) (by decide)
  obtain ⟨b1, g1⟩ : ∃ z, z = h0.size := ⟨_, rfl⟩
  rw [← g1] at A1 D1 st1
  have g_b1 : n0 ≤ b1 := Nat.le_trans Z0 (Nat.le_of_eq g1.symm)
  have sz_b1 : h0.size ≤ b1 := Nat.le_trans (Keep.refl h0 []).1 (Nat.le_of_eq g1.symm)
  have K1 : Keep h0 h1 [] := (Keep.refl h0 []).ext E1
  have F_pages_b1 : Fld Z h1 b1 "com/example/careful_ledger/carefulledger/RowPages" "pages" "[[J" .null := D1 (Or.inl (wd_12 hw)) (ty := (.array (.array .long))) (by decide)
  have F_sources_b1 : Fld Z h1 b1 "com/example/careful_ledger/carefulledger/RowPages" "sources" "[Lcom/example/careful_ledger/carefulledger/PageSource;" .null := D1 (Or.inl (wd_16 hw)) (ty := (.array (.object "com/example/careful_ledger/carefulledger/PageSource"))) (by decide)
  have F_unread_b1 : Fld Z h1 b1 "com/example/careful_ledger/carefulledger/RowPages" "unread" "Lcom/example/careful_ledger/carefulledger/UnreadRuns;" .null := D1 (Or.inr (wd_53 hw)) (ty := (.object "com/example/careful_ledger/carefulledger/UnreadRuns")) (by decide)
  have F_rowBits_b1 : Fld Z h1 b1 "com/example/careful_ledger/carefulledger/RowPages" "rowBits" "I" (.int (0 : Int32)) := D1 (Or.inr (wd_66 hw)) (ty := .int) (by decide)
  have F_pageBits_b1 : Fld Z h1 b1 "com/example/careful_ledger/carefulledger/RowPages" "pageBits" "I" (.int (0 : Int32)) := D1 (Or.inr (wd_68 hw)) (ty := .int) (by decide)
  obtain ⟨_, _, ⟨T2, L2, k2, n2⟩, -, X2, ⟨Lc2, hQ2, l2, y2, z2⟩, st2⟩ := X1.specialBack hx (y := (⟨"com/example/careful_ledger/carefulledger/RowPages", "<init>", "(I)V"⟩ : MethodName)) rfl hown (mvT hZ (wd_3 hw)) (mvT hZ (wd_4 hw)) (mvT hZ (wd_5 hw)) (by decide) (backOf (W := 1) (rm1 l Z a0 hw [] b1 ((1 : Int32) <<< ((vi0 &&& (15 : Int32)) &&& 31)) .null .null w_DEFAULTCAPACITY_EMPTY_ELEMENTDATA .null (.int (0 : Int32)) (.int (0 : Int32)) h1 n0 (Nat.le_trans Z0 E1.1) A1 F_pages_b1 g_b1 F_sources_b1 S_DEFAULTCAPACITY_EMPTY_ELEMENTDATA (O0.ext E1) F_unread_b1 (own_bc1 (own_pw _)) (own_le (own_pw _)) (own_pw _) F_rowBits_b1 F_pageBits_b1) hZ (wd_5 hw) (wd_2 hw) (by decide) (by decide)) (g := (mkF m 14 #[.val (.int vi0), .val (.int vi1), .val (.int (vi0 &&& (15 : Int32))), .val (.int ((1 : Int32) <<< ((vi0 &&& (15 : Int32)) &&& 31))), .unset, .unset, .unset, .unset] [(.int ((1 : Int32) <<< ((vi0 &&& (15 : Int32)) &&& 31))), (.ref b1), (.ref b1)])) rfl (by rw [hml]; rfl) (Steps.refl _) (a := b1) (argsL := [(.int ((1 : Int32) <<< ((vi0 &&& (15 : Int32)) &&& 31)))]) (rest := [(.ref b1)]) (lenOf pd_0 rfl) rfl (by show 2 * 0 + _ ≤ _; exact Nat.le_of_eq rfl) (hb hby at_14) (fun _ _ => ⟨rfl, e1, (by decide : 1 + 5 ≤ _), (by decide : 7 + 11 ≤ _)⟩)
  dsimp only [Pt.U, Pt.locs, Pt.cells, Pt.slots] at X2 l2 y2 z2 st2 hQ2
  subst l2 y2 z2
  obtain ⟨rfl, N2q, p2_0, p2_1, p2_2⟩ := hQ2
  have N2 := Fr.app N0 N2q
  have K2 : Keep h0 T2.heap [] := K1.trans p2_0 (allS (Or.inr sz_b1) all0)
  obtain ⟨cq3, kq3, q3a, q3b, q3c⟩ := isOf hZ rfl (A1.keep p2_0)
  obtain ⟨_, _, ⟨T3, L3, k3, n3⟩, -, X3, ⟨Lc3, hQ3, l3, y3, z3⟩, st3⟩ := X2.virtualBack hx (y := (⟨"com/example/careful_ledger/carefulledger/RowPages", "start", "(I)I"⟩ : MethodName)) (z := (⟨"com/example/careful_ledger/carefulledger/RowPages", "start", "(I)I"⟩ : MethodName)) hown (mvT hZ (wd_71 hw)) (mvT hZ (wd_72 hw)) (notFace_of_selects (args := #[]) (mvT hZ (wd_74 hw))) (mvT hZ (wd_74 hw)) (mvT hZ (wd_73 hw)) (by decide) (backOf (W := 0) (rm9 l Z a0 hw [] b1 (vi1 &&& (2147483647 : Int32)) ((15 : Int32) - (own_tz ((1 : Int32) <<< ((vi0 &&& (15 : Int32)) &&& 31)))) (own_tz ((1 : Int32) <<< ((vi0 &&& (15 : Int32)) &&& 31))) T2.heap n0 (Nat.le_trans (Nat.le_trans Z0 E1.1) p2_0.1) p2_2 p2_1) hZ (wd_75 hw) (wd_2 hw) (by decide) (by decide)) q3a q3c (g := (mkF m 44 #[.val (.int vi0), .val (.int vi1), .val (.int (vi0 &&& (15 : Int32))), .val (.int ((1 : Int32) <<< ((vi0 &&& (15 : Int32)) &&& 31))), .val (.ref b1), .val (.int (vi1 &&& (2147483647 : Int32))), .val (.int ((32768 : Int32) / ((1 : Int32) <<< ((vi0 &&& (15 : Int32)) &&& 31)))), .val (.int (((vi1 &&& (2147483647 : Int32)) % ((32768 : Int32) / ((1 : Int32) <<< ((vi0 &&& (15 : Int32)) &&& 31)))) * ((1 : Int32) <<< ((vi0 &&& (15 : Int32)) &&& 31))))] [(.int (vi1 &&& (2147483647 : Int32))), (.ref b1)])) rfl (by rw [hml]; rfl) (Steps.refl _) (argsL := [(.int (vi1 &&& (2147483647 : Int32)))]) (rest := []) (lenOf pd_2 rfl) rfl (by show 2 * 0 + _ ≤ _; exact Nat.le_of_eq rfl) (hb hby at_44) (fun _ _ => ⟨rfl, rfl, (by decide : 6 + 0 ≤ _), (by decide : 18 + 0 ≤ _)⟩)
  dsimp only [Pt.U, Pt.locs, Pt.cells, Pt.slots] at X3 l3 y3 z3 st3 hQ3
  subst l3 y3 z3
  obtain ⟨rfl, N3q, p3_0⟩ := hQ3
  have N3 := Fr.app N2 N3q
  have e3 : T3.heap = T2.heap := p3_0
  obtain ⟨fs, hr, hrun, hended, hW, hsame⟩ := X3.leave (v := some (.int (1 : Int32))) (fun h => by rw [Bd.returns] at h; cases h)
  refine ⟨_, _, pre0 _ ?_, hrun, hended, _, _, rfl, ?_, ⟨_, rfl⟩, hW, hsame.mono (by decide) (by decide)⟩
  · show Steps p.tables e below (s₁.setTop (mkF m 0 #[.val (.int vi0), .val (.int vi1), .unset, .unset, .unset, .unset, .unset, .unset] [])) _
    refine XS.iloadN X0.here hx rfl (hb hby at_0) rfl ?_
    show Steps p.tables e below (s₁.setTop (mkF m 1 #[.val (.int vi0), .val (.int vi1), .unset, .unset, .unset, .unset, .unset, .unset] [(.int vi0)])) _
    refine XS.bipush X0.here hx rfl (hb hby at_1) ?_
    show Steps p.tables e below (s₁.setTop (mkF m 3 #[.val (.int vi0), .val (.int vi1), .unset, .unset, .unset, .unset, .unset, .unset] [(.int (15 : Int32)), (.int vi0)])) _
    refine XS.iand X0.here hx rfl (hb hby at_3) rfl ?_
    show Steps p.tables e below (s₁.setTop (mkF m 4 #[.val (.int vi0), .val (.int vi1), .unset, .unset, .unset, .unset, .unset, .unset] [(.int (vi0 &&& (15 : Int32)))])) _
    refine XS.istoreN X0.here hx rfl (hb hby at_4) rfl (l' := #[.val (.int vi0), .val (.int vi1), .val (.int (vi0 &&& (15 : Int32))), .unset, .unset, .unset, .unset, .unset]) rfl ?_
    show Steps p.tables e below (s₁.setTop (mkF m 5 #[.val (.int vi0), .val (.int vi1), .val (.int (vi0 &&& (15 : Int32))), .unset, .unset, .unset, .unset, .unset] [])) _
    refine XS.iconst X0.here hx rfl (hb hby at_5) ?_
    show Steps p.tables e below (s₁.setTop (mkF m 6 #[.val (.int vi0), .val (.int vi1), .val (.int (vi0 &&& (15 : Int32))), .unset, .unset, .unset, .unset, .unset] [(.int (1 : Int32))])) _
    refine XS.iloadN X0.here hx rfl (hb hby at_6) rfl ?_
    show Steps p.tables e below (s₁.setTop (mkF m 7 #[.val (.int vi0), .val (.int vi1), .val (.int (vi0 &&& (15 : Int32))), .unset, .unset, .unset, .unset, .unset] [(.int (vi0 &&& (15 : Int32))), (.int (1 : Int32))])) _
    refine XS.ishl X0.here hx rfl (hb hby at_7) rfl ?_
    show Steps p.tables e below (s₁.setTop (mkF m 8 #[.val (.int vi0), .val (.int vi1), .val (.int (vi0 &&& (15 : Int32))), .unset, .unset, .unset, .unset, .unset] [(.int ((1 : Int32) <<< ((vi0 &&& (15 : Int32)) &&& 31)))])) _
    refine XS.istoreN X0.here hx rfl (hb hby at_8) rfl (l' := #[.val (.int vi0), .val (.int vi1), .val (.int (vi0 &&& (15 : Int32))), .val (.int ((1 : Int32) <<< ((vi0 &&& (15 : Int32)) &&& 31))), .unset, .unset, .unset, .unset]) rfl ?_
    show Steps p.tables e below (s₁.setTop (mkF m 9 #[.val (.int vi0), .val (.int vi1), .val (.int (vi0 &&& (15 : Int32))), .val (.int ((1 : Int32) <<< ((vi0 &&& (15 : Int32)) &&& 31))), .unset, .unset, .unset, .unset] [])) _
    refine st1 _ ?_
    show Steps p.tables e below (T1.setTop (mkF m 12 #[.val (.int vi0), .val (.int vi1), .val (.int (vi0 &&& (15 : Int32))), .val (.int ((1 : Int32) <<< ((vi0 &&& (15 : Int32)) &&& 31))), .unset, .unset, .unset, .unset] [(.ref b1)])) _
    refine XS.dup X1.here hx rfl (hb hby at_12) rfl rfl ?_
    show Steps p.tables e below (T1.setTop (mkF m 13 #[.val (.int vi0), .val (.int vi1), .val (.int (vi0 &&& (15 : Int32))), .val (.int ((1 : Int32) <<< ((vi0 &&& (15 : Int32)) &&& 31))), .unset, .unset, .unset, .unset] [(.ref b1), (.ref b1)])) _
    refine XS.iloadN X1.here hx rfl (hb hby at_13) rfl ?_
    show Steps p.tables e below (T1.setTop (mkF m 14 #[.val (.int vi0), .val (.int vi1), .val (.int (vi0 &&& (15 : Int32))), .val (.int ((1 : Int32) <<< ((vi0 &&& (15 : Int32)) &&& 31))), .unset, .unset, .unset, .unset] [(.int ((1 : Int32) <<< ((vi0 &&& (15 : Int32)) &&& 31))), (.ref b1), (.ref b1)])) _
    refine st2.trans ?_
    show Steps p.tables e below (T2.setTop (mkF m 17 #[.val (.int vi0), .val (.int vi1), .val (.int (vi0 &&& (15 : Int32))), .val (.int ((1 : Int32) <<< ((vi0 &&& (15 : Int32)) &&& 31))), .unset, .unset, .unset, .unset] [(.ref b1)])) _
    refine XS.astore X2.here hx rfl (hb hby at_17) rfl rfl (l' := #[.val (.int vi0), .val (.int vi1), .val (.int (vi0 &&& (15 : Int32))), .val (.int ((1 : Int32) <<< ((vi0 &&& (15 : Int32)) &&& 31))), .val (.ref b1), .unset, .unset, .unset]) rfl ?_
    show Steps p.tables e below (T2.setTop (mkF m 19 #[.val (.int vi0), .val (.int vi1), .val (.int (vi0 &&& (15 : Int32))), .val (.int ((1 : Int32) <<< ((vi0 &&& (15 : Int32)) &&& 31))), .val (.ref b1), .unset, .unset, .unset] [])) _
    refine XS.iloadN X2.here hx rfl (hb hby at_19) rfl ?_
    show Steps p.tables e below (T2.setTop (mkF m 20 #[.val (.int vi0), .val (.int vi1), .val (.int (vi0 &&& (15 : Int32))), .val (.int ((1 : Int32) <<< ((vi0 &&& (15 : Int32)) &&& 31))), .val (.ref b1), .unset, .unset, .unset] [(.int vi1)])) _
    refine X2.ldcInt hx hown (mvT hZ (wd_69 hw)) (g := (mkF m 20 #[.val (.int vi0), .val (.int vi1), .val (.int (vi0 &&& (15 : Int32))), .val (.int ((1 : Int32) <<< ((vi0 &&& (15 : Int32)) &&& 31))), .val (.ref b1), .unset, .unset, .unset] [(.int vi1)])) rfl (hb hby at_20) _ ?_
    show Steps p.tables e below (T2.setTop (mkF m 22 #[.val (.int vi0), .val (.int vi1), .val (.int (vi0 &&& (15 : Int32))), .val (.int ((1 : Int32) <<< ((vi0 &&& (15 : Int32)) &&& 31))), .val (.ref b1), .unset, .unset, .unset] [(.int (2147483647 : Int32)), (.int vi1)])) _
    refine XS.iand X2.here hx rfl (hb hby at_22) rfl ?_
    show Steps p.tables e below (T2.setTop (mkF m 23 #[.val (.int vi0), .val (.int vi1), .val (.int (vi0 &&& (15 : Int32))), .val (.int ((1 : Int32) <<< ((vi0 &&& (15 : Int32)) &&& 31))), .val (.ref b1), .unset, .unset, .unset] [(.int (vi1 &&& (2147483647 : Int32)))])) _
    refine XS.istore X2.here hx rfl (hb hby at_23) rfl (l' := #[.val (.int vi0), .val (.int vi1), .val (.int (vi0 &&& (15 : Int32))), .val (.int ((1 : Int32) <<< ((vi0 &&& (15 : Int32)) &&& 31))), .val (.ref b1), .val (.int (vi1 &&& (2147483647 : Int32))), .unset, .unset]) rfl ?_
    show Steps p.tables e below (T2.setTop (mkF m 25 #[.val (.int vi0), .val (.int vi1), .val (.int (vi0 &&& (15 : Int32))), .val (.int ((1 : Int32) <<< ((vi0 &&& (15 : Int32)) &&& 31))), .val (.ref b1), .val (.int (vi1 &&& (2147483647 : Int32))), .unset, .unset] [])) _
    refine X2.ldcInt hx hown (mvT hZ (wd_70 hw)) (g := (mkF m 25 #[.val (.int vi0), .val (.int vi1), .val (.int (vi0 &&& (15 : Int32))), .val (.int ((1 : Int32) <<< ((vi0 &&& (15 : Int32)) &&& 31))), .val (.ref b1), .val (.int (vi1 &&& (2147483647 : Int32))), .unset, .unset] [])) rfl (hb hby at_25) _ ?_
    show Steps p.tables e below (T2.setTop (mkF m 27 #[.val (.int vi0), .val (.int vi1), .val (.int (vi0 &&& (15 : Int32))), .val (.int ((1 : Int32) <<< ((vi0 &&& (15 : Int32)) &&& 31))), .val (.ref b1), .val (.int (vi1 &&& (2147483647 : Int32))), .unset, .unset] [(.int (32768 : Int32))])) _
    refine XS.iloadN X2.here hx rfl (hb hby at_27) rfl ?_
    show Steps p.tables e below (T2.setTop (mkF m 28 #[.val (.int vi0), .val (.int vi1), .val (.int (vi0 &&& (15 : Int32))), .val (.int ((1 : Int32) <<< ((vi0 &&& (15 : Int32)) &&& 31))), .val (.ref b1), .val (.int (vi1 &&& (2147483647 : Int32))), .unset, .unset] [(.int ((1 : Int32) <<< ((vi0 &&& (15 : Int32)) &&& 31))), (.int (32768 : Int32))])) _
    refine XS.idiv X2.here hx rfl (hb hby at_28) rfl (own_nz (own_pw _)) ?_
    show Steps p.tables e below (T2.setTop (mkF m 29 #[.val (.int vi0), .val (.int vi1), .val (.int (vi0 &&& (15 : Int32))), .val (.int ((1 : Int32) <<< ((vi0 &&& (15 : Int32)) &&& 31))), .val (.ref b1), .val (.int (vi1 &&& (2147483647 : Int32))), .unset, .unset] [(.int ((32768 : Int32) / ((1 : Int32) <<< ((vi0 &&& (15 : Int32)) &&& 31))))])) _
    refine XS.istore X2.here hx rfl (hb hby at_29) rfl (l' := #[.val (.int vi0), .val (.int vi1), .val (.int (vi0 &&& (15 : Int32))), .val (.int ((1 : Int32) <<< ((vi0 &&& (15 : Int32)) &&& 31))), .val (.ref b1), .val (.int (vi1 &&& (2147483647 : Int32))), .val (.int ((32768 : Int32) / ((1 : Int32) <<< ((vi0 &&& (15 : Int32)) &&& 31)))), .unset]) rfl ?_
    show Steps p.tables e below (T2.setTop (mkF m 31 #[.val (.int vi0), .val (.int vi1), .val (.int (vi0 &&& (15 : Int32))), .val (.int ((1 : Int32) <<< ((vi0 &&& (15 : Int32)) &&& 31))), .val (.ref b1), .val (.int (vi1 &&& (2147483647 : Int32))), .val (.int ((32768 : Int32) / ((1 : Int32) <<< ((vi0 &&& (15 : Int32)) &&& 31)))), .unset] [])) _
    refine XS.iload X2.here hx rfl (hb hby at_31) rfl ?_
    show Steps p.tables e below (T2.setTop (mkF m 33 #[.val (.int vi0), .val (.int vi1), .val (.int (vi0 &&& (15 : Int32))), .val (.int ((1 : Int32) <<< ((vi0 &&& (15 : Int32)) &&& 31))), .val (.ref b1), .val (.int (vi1 &&& (2147483647 : Int32))), .val (.int ((32768 : Int32) / ((1 : Int32) <<< ((vi0 &&& (15 : Int32)) &&& 31)))), .unset] [(.int (vi1 &&& (2147483647 : Int32)))])) _
    refine XS.iload X2.here hx rfl (hb hby at_33) rfl ?_
    show Steps p.tables e below (T2.setTop (mkF m 35 #[.val (.int vi0), .val (.int vi1), .val (.int (vi0 &&& (15 : Int32))), .val (.int ((1 : Int32) <<< ((vi0 &&& (15 : Int32)) &&& 31))), .val (.ref b1), .val (.int (vi1 &&& (2147483647 : Int32))), .val (.int ((32768 : Int32) / ((1 : Int32) <<< ((vi0 &&& (15 : Int32)) &&& 31)))), .unset] [(.int ((32768 : Int32) / ((1 : Int32) <<< ((vi0 &&& (15 : Int32)) &&& 31)))), (.int (vi1 &&& (2147483647 : Int32)))])) _
    refine iremM X2 hx rfl (hb hby at_35) rfl (own_nz2 (own_pw _)) ?_
    show Steps p.tables e below (T2.setTop (mkF m 36 #[.val (.int vi0), .val (.int vi1), .val (.int (vi0 &&& (15 : Int32))), .val (.int ((1 : Int32) <<< ((vi0 &&& (15 : Int32)) &&& 31))), .val (.ref b1), .val (.int (vi1 &&& (2147483647 : Int32))), .val (.int ((32768 : Int32) / ((1 : Int32) <<< ((vi0 &&& (15 : Int32)) &&& 31)))), .unset] [(.int ((vi1 &&& (2147483647 : Int32)) % ((32768 : Int32) / ((1 : Int32) <<< ((vi0 &&& (15 : Int32)) &&& 31)))))])) _
    refine XS.iloadN X2.here hx rfl (hb hby at_36) rfl ?_
    show Steps p.tables e below (T2.setTop (mkF m 37 #[.val (.int vi0), .val (.int vi1), .val (.int (vi0 &&& (15 : Int32))), .val (.int ((1 : Int32) <<< ((vi0 &&& (15 : Int32)) &&& 31))), .val (.ref b1), .val (.int (vi1 &&& (2147483647 : Int32))), .val (.int ((32768 : Int32) / ((1 : Int32) <<< ((vi0 &&& (15 : Int32)) &&& 31)))), .unset] [(.int ((1 : Int32) <<< ((vi0 &&& (15 : Int32)) &&& 31))), (.int ((vi1 &&& (2147483647 : Int32)) % ((32768 : Int32) / ((1 : Int32) <<< ((vi0 &&& (15 : Int32)) &&& 31)))))])) _
    refine XS.imul X2.here hx rfl (hb hby at_37) rfl ?_
    show Steps p.tables e below (T2.setTop (mkF m 38 #[.val (.int vi0), .val (.int vi1), .val (.int (vi0 &&& (15 : Int32))), .val (.int ((1 : Int32) <<< ((vi0 &&& (15 : Int32)) &&& 31))), .val (.ref b1), .val (.int (vi1 &&& (2147483647 : Int32))), .val (.int ((32768 : Int32) / ((1 : Int32) <<< ((vi0 &&& (15 : Int32)) &&& 31)))), .unset] [(.int (((vi1 &&& (2147483647 : Int32)) % ((32768 : Int32) / ((1 : Int32) <<< ((vi0 &&& (15 : Int32)) &&& 31)))) * ((1 : Int32) <<< ((vi0 &&& (15 : Int32)) &&& 31))))])) _
    refine XS.istore X2.here hx rfl (hb hby at_38) rfl (l' := #[.val (.int vi0), .val (.int vi1), .val (.int (vi0 &&& (15 : Int32))), .val (.int ((1 : Int32) <<< ((vi0 &&& (15 : Int32)) &&& 31))), .val (.ref b1), .val (.int (vi1 &&& (2147483647 : Int32))), .val (.int ((32768 : Int32) / ((1 : Int32) <<< ((vi0 &&& (15 : Int32)) &&& 31)))), .val (.int (((vi1 &&& (2147483647 : Int32)) % ((32768 : Int32) / ((1 : Int32) <<< ((vi0 &&& (15 : Int32)) &&& 31)))) * ((1 : Int32) <<< ((vi0 &&& (15 : Int32)) &&& 31))))]) rfl ?_
    show Steps p.tables e below (T2.setTop (mkF m 40 #[.val (.int vi0), .val (.int vi1), .val (.int (vi0 &&& (15 : Int32))), .val (.int ((1 : Int32) <<< ((vi0 &&& (15 : Int32)) &&& 31))), .val (.ref b1), .val (.int (vi1 &&& (2147483647 : Int32))), .val (.int ((32768 : Int32) / ((1 : Int32) <<< ((vi0 &&& (15 : Int32)) &&& 31)))), .val (.int (((vi1 &&& (2147483647 : Int32)) % ((32768 : Int32) / ((1 : Int32) <<< ((vi0 &&& (15 : Int32)) &&& 31)))) * ((1 : Int32) <<< ((vi0 &&& (15 : Int32)) &&& 31))))] [])) _
    refine XS.aload X2.here hx rfl (hb hby at_40) rfl rfl ?_
    show Steps p.tables e below (T2.setTop (mkF m 42 #[.val (.int vi0), .val (.int vi1), .val (.int (vi0 &&& (15 : Int32))), .val (.int ((1 : Int32) <<< ((vi0 &&& (15 : Int32)) &&& 31))), .val (.ref b1), .val (.int (vi1 &&& (2147483647 : Int32))), .val (.int ((32768 : Int32) / ((1 : Int32) <<< ((vi0 &&& (15 : Int32)) &&& 31)))), .val (.int (((vi1 &&& (2147483647 : Int32)) % ((32768 : Int32) / ((1 : Int32) <<< ((vi0 &&& (15 : Int32)) &&& 31)))) * ((1 : Int32) <<< ((vi0 &&& (15 : Int32)) &&& 31))))] [(.ref b1)])) _
    refine XS.iload X2.here hx rfl (hb hby at_42) rfl ?_
    show Steps p.tables e below (T2.setTop (mkF m 44 #[.val (.int vi0), .val (.int vi1), .val (.int (vi0 &&& (15 : Int32))), .val (.int ((1 : Int32) <<< ((vi0 &&& (15 : Int32)) &&& 31))), .val (.ref b1), .val (.int (vi1 &&& (2147483647 : Int32))), .val (.int ((32768 : Int32) / ((1 : Int32) <<< ((vi0 &&& (15 : Int32)) &&& 31)))), .val (.int (((vi1 &&& (2147483647 : Int32)) % ((32768 : Int32) / ((1 : Int32) <<< ((vi0 &&& (15 : Int32)) &&& 31)))) * ((1 : Int32) <<< ((vi0 &&& (15 : Int32)) &&& 31))))] [(.int (vi1 &&& (2147483647 : Int32))), (.ref b1)])) _
    refine st3.trans ?_
    show Steps p.tables e below (T3.setTop (mkF m 47 #[.val (.int vi0), .val (.int vi1), .val (.int (vi0 &&& (15 : Int32))), .val (.int ((1 : Int32) <<< ((vi0 &&& (15 : Int32)) &&& 31))), .val (.ref b1), .val (.int (vi1 &&& (2147483647 : Int32))), .val (.int ((32768 : Int32) / ((1 : Int32) <<< ((vi0 &&& (15 : Int32)) &&& 31)))), .val (.int (((vi1 &&& (2147483647 : Int32)) % ((32768 : Int32) / ((1 : Int32) <<< ((vi0 &&& (15 : Int32)) &&& 31)))) * ((1 : Int32) <<< ((vi0 &&& (15 : Int32)) &&& 31))))] [(.int (((vi1 &&& (2147483647 : Int32)) &&& (((1 : Int32) <<< (((15 : Int32) - (own_tz ((1 : Int32) <<< ((vi0 &&& (15 : Int32)) &&& 31)))) &&& 31)) - (1 : Int32))) <<< ((own_tz ((1 : Int32) <<< ((vi0 &&& (15 : Int32)) &&& 31))) &&& 31)))])) _
    refine XS.iload X3.here hx rfl (hb hby at_47) rfl ?_
    show Steps p.tables e below (T3.setTop (mkF m 49 #[.val (.int vi0), .val (.int vi1), .val (.int (vi0 &&& (15 : Int32))), .val (.int ((1 : Int32) <<< ((vi0 &&& (15 : Int32)) &&& 31))), .val (.ref b1), .val (.int (vi1 &&& (2147483647 : Int32))), .val (.int ((32768 : Int32) / ((1 : Int32) <<< ((vi0 &&& (15 : Int32)) &&& 31)))), .val (.int (((vi1 &&& (2147483647 : Int32)) % ((32768 : Int32) / ((1 : Int32) <<< ((vi0 &&& (15 : Int32)) &&& 31)))) * ((1 : Int32) <<< ((vi0 &&& (15 : Int32)) &&& 31))))] [(.int (((vi1 &&& (2147483647 : Int32)) % ((32768 : Int32) / ((1 : Int32) <<< ((vi0 &&& (15 : Int32)) &&& 31)))) * ((1 : Int32) <<< ((vi0 &&& (15 : Int32)) &&& 31)))), (.int (((vi1 &&& (2147483647 : Int32)) &&& (((1 : Int32) <<< (((15 : Int32) - (own_tz ((1 : Int32) <<< ((vi0 &&& (15 : Int32)) &&& 31)))) &&& 31)) - (1 : Int32))) <<< ((own_tz ((1 : Int32) <<< ((vi0 &&& (15 : Int32)) &&& 31))) &&& 31)))])) _
    refine XS.icmpNo X3.here hx rfl (hb hby at_49) rfl (teq (own_fin _ (own_pw _))).2 ?_
    show Steps p.tables e below (T3.setTop (mkF m 52 #[.val (.int vi0), .val (.int vi1), .val (.int (vi0 &&& (15 : Int32))), .val (.int ((1 : Int32) <<< ((vi0 &&& (15 : Int32)) &&& 31))), .val (.ref b1), .val (.int (vi1 &&& (2147483647 : Int32))), .val (.int ((32768 : Int32) / ((1 : Int32) <<< ((vi0 &&& (15 : Int32)) &&& 31)))), .val (.int (((vi1 &&& (2147483647 : Int32)) % ((32768 : Int32) / ((1 : Int32) <<< ((vi0 &&& (15 : Int32)) &&& 31)))) * ((1 : Int32) <<< ((vi0 &&& (15 : Int32)) &&& 31))))] [])) _
    refine XS.iconst X3.here hx rfl (hb hby at_52) ?_
    show Steps p.tables e below (T3.setTop (mkF m 53 #[.val (.int vi0), .val (.int vi1), .val (.int (vi0 &&& (15 : Int32))), .val (.int ((1 : Int32) <<< ((vi0 &&& (15 : Int32)) &&& 31))), .val (.ref b1), .val (.int (vi1 &&& (2147483647 : Int32))), .val (.int ((32768 : Int32) / ((1 : Int32) <<< ((vi0 &&& (15 : Int32)) &&& 31)))), .val (.int (((vi1 &&& (2147483647 : Int32)) % ((32768 : Int32) / ((1 : Int32) <<< ((vi0 &&& (15 : Int32)) &&& 31)))) * ((1 : Int32) <<< ((vi0 &&& (15 : Int32)) &&& 31))))] [(.int (1 : Int32))])) _
    refine XS.goto X3.here hx rfl (pc0 := 53) (pc' := 57) rfl (hb hby at_53) (by decide) (by decide) ?_
    show Steps p.tables e below (T3.setTop (mkF m 57 #[.val (.int vi0), .val (.int vi1), .val (.int (vi0 &&& (15 : Int32))), .val (.int ((1 : Int32) <<< ((vi0 &&& (15 : Int32)) &&& 31))), .val (.ref b1), .val (.int (vi1 &&& (2147483647 : Int32))), .val (.int ((32768 : Int32) / ((1 : Int32) <<< ((vi0 &&& (15 : Int32)) &&& 31)))), .val (.int (((vi1 &&& (2147483647 : Int32)) % ((32768 : Int32) / ((1 : Int32) <<< ((vi0 &&& (15 : Int32)) &&& 31)))) * ((1 : Int32) <<< ((vi0 &&& (15 : Int32)) &&& 31))))] [(.int (1 : Int32))])) _
    exact retN X3 hx (t := .boolean) Bd.returns (by simp) (hb hby at_57) hr
  · show Q0 Z vi0 vi1 w_DEFAULTCAPACITY_EMPTY_ELEMENTDATA h0 n0 _ T3.heap _
    rw [e3]
    exact ⟨rfl, N3⟩
set_option maxRecDepth 65536 in
set_option maxHeartbeats 40000000 in
theorem comes_1 {Post : Tables → Env → Array Value → State → Outcome → State → Prop} (hpost : ∀ tb e args s v u, (limb_1_1.after args s (.returned v) u = true ∧ limb_1_2.after args s (.returned v) u = true ∧ True) → FrameEnd s (.returned v) u (Jvm.fieldLocs frame_1_writes args s ++ Jvm.arrayLocs frame_1_arrays args s ++ Jvm.staticLocs frame_1_statics s) 24 128 → Post tb e args s (.returned v) u) :
    ArmFor flags0 classFile x code maxLocals ret World_1 tables_1 room_1 Calls_1 rest_1 Pre_1 Post := by
  intro l hfl _ _ p e ha hc hk s m args below hf hA hF happ hP
  obtain ⟨hcalls, hrest, hpre⟩ := hP
  obtain ⟨-, -, -, hnamed, -, -, -, hat⟩ := (Spec.applies_iff hf).mp happ
  obtain ⟨hg, hn⟩ := and_e (Cond.before_iff.mp (show (Jvm.Cond.and given_1 narrow_1).before args s = true from hpre))
  obtain ⟨gc, hg⟩ := and_e hg
  obtain ⟨ga0, hg⟩ := and_e hg
  have ga1 := hg
  obtain ⟨w0, w1, rfl⟩ : ∃ w0 w1 : Value, args = #[w0, w1] := by
    have hs : args.size = 2 := by simpa [Cond.value, given_1] using gc
    obtain ⟨L⟩ := args
    match L, hs with
    | [w0, w1], _ => exact ⟨w0, w1, rfl⟩
  have hw := fun d (hd : d ∈ tables_1) => atoms_spec (ws := Jvm.Cond.code x code maxLocals ret :: tables_1) hat d (List.mem_cons_of_mem _ hd)
  obtain ⟨hsets, hown0⟩ := atoms_of _ (rest_1_c_eq ▸ (show rest_1_c.before _ s = true from hrest))
  obtain ⟨i0, ei0⟩ := is_v ga0
  obtain rfl : w0 = (.int i0) := Option.some.inj ei0
  obtain ⟨i1, ei1⟩ := is_v ga1
  obtain rfl : w1 = (.int i1) := Option.some.inj ei1
  obtain ⟨aD, eD⟩ := exa_v (Cond.before_iff.mp (hsets _ (List.mem_of_getElem? (i := 7) rfl)))
  have SD : Sta s s.heap "java/util/ArrayList" "DEFAULTCAPACITY_EMPTY_ELEMENTDATA" "[Ljava/lang/Object;" (.ref aD) := Sta.start eD (Or.inr ⟨(wd_26 hw), hsets _ (List.mem_of_getElem? (i := 2) rfl)⟩)
  obtain ⟨n, o, h1, h2, h3, _, L, rfl, ⟨rfl, N⟩, hq⟩ := rm0 l s _ hw tables_1 i0 i1 aD s.heap s.heap.size (Nat.le_refl _) SD (Old.start s) p e ha hc hk s m _ below hf ((Spec.applies_iff_loose hf).mp happ).1 ⟨rfl, State.Warmed39.refl s, rfl⟩ trivial
  refine ⟨n, _, h1, h2, h3, hpost _ _ _ _ _ _ ⟨Cond.after_iff.mpr rfl, Cond.after_iff.mpr (eq_i res_at (Term.int_eval (1)) rfl), trivial⟩ ⟨hq.1, hq.2.1, (hq.2.2.sift fun y hy => Or.inr (N y hy)).mono (by decide) (by decide)⟩⟩
theorem main_1_1 : Claimed_1_1 := comes_1 fun _ _ _ _ _ _ h hF => ⟨h.1, hF⟩
theorem main_1_2 : Claimed_1_2 := comes_1 fun _ _ _ _ _ _ h hF => ⟨h.2.1, hF⟩
end Jvm.Pilot.@@N@@
namespace Jvm.Pilot.@@N@@
open Jvm Jvm.ClassFile Sem Op Lib Jvm.Free Jvm.Stand Jvm.Pilot.@@N@@.Jvm.D
/-! MADE BY PROGRAM (witnessworld.py) out of the Statement's table words and the real class files: 29 classes; the members and pool entries that the words name. The judged class is class 1, her method 1. -/
namespace start1
open Jvm.ClassFile
def u (s : String) : CpInfo := .utf8 (stringToUtf16 s)
/-- a pool by its gaps: so many unusable entries, then the entry; so many at the end -/
def gap : Nat → List CpInfo → List CpInfo
  | 0, r => r
  | n + 1, r => .unusable :: gap n r
def poolList (es : List (Nat × CpInfo)) (last : Nat) : List CpInfo := es.foldr (fun e r => gap e.1 (e.2 :: r)) (gap last [])
def pool (es : List (Nat × CpInfo)) (last : Nat) : Array CpInfo := ⟨poolList es last⟩
def fileOf (pool : Array CpInfo) (this : Nat) (attrs : Array Attribute := #[]) (ms : Array MethodInfo := #[]) (fl : Nat := 33) (sup : Nat := 0) (ifs : Array Nat := #[]) (fds : Array FieldInfo := #[]) : ClassFile where
  minorVersion := 0
  majorVersion := 65
  constantPool := pool
  accessFlags := fl
  thisClass := this
  superClass := sup
  interfaces := ifs
  fields := fds
  methods := ms
  attributes := attrs
def plain (name : String) (sup : Option ClassId) : Class where
  name := name
  kind := .ordinary
  loader := none
  accessFlags := 33
  super := sup
  interfaces := #[]
  cf := none
  fields := #[]
  methods := #[]
  instanceTypes := #[]
  staticTypes := #[]
  resolved := #[]
  callSites := []
  init := .initialized
  statics := none
  mirror := none

def pool0 : Array CpInfo := pool [(5, u "<init>"), (0, u "()V"), (1, .class_ 10), (1, u "java/lang/Object")] 113

def k0c0 : Code := { maxStack := 0, maxLocals := 1, code := object_method_1_code, exceptionTable := #[], attributes := #[] }
def k0m0 : Method := { name := "<init>", desc := "()V", sig := { parameters := [], returnType := none }, accessFlags := 1, code := some k0c0 }
/-- java/lang/Object -/
def k0 : Class := { plain "java/lang/Object" none with
  accessFlags := 33
  interfaces := #[]
  cf := some (fileOf pool0 8 #[] #[{ accessFlags := 1, nameIndex := 5, descriptorIndex := 6, attributes := #[] }] 33 0 #[] #[])
  fields := #[]
  methods := #[k0m0]
  instanceTypes := #[]
  staticTypes := #[]
  resolved := Array.replicate 124 none
  statics := none }

def pool1 : Array CpInfo := pool [(2, .class_ 4), (1, u "java/lang/Object"), (0, u "<init>"), (0, u "()V"), (0, .class_ 8), (0, u "com/example/careful_ledger/carefulledger/RowPages"), (0, .methodref 7 10), (0, .nameAndType 5 11), (0, u "(I)V"), (0, .integer 2147483647), (0, .integer 32768), (0, .methodref 7 15), (0, .nameAndType 16 17), (0, u "start"), (0, u "(I)I"), (0, .class_ 19), (0, u "com/example/careful_ledger/carefulledger/RowPagesStartPinLaw"), (2, u "law"), (0, u "(II)Z")] 3

def k1m0 : Method := { name := "<init>", desc := "()V", sig := { parameters := [], returnType := none }, accessFlags := 1, code := none }
def k1c1 : Code := { maxStack := 3, maxLocals := 8, code := code, exceptionTable := #[], attributes := #[] }
def k1m1 : Method := { name := "law", desc := "(II)Z", sig := { parameters := [.int, .int], returnType := some .boolean }, accessFlags := 9, code := some k1c1 }
/-- com/example/careful_ledger/carefulledger/RowPagesStartPinLaw -/
def k1 : Class := { plain "com/example/careful_ledger/carefulledger/RowPagesStartPinLaw" (some 0) with
  accessFlags := 49
  interfaces := #[]
  cf := some (fileOf pool1 18 #[] #[{ accessFlags := 1, nameIndex := 5, descriptorIndex := 6, attributes := #[] }, { accessFlags := 9, nameIndex := 22, descriptorIndex := 23, attributes := #[] }] 49 2 #[] #[])
  fields := #[]
  methods := #[k1m0, k1m1]
  instanceTypes := #[]
  staticTypes := #[]
  resolved := Array.replicate 27 none
  statics := none }

def pool2 : Array CpInfo := pool [(1, .methodref 2 3), (0, .class_ 4), (0, .nameAndType 5 6), (0, u "java/lang/Object"), (0, u "<init>"), (0, u "()V"), (0, .class_ 8), (0, u "[J"), (0, .fieldref 10 11), (0, .class_ 12), (0, .nameAndType 13 14), (0, u "com/example/careful_ledger/carefulledger/RowPages"), (0, u "pages"), (0, u "[[J"), (0, .class_ 16), (0, u "com/example/careful_ledger/carefulledger/PageSource"), (0, .fieldref 10 18), (0, .nameAndType 19 20), (0, u "sources"), (0, u "[Lcom/example/careful_ledger/carefulledger/PageSource;"), (0, .class_ 22), (0, u "com/example/careful_ledger/carefulledger/UnreadRuns"), (0, .methodref 21 3), (0, .fieldref 10 25), (0, .nameAndType 26 27), (0, u "unread"), (0, u "Lcom/example/careful_ledger/carefulledger/UnreadRuns;"), (0, .methodref 29 30), (0, .class_ 31), (0, .nameAndType 32 33), (0, u "java/lang/Integer"), (0, u "bitCount"), (0, u "(I)I"), (0, .integer 32768), (9, .methodref 29 45), (0, .nameAndType 46 33), (0, u "numberOfTrailingZeros"), (0, .fieldref 10 48), (0, .nameAndType 49 50), (0, u "rowBits"), (0, u "I"), (0, .fieldref 10 52), (0, .nameAndType 53 50), (0, u "pageBits"), (2, u "size"), (45, u "(I)V"), (6, u "savedRows"), (6, .class_ 118), (1, u "com/example/careful_ledger/carefulledger/RowPages$PageWriter"), (76, u "PAGE_LONGS_BITS"), (2, u "SIZE"), (1, u "ROWS"), (6, u "start")] 57

def k2c0 : Code := { maxStack := 3, maxLocals := 2, code := prog_36_method_1_code, exceptionTable := #[], attributes := #[] }
def k2m0 : Method := { name := "<init>", desc := "(I)V", sig := { parameters := [.int], returnType := none }, accessFlags := 0, code := some k2c0 }
def k2c1 : Code := { maxStack := 3, maxLocals := 2, code := prog_36_method_6_code, exceptionTable := #[], attributes := #[] }
def k2m1 : Method := { name := "start", desc := "(I)I", sig := { parameters := [.int], returnType := some .int }, accessFlags := 0, code := some k2c1 }
/-- com/example/careful_ledger/carefulledger/RowPages -/
def k2 : Class := { plain "com/example/careful_ledger/carefulledger/RowPages" (some 0) with
  accessFlags := 48
  interfaces := #[]
  cf := some (fileOf pool2 10 #[.nestMembers #[116]] #[{ accessFlags := 0, nameIndex := 5, descriptorIndex := 102, attributes := #[] }, { accessFlags := 0, nameIndex := 207, descriptorIndex := 33, attributes := #[] }] 48 2 #[] #[{ accessFlags := 26, nameIndex := 195, descriptorIndex := 50, attributes := #[] }, { accessFlags := 26, nameIndex := 198, descriptorIndex := 50, attributes := #[] }, { accessFlags := 26, nameIndex := 200, descriptorIndex := 50, attributes := #[] }, { accessFlags := 18, nameIndex := 49, descriptorIndex := 50, attributes := #[] }, { accessFlags := 18, nameIndex := 53, descriptorIndex := 50, attributes := #[] }, { accessFlags := 2, nameIndex := 13, descriptorIndex := 14, attributes := #[] }, { accessFlags := 2, nameIndex := 19, descriptorIndex := 20, attributes := #[] }, { accessFlags := 2, nameIndex := 56, descriptorIndex := 50, attributes := #[] }, { accessFlags := 2, nameIndex := 109, descriptorIndex := 50, attributes := #[] }, { accessFlags := 18, nameIndex := 26, descriptorIndex := 27, attributes := #[] }])
  fields := #[{ name := "PAGE_LONGS_BITS", type := .int, accessFlags := 26, slot := 0, constantValue := 0 }, { name := "SIZE", type := .int, accessFlags := 26, slot := 1, constantValue := 0 }, { name := "ROWS", type := .int, accessFlags := 26, slot := 2, constantValue := 0 }, { name := "rowBits", type := .int, accessFlags := 18, slot := 0, constantValue := 0 }, { name := "pageBits", type := .int, accessFlags := 18, slot := 1, constantValue := 0 }, { name := "pages", type := (.array (.array .long)), accessFlags := 2, slot := 2, constantValue := 0 }, { name := "sources", type := (.array (.object "com/example/careful_ledger/carefulledger/PageSource")), accessFlags := 2, slot := 3, constantValue := 0 }, { name := "size", type := .int, accessFlags := 2, slot := 4, constantValue := 0 }, { name := "savedRows", type := .int, accessFlags := 2, slot := 5, constantValue := 0 }, { name := "unread", type := (.object "com/example/careful_ledger/carefulledger/UnreadRuns"), accessFlags := 18, slot := 6, constantValue := 0 }]
  methods := #[k2m0, k2m1]
  instanceTypes := #[.int, .int, (.array (.array .long)), (.array (.object "com/example/careful_ledger/carefulledger/PageSource")), .int, .int, (.object "com/example/careful_ledger/carefulledger/UnreadRuns")]
  staticTypes := #[.int, .int, .int]
  resolved := Array.replicate 265 none
  statics := none }

def pool3 : Array CpInfo := pool [(1, .class_ 2), (0, u "com/example/careful_ledger/carefulledger/PageSource"), (0, .class_ 4), (0, u "java/lang/Object")] 6

/-- com/example/careful_ledger/carefulledger/PageSource -/
def k3 : Class := { plain "com/example/careful_ledger/carefulledger/PageSource" (some 0) with
  accessFlags := 1537
  interfaces := #[]
  cf := some (fileOf pool3 1 #[] #[] 1537 3 #[] #[])
  fields := #[]
  methods := #[]
  instanceTypes := #[]
  staticTypes := #[]
  resolved := Array.replicate 11 none
  statics := none }

def pool4 : Array CpInfo := pool [(1, .methodref 2 3), (0, .class_ 4), (0, .nameAndType 5 6), (0, u "java/lang/Object"), (0, u "<init>"), (0, u "()V"), (0, .class_ 8), (0, u "java/util/ArrayList"), (0, .methodref 7 3), (0, .fieldref 11 12), (0, .class_ 13), (0, .nameAndType 14 15), (0, u "com/example/careful_ledger/carefulledger/UnreadRuns"), (0, u "pieces"), (0, u "Ljava/util/List;"), (0, .fieldref 11 17), (0, .nameAndType 18 15), (0, u "restores"), (14, u "pending"), (0, u "Z"), (14, u "failure"), (0, u "Ljava/lang/RuntimeException;"), (2, u "restoring")] 37

def k4c0 : Code := { maxStack := 3, maxLocals := 1, code := prog_54_method_1_code, exceptionTable := #[], attributes := #[] }
def k4m0 : Method := { name := "<init>", desc := "()V", sig := { parameters := [], returnType := none }, accessFlags := 0, code := some k4c0 }
/-- com/example/careful_ledger/carefulledger/UnreadRuns -/
def k4 : Class := { plain "com/example/careful_ledger/carefulledger/UnreadRuns" (some 0) with
  accessFlags := 48
  interfaces := #[]
  cf := some (fileOf pool4 11 #[] #[{ accessFlags := 0, nameIndex := 5, descriptorIndex := 6, attributes := #[] }] 48 2 #[] #[{ accessFlags := 18, nameIndex := 14, descriptorIndex := 15, attributes := #[] }, { accessFlags := 18, nameIndex := 18, descriptorIndex := 15, attributes := #[] }, { accessFlags := 2, nameIndex := 33, descriptorIndex := 34, attributes := #[] }, { accessFlags := 2, nameIndex := 53, descriptorIndex := 34, attributes := #[] }, { accessFlags := 2, nameIndex := 49, descriptorIndex := 50, attributes := #[] }])
  fields := #[{ name := "pieces", type := (.object "java/util/List"), accessFlags := 18, slot := 0, constantValue := 0 }, { name := "restores", type := (.object "java/util/List"), accessFlags := 18, slot := 1, constantValue := 0 }, { name := "pending", type := .boolean, accessFlags := 2, slot := 2, constantValue := 0 }, { name := "restoring", type := .boolean, accessFlags := 2, slot := 3, constantValue := 0 }, { name := "failure", type := (.object "java/lang/RuntimeException"), accessFlags := 2, slot := 4, constantValue := 0 }]
  methods := #[k4m0]
  instanceTypes := #[(.object "java/util/List"), (.object "java/util/List"), .boolean, .boolean, (.object "java/lang/RuntimeException")]
  staticTypes := #[]
  resolved := Array.replicate 91 none
  statics := none }

def pool5 : Array CpInfo := pool [(8, .class_ 10), (1, u "java/lang/Iterable"), (24, .class_ 36), (0, u "java/lang/Object")] 25

/-- java/lang/Iterable -/
def k5 : Class := { plain "java/lang/Iterable" (some 0) with
  accessFlags := 1537
  interfaces := #[]
  cf := some (fileOf pool5 8 #[] #[] 1537 35 #[] #[])
  fields := #[]
  methods := #[]
  instanceTypes := #[]
  staticTypes := #[]
  resolved := Array.replicate 62 none
  statics := none }

def pool6 : Array CpInfo := pool [(10, .class_ 12), (1, u "java/util/Collection"), (47, .class_ 61), (0, u "java/lang/Object"), (0, .class_ 63), (0, u "java/lang/Iterable")] 51

/-- java/util/Collection -/
def k6 : Class := { plain "java/util/Collection" (some 0) with
  accessFlags := 1537
  interfaces := #[5]
  cf := some (fileOf pool6 10 #[] #[] 1537 60 #[62] #[])
  fields := #[]
  methods := #[]
  instanceTypes := #[]
  staticTypes := #[]
  resolved := Array.replicate 115 none
  statics := none }

def pool7 : Array CpInfo := pool [(1, .methodref 2 3), (0, .class_ 4), (0, .nameAndType 5 6), (0, u "java/lang/Object"), (0, u "<init>"), (0, u "()V"), (1, .class_ 10), (1, u "java/util/AbstractCollection"), (66, .class_ 78), (0, u "java/util/Collection")] 81

def k7c0 : Code := { maxStack := 1, maxLocals := 1, code := jdk_22_method_1_code, exceptionTable := #[], attributes := #[] }
def k7m0 : Method := { name := "<init>", desc := "()V", sig := { parameters := [], returnType := none }, accessFlags := 4, code := some k7c0 }
/-- java/util/AbstractCollection -/
def k7 : Class := { plain "java/util/AbstractCollection" (some 0) with
  accessFlags := 1057
  interfaces := #[6]
  cf := some (fileOf pool7 8 #[] #[{ accessFlags := 4, nameIndex := 5, descriptorIndex := 6, attributes := #[] }] 1057 2 #[77] #[])
  fields := #[]
  methods := #[k7m0]
  instanceTypes := #[]
  staticTypes := #[]
  resolved := Array.replicate 160 none
  statics := none }

def pool8 : Array CpInfo := pool [(8, .class_ 10), (1, u "java/util/SequencedCollection"), (15, .class_ 27), (0, u "java/lang/Object"), (0, .class_ 29), (0, u "java/util/Collection")] 27

/-- java/util/SequencedCollection -/
def k8 : Class := { plain "java/util/SequencedCollection" (some 0) with
  accessFlags := 1537
  interfaces := #[6]
  cf := some (fileOf pool8 8 #[] #[] 1537 26 #[28] #[])
  fields := #[]
  methods := #[]
  instanceTypes := #[]
  staticTypes := #[]
  resolved := Array.replicate 57 none
  statics := none }

def pool9 : Array CpInfo := pool [(8, .class_ 10), (1, u "java/util/List"), (92, .class_ 104), (0, u "java/lang/Object"), (15, .class_ 121), (0, u "java/util/SequencedCollection")] 129

/-- java/util/List -/
def k9 : Class := { plain "java/util/List" (some 0) with
  accessFlags := 1537
  interfaces := #[8]
  cf := some (fileOf pool9 8 #[] #[] 1537 103 #[120] #[])
  fields := #[]
  methods := #[]
  instanceTypes := #[]
  staticTypes := #[]
  resolved := Array.replicate 251 none
  statics := none }

def pool10 : Array CpInfo := pool [(1, .methodref 2 3), (0, .class_ 4), (0, .nameAndType 5 6), (0, u "java/util/AbstractCollection"), (0, u "<init>"), (0, u "()V"), (0, .fieldref 8 9), (0, .class_ 10), (0, .nameAndType 11 12), (0, u "java/util/AbstractList"), (0, u "modCount"), (0, u "I"), (64, .class_ 78), (0, u "java/util/AbstractList$Itr"), (3, .class_ 83), (0, u "java/util/AbstractList$ListItr"), (9, .class_ 94), (0, u "java/util/AbstractList$RandomAccessSubList"), (3, .class_ 99), (0, u "java/util/AbstractList$SubList"), (33, .class_ 134), (0, u "java/util/List"), (73, .class_ 209), (0, u "java/util/AbstractList$SubList$1"), (0, .class_ 211), (0, u "java/util/AbstractList$RandomAccessSpliterator")] 6

def k10c0 : Code := { maxStack := 2, maxLocals := 1, code := jdk_39_method_1_code, exceptionTable := #[], attributes := #[] }
def k10m0 : Method := { name := "<init>", desc := "()V", sig := { parameters := [], returnType := none }, accessFlags := 4, code := some k10c0 }
/-- java/util/AbstractList -/
def k10 : Class := { plain "java/util/AbstractList" (some 7) with
  accessFlags := 1057
  interfaces := #[9]
  cf := some (fileOf pool10 8 #[.nestMembers #[93, 98, 208, 210, 82, 77]] #[{ accessFlags := 4, nameIndex := 5, descriptorIndex := 6, attributes := #[] }] 1057 2 #[133] #[{ accessFlags := 132, nameIndex := 11, descriptorIndex := 12, attributes := #[] }])
  fields := #[{ name := "modCount", type := .int, accessFlags := 132, slot := 0, constantValue := 0 }]
  methods := #[k10m0]
  instanceTypes := #[.int]
  staticTypes := #[]
  resolved := Array.replicate 218 none
  statics := none }

def pool11 : Array CpInfo := pool [(1, .class_ 2), (0, u "java/util/RandomAccess"), (0, .class_ 4), (0, u "java/lang/Object")] 2

/-- java/util/RandomAccess -/
def k11 : Class := { plain "java/util/RandomAccess" (some 0) with
  accessFlags := 1537
  interfaces := #[]
  cf := some (fileOf pool11 1 #[] #[] 1537 3 #[] #[])
  fields := #[]
  methods := #[]
  instanceTypes := #[]
  staticTypes := #[]
  resolved := Array.replicate 7 none
  statics := none }

def pool12 : Array CpInfo := pool [(1, .class_ 2), (0, u "java/lang/Cloneable"), (0, .class_ 4), (0, u "java/lang/Object")] 2

/-- java/lang/Cloneable -/
def k12 : Class := { plain "java/lang/Cloneable" (some 0) with
  accessFlags := 1537
  interfaces := #[]
  cf := some (fileOf pool12 1 #[] #[] 1537 3 #[] #[])
  fields := #[]
  methods := #[]
  instanceTypes := #[]
  staticTypes := #[]
  resolved := Array.replicate 7 none
  statics := none }

def pool13 : Array CpInfo := pool [(1, .class_ 2), (0, u "java/io/Serializable"), (0, .class_ 4), (0, u "java/lang/Object")] 2

/-- java/io/Serializable -/
def k13 : Class := { plain "java/io/Serializable" (some 0) with
  accessFlags := 1537
  interfaces := #[]
  cf := some (fileOf pool13 1 #[] #[] 1537 3 #[] #[])
  fields := #[]
  methods := #[]
  instanceTypes := #[]
  staticTypes := #[]
  resolved := Array.replicate 7 none
  statics := none }

def pool14 : Array CpInfo := pool [(1, .methodref 2 3), (0, .class_ 4), (0, .nameAndType 5 6), (0, u "java/util/AbstractList"), (0, u "<init>"), (0, u "()V"), (2, .fieldref 10 11), (0, .class_ 12), (0, .nameAndType 13 14), (0, u "java/util/ArrayList"), (0, u "elementData"), (0, u "[Ljava/lang/Object;"), (2, u "EMPTY_ELEMENTDATA"), (21, .fieldref 10 40), (0, .nameAndType 41 14), (0, u "DEFAULTCAPACITY_EMPTY_ELEMENTDATA"), (8, u "size"), (0, u "I"), (96, .class_ 149), (0, u "java/util/List"), (112, .class_ 263), (0, u "java/util/ArrayList$ListItr"), (3, .class_ 268), (0, u "java/util/ArrayList$Itr"), (7, .class_ 277), (0, u "java/util/ArrayList$SubList"), (12, .class_ 291), (0, u "java/util/ArrayList$ArrayListSpliterator"), (37, .class_ 330), (0, u "java/util/RandomAccess"), (0, .class_ 332), (0, u "java/lang/Cloneable"), (0, .class_ 334), (0, u "java/io/Serializable"), (0, u "serialVersionUID"), (0, u "J"), (3, u "DEFAULT_CAPACITY"), (159, .class_ 501), (0, u "java/util/ArrayList$SubList$2"), (0, .class_ 503), (0, u "java/util/ArrayList$SubList$1")] 5

def k14c0 : Code := { maxStack := 2, maxLocals := 1, code := jdk_38_method_2_code, exceptionTable := #[], attributes := #[] }
def k14m0 : Method := { name := "<init>", desc := "()V", sig := { parameters := [], returnType := none }, accessFlags := 1, code := some k14c0 }
/-- java/util/ArrayList -/
def k14 : Class := { plain "java/util/ArrayList" (some 10) with
  accessFlags := 33
  interfaces := #[9, 11, 12, 13]
  cf := some (fileOf pool14 10 #[.nestMembers #[290, 276, 500, 502, 262, 267]] #[{ accessFlags := 1, nameIndex := 5, descriptorIndex := 6, attributes := #[] }] 33 2 #[148, 329, 331, 333] #[{ accessFlags := 26, nameIndex := 335, descriptorIndex := 336, attributes := #[] }, { accessFlags := 26, nameIndex := 340, descriptorIndex := 51, attributes := #[] }, { accessFlags := 26, nameIndex := 17, descriptorIndex := 14, attributes := #[] }, { accessFlags := 26, nameIndex := 41, descriptorIndex := 14, attributes := #[] }, { accessFlags := 128, nameIndex := 13, descriptorIndex := 14, attributes := #[] }, { accessFlags := 2, nameIndex := 50, descriptorIndex := 51, attributes := #[] }])
  fields := #[{ name := "serialVersionUID", type := .long, accessFlags := 26, slot := 0, constantValue := 0 }, { name := "DEFAULT_CAPACITY", type := .int, accessFlags := 26, slot := 1, constantValue := 0 }, { name := "EMPTY_ELEMENTDATA", type := (.array (.object "java/lang/Object")), accessFlags := 26, slot := 2, constantValue := 0 }, { name := "DEFAULTCAPACITY_EMPTY_ELEMENTDATA", type := (.array (.object "java/lang/Object")), accessFlags := 26, slot := 3, constantValue := 0 }, { name := "elementData", type := (.array (.object "java/lang/Object")), accessFlags := 128, slot := 1, constantValue := 0 }, { name := "size", type := .int, accessFlags := 2, slot := 2, constantValue := 0 }]
  methods := #[k14m0]
  instanceTypes := #[.int, (.array (.object "java/lang/Object")), .int]
  staticTypes := #[.long, .int, (.array (.object "java/lang/Object")), (.array (.object "java/lang/Object"))]
  resolved := Array.replicate 509 none
  statics := some 0 }

def pool15 : Array CpInfo := pool [(2, .class_ 4), (1, u "java/lang/Object"), (0, u "<init>"), (0, u "()V"), (1, .class_ 10), (1, u "java/lang/Number"), (2, .class_ 14), (0, u "java/io/Serializable"), (0, u "serialVersionUID"), (0, u "J")] 20

def k15m0 : Method := { name := "<init>", desc := "()V", sig := { parameters := [], returnType := none }, accessFlags := 1, code := none }
/-- java/lang/Number -/
def k15 : Class := { plain "java/lang/Number" (some 0) with
  accessFlags := 1057
  interfaces := #[13]
  cf := some (fileOf pool15 8 #[] #[{ accessFlags := 1, nameIndex := 5, descriptorIndex := 6, attributes := #[] }] 1057 2 #[13] #[{ accessFlags := 26, nameIndex := 15, descriptorIndex := 16, attributes := #[] }])
  fields := #[{ name := "serialVersionUID", type := .long, accessFlags := 26, slot := 0, constantValue := 0 }]
  methods := #[k15m0]
  instanceTypes := #[]
  staticTypes := #[.long]
  resolved := Array.replicate 37 none
  statics := none }

def pool16 : Array CpInfo := pool [(1, .class_ 2), (0, u "java/lang/Comparable"), (0, .class_ 4), (0, u "java/lang/Object")] 7

/-- java/lang/Comparable -/
def k16 : Class := { plain "java/lang/Comparable" (some 0) with
  accessFlags := 1537
  interfaces := #[]
  cf := some (fileOf pool16 1 #[] #[] 1537 3 #[] #[])
  fields := #[]
  methods := #[]
  instanceTypes := #[]
  staticTypes := #[]
  resolved := Array.replicate 12 none
  statics := none }

def pool17 : Array CpInfo := pool [(1, .class_ 2), (0, u "java/lang/constant/Constable"), (0, .class_ 4), (0, u "java/lang/Object")] 6

/-- java/lang/constant/Constable -/
def k17 : Class := { plain "java/lang/constant/Constable" (some 0) with
  accessFlags := 1537
  interfaces := #[]
  cf := some (fileOf pool17 1 #[] #[] 1537 3 #[] #[])
  fields := #[]
  methods := #[]
  instanceTypes := #[]
  staticTypes := #[]
  resolved := Array.replicate 11 none
  statics := none }

def pool18 : Array CpInfo := pool [(1, .class_ 2), (0, u "java/lang/constant/ConstantDesc"), (0, .class_ 4), (0, u "java/lang/Object")] 32

/-- java/lang/constant/ConstantDesc -/
def k18 : Class := { plain "java/lang/constant/ConstantDesc" (some 0) with
  accessFlags := 1537
  interfaces := #[]
  cf := some (fileOf pool18 1 #[] #[] 1537 3 #[] #[])
  fields := #[]
  methods := #[]
  instanceTypes := #[]
  staticTypes := #[]
  resolved := Array.replicate 37 none
  statics := none }

def pool19 : Array CpInfo := pool [(1, .class_ 2), (0, u "java/lang/Integer"), (16, u "digits"), (0, u "[C"), (33, u "(I)I"), (30, u "DigitOnes"), (0, u "[B"), (2, u "DigitTens"), (99, .class_ 190), (0, u "java/lang/Integer$IntegerCache"), (3, u "I"), (8, .class_ 204), (0, u "java/lang/Number"), (2, u "value"), (56, .integer 65536), (0, .integer 1431655765), (0, .integer 858993459), (0, .integer 252645135), (34, u "TYPE"), (0, u "Ljava/lang/Class;"), (0, .class_ 305), (0, u "java/lang/Comparable"), (0, .class_ 307), (0, u "java/lang/constant/Constable"), (0, .class_ 309), (0, u "java/lang/constant/ConstantDesc"), (0, u "MIN_VALUE"), (1, u "MAX_VALUE"), (3, u "SIZE"), (1, u "BYTES"), (1, u "serialVersionUID"), (0, u "J"), (84, u "numberOfTrailingZeros"), (0, u "bitCount")] 45

def k19c0 : Code := { maxStack := 3, maxLocals := 2, code := jdk_33_method_48_code, exceptionTable := #[], attributes := #[] }
def k19m0 : Method := { name := "numberOfTrailingZeros", desc := "(I)I", sig := { parameters := [.int], returnType := some .int }, accessFlags := 9, code := some k19c0 }
def k19c1 : Code := { maxStack := 3, maxLocals := 1, code := jdk_33_method_49_code, exceptionTable := #[], attributes := #[] }
def k19m1 : Method := { name := "bitCount", desc := "(I)I", sig := { parameters := [.int], returnType := some .int }, accessFlags := 9, code := some k19c1 }
/-- java/lang/Integer -/
def k19 : Class := { plain "java/lang/Integer" (some 15) with
  accessFlags := 49
  interfaces := #[16, 17, 18]
  cf := some (fileOf pool19 1 #[.nestMembers #[189]] #[{ accessFlags := 9, nameIndex := 406, descriptorIndex := 54, attributes := #[] }, { accessFlags := 9, nameIndex := 407, descriptorIndex := 54, attributes := #[] }] 49 203 #[304, 306, 308] #[{ accessFlags := 25, nameIndex := 310, descriptorIndex := 194, attributes := #[] }, { accessFlags := 25, nameIndex := 312, descriptorIndex := 194, attributes := #[] }, { accessFlags := 25, nameIndex := 302, descriptorIndex := 303, attributes := #[] }, { accessFlags := 24, nameIndex := 19, descriptorIndex := 20, attributes := #[] }, { accessFlags := 24, nameIndex := 89, descriptorIndex := 86, attributes := #[] }, { accessFlags := 24, nameIndex := 85, descriptorIndex := 86, attributes := #[] }, { accessFlags := 18, nameIndex := 207, descriptorIndex := 194, attributes := #[] }, { accessFlags := 25, nameIndex := 316, descriptorIndex := 194, attributes := #[] }, { accessFlags := 25, nameIndex := 318, descriptorIndex := 194, attributes := #[] }, { accessFlags := 26, nameIndex := 320, descriptorIndex := 321, attributes := #[] }])
  fields := #[{ name := "MIN_VALUE", type := .int, accessFlags := 25, slot := 0, constantValue := 0 }, { name := "MAX_VALUE", type := .int, accessFlags := 25, slot := 1, constantValue := 0 }, { name := "TYPE", type := (.object "java/lang/Class"), accessFlags := 25, slot := 2, constantValue := 0 }, { name := "digits", type := (.array .char), accessFlags := 24, slot := 3, constantValue := 0 }, { name := "DigitTens", type := (.array .byte), accessFlags := 24, slot := 4, constantValue := 0 }, { name := "DigitOnes", type := (.array .byte), accessFlags := 24, slot := 5, constantValue := 0 }, { name := "value", type := .int, accessFlags := 18, slot := 0, constantValue := 0 }, { name := "SIZE", type := .int, accessFlags := 25, slot := 6, constantValue := 0 }, { name := "BYTES", type := .int, accessFlags := 25, slot := 7, constantValue := 0 }, { name := "serialVersionUID", type := .long, accessFlags := 26, slot := 8, constantValue := 0 }]
  methods := #[k19m0, k19m1]
  instanceTypes := #[.int]
  staticTypes := #[.int, .int, (.object "java/lang/Class"), (.array .char), (.array .byte), (.array .byte), .int, .int, .long]
  resolved := Array.replicate 453 none
  statics := none }

/-- the primitive byte -/
def k20 : Class := { plain "byte" none with kind := .primitive 'B', accessFlags := 0x411 }
/-- [B -/
def k21 : Class := { plain "[B" (some 0) with kind := .array 20 .byte, interfaces := #[12, 13], accessFlags := 1041 }

/-- the primitive int -/
def k22 : Class := { plain "int" none with kind := .primitive 'I', accessFlags := 0x411 }
/-- [I -/
def k23 : Class := { plain "[I" (some 0) with kind := .array 22 .int, interfaces := #[12, 13], accessFlags := 1041 }

/-- the primitive long -/
def k24 : Class := { plain "long" none with kind := .primitive 'J', accessFlags := 0x411 }
/-- [J -/
def k25 : Class := { plain "[J" (some 0) with kind := .array 24 .long, interfaces := #[12, 13], accessFlags := 1041 }

/-- [Lcom/example/careful_ledger/carefulledger/PageSource; -/
def k26 : Class := { plain "[Lcom/example/careful_ledger/carefulledger/PageSource;" (some 0) with kind := .array 3 (.object "com/example/careful_ledger/carefulledger/PageSource"), interfaces := #[12, 13], accessFlags := 1041 }

/-- [Ljava/lang/Object; -/
def k27 : Class := { plain "[Ljava/lang/Object;" (some 0) with kind := .array 0 (.object "java/lang/Object"), interfaces := #[12, 13], accessFlags := 1041 }

def k28 : Class := { plain "[[J" (some 0) with kind := .array 25 (.array .long), interfaces := #[12, 13], accessFlags := 1041 }

def heap : Heap := #[{ cls := 14, slots := #[.long 0, .int 0, .ref 1, .ref 2], vm := .statics 14 },
  { cls := 27, slots := #[], vm := .none },
  { cls := 27, slots := #[], vm := .none }]
def classes : Array Class := #[k0, k1, k2, k3, k4, k5, k6, k7, k8, k9, k10, k11, k12, k13, k14, k15, k16, k17, k18, k19, k20, k21, k22, k23, k24, k25, k26, k27, k28]
def interned : List (Array UInt16 × Addr) := []
def slotsUsed : Nat := 4
def theMethod : MethodId := ⟨1, 1⟩
def args0 : Array Value := #[.int 5, .int 7]
def aboutOver (below : List Frame) : State where
  vm := { classes := classes, interned := interned.toArray }
  heap := heap
  slotsUsed := slotsUsed
  threads := #[{ frames := .invoking theMethod args0 :: below }]
def below0 : List Frame := [.native { method := ⟨0, 0⟩, args := #[] }]
def about1 : State := aboutOver below0
def p0 : Program := .bare "" "" ""
def e0 : Env := launch0.env 0 0 0
theorem w_frames : about1.frames = Frame.invoking theMethod args0 :: below0 := rfl
set_option maxRecDepth 65536 in
theorem w_args : argsFit about1.vm theMethod args0 = true := by decide +kernel
set_option maxRecDepth 65536 in
theorem w_heap : heapFits about1 = true := by decide +kernel
set_option maxRecDepth 65536 in
theorem w_runnable : about1.curStatus? = some .runnable := by decide +kernel
set_option maxRecDepth 65536 in
theorem w_alone : about1.alone = true := by decide +kernel
set_option maxRecDepth 65536 in
theorem w_named : about1.methodNamed? x = some theMethod := by decide +kernel
set_option maxRecDepth 65536 in
theorem w_hears : about1.hears theMethod below0 = true := by decide +kernel
set_option maxRecDepth 65536 in
theorem w_ripe : about1.ripe theMethod args0 below0 = true := by decide +kernel
theorem w_running : about1.status = .running := rfl
set_option maxRecDepth 65536 in
theorem w_room : about1.hasRoom e0.platform room_1 = true :=
  launch0.hasRoom_least _ room_1 (by decide +kernel) (by decide +kernel) (by decide +kernel) (by decide +kernel) (by decide +kernel) (by decide +kernel)
theorem allAtoms_all (ts : List Jvm.Cond) (a : Array Jvm.Value) (st : Jvm.State) : (allAtoms ts).before a st = ts.all (fun c => c.before a st) := by
  induction ts with
  | nil => rfl
  | cons c t ih =>
    show (Jvm.Cond.and c (allAtoms t)).before a st = _
    rw [Jvm.Cond.before_and, ih, List.all_cons]
def words1 : List Jvm.Cond := Jvm.Cond.code x code maxLocals ret :: tables_1
/-- a 'code' word, met by the world's own term for the bytes: nothing is compared byte by byte -/
theorem code_word {y : MethodName} {bytes : ByteArray} {mx : Nat} {rt : Option FieldType} {a : Array Value} {s : State} {m : MethodId} {meth : Method} {c : Code} (h1 : s.methodNamed? y = some m) (h2 : s.vm.method? m = some meth) (h3 : meth.code = some c) (h4 : c.code = bytes)
    (h5 : (c.maxLocals == mx && c.exceptionTable.isEmpty && decide (c.maxStack ≤ mostOperands) && decide (meth.sig.returnType = rt) && !meth.locks && decide (parseMethodDescriptor y.desc = some meth.sig)) = true) : (Jvm.Cond.code y bytes mx rt).before a s = true := by
  simp only [Bool.and_eq_true, beq_iff_eq, Bool.not_eq_true', decide_eq_true_eq] at h5
  obtain ⟨⟨⟨⟨⟨g1, g2⟩, g3⟩, g4⟩, g5⟩, g6⟩ := h5
  simp [Cond.before, Cond.holds, Cond.value, h1, h2, h3, h4, g1, g2, g3, g4, g5, g6]
def isCode : Jvm.Cond → Bool
  | .code _ _ _ _ => true
  | _ => false
theorem all_split {L : List Jvm.Cond} {P : Jvm.Cond → Bool} (h1 : L.all (fun c => isCode c || P c) = true) (h2 : ∀ c ∈ L.filter isCode, P c = true) : L.all P = true := by
  refine List.all_eq_true.mpr fun c hc => ?_
  have h := List.all_eq_true.mp h1 c hc
  rcases Bool.eq_false_or_eq_true (isCode c) with hi | hi
  · exact h2 c (List.mem_filter.mpr ⟨hc, hi⟩)
  · simpa [hi] using h
set_option maxRecDepth 65536 in
theorem w_c0 : (Jvm.Cond.code x code maxLocals ret).before args0 about1 = true := code_word (m := ⟨1, 1⟩) (meth := k1m1) (c := k1c1) (by decide +kernel) rfl rfl rfl (by decide +kernel)
set_option maxRecDepth 65536 in
theorem w_c1 : (Jvm.Cond.code ({ cls := "com/example/careful_ledger/carefulledger/RowPages", name := "<init>", desc := "(I)V" } : Jvm.MethodName) prog_36_method_1_code (2 : Nat) (Option.none : Option Jvm.ClassFile.FieldType)).before args0 about1 = true := code_word (m := ⟨2, 0⟩) (meth := k2m0) (c := k2c0) (by decide +kernel) rfl rfl rfl (by decide +kernel)
set_option maxRecDepth 65536 in
theorem w_c2 : (Jvm.Cond.code ({ cls := "java/lang/Object", name := "<init>", desc := "()V" } : Jvm.MethodName) object_method_1_code (1 : Nat) (Option.none : Option Jvm.ClassFile.FieldType)).before args0 about1 = true := code_word (m := ⟨0, 0⟩) (meth := k0m0) (c := k0c0) (by decide +kernel) rfl rfl rfl (by decide +kernel)
set_option maxRecDepth 65536 in
theorem w_c3 : (Jvm.Cond.code ({ cls := "com/example/careful_ledger/carefulledger/UnreadRuns", name := "<init>", desc := "()V" } : Jvm.MethodName) prog_54_method_1_code (1 : Nat) (Option.none : Option Jvm.ClassFile.FieldType)).before args0 about1 = true := code_word (m := ⟨4, 0⟩) (meth := k4m0) (c := k4c0) (by decide +kernel) rfl rfl rfl (by decide +kernel)
set_option maxRecDepth 65536 in
theorem w_c4 : (Jvm.Cond.code ({ cls := "java/util/ArrayList", name := "<init>", desc := "()V" } : Jvm.MethodName) jdk_38_method_2_code (1 : Nat) (Option.none : Option Jvm.ClassFile.FieldType)).before args0 about1 = true := code_word (m := ⟨14, 0⟩) (meth := k14m0) (c := k14c0) (by decide +kernel) rfl rfl rfl (by decide +kernel)
set_option maxRecDepth 65536 in
theorem w_c5 : (Jvm.Cond.code ({ cls := "java/util/AbstractList", name := "<init>", desc := "()V" } : Jvm.MethodName) jdk_39_method_1_code (1 : Nat) (Option.none : Option Jvm.ClassFile.FieldType)).before args0 about1 = true := code_word (m := ⟨10, 0⟩) (meth := k10m0) (c := k10c0) (by decide +kernel) rfl rfl rfl (by decide +kernel)
set_option maxRecDepth 65536 in
theorem w_c6 : (Jvm.Cond.code ({ cls := "java/util/AbstractCollection", name := "<init>", desc := "()V" } : Jvm.MethodName) jdk_22_method_1_code (1 : Nat) (Option.none : Option Jvm.ClassFile.FieldType)).before args0 about1 = true := code_word (m := ⟨7, 0⟩) (meth := k7m0) (c := k7c0) (by decide +kernel) rfl rfl rfl (by decide +kernel)
set_option maxRecDepth 65536 in
theorem w_c7 : (Jvm.Cond.code ({ cls := "java/lang/Integer", name := "bitCount", desc := "(I)I" } : Jvm.MethodName) jdk_33_method_49_code (1 : Nat) (Option.some Jvm.ClassFile.FieldType.int)).before args0 about1 = true := code_word (m := ⟨19, 1⟩) (meth := k19m1) (c := k19c1) (by decide +kernel) rfl rfl rfl (by decide +kernel)
set_option maxRecDepth 65536 in
theorem w_c8 : (Jvm.Cond.code ({ cls := "java/lang/Integer", name := "numberOfTrailingZeros", desc := "(I)I" } : Jvm.MethodName) jdk_33_method_48_code (2 : Nat) (Option.some Jvm.ClassFile.FieldType.int)).before args0 about1 = true := code_word (m := ⟨19, 0⟩) (meth := k19m0) (c := k19c0) (by decide +kernel) rfl rfl rfl (by decide +kernel)
set_option maxRecDepth 65536 in
theorem w_c9 : (Jvm.Cond.code ({ cls := "com/example/careful_ledger/carefulledger/RowPages", name := "start", desc := "(I)I" } : Jvm.MethodName) prog_36_method_6_code (2 : Nat) (Option.some Jvm.ClassFile.FieldType.int)).before args0 about1 = true := code_word (m := ⟨2, 1⟩) (meth := k2m1) (c := k2c1) (by decide +kernel) rfl rfl rfl (by decide +kernel)
def codes1 : List Jvm.Cond := [Jvm.Cond.code x code maxLocals ret, Jvm.Cond.code ({ cls := "com/example/careful_ledger/carefulledger/RowPages", name := "<init>", desc := "(I)V" } : Jvm.MethodName) prog_36_method_1_code (2 : Nat) (Option.none : Option Jvm.ClassFile.FieldType), Jvm.Cond.code ({ cls := "java/lang/Object", name := "<init>", desc := "()V" } : Jvm.MethodName) object_method_1_code (1 : Nat) (Option.none : Option Jvm.ClassFile.FieldType), Jvm.Cond.code ({ cls := "com/example/careful_ledger/carefulledger/UnreadRuns", name := "<init>", desc := "()V" } : Jvm.MethodName) prog_54_method_1_code (1 : Nat) (Option.none : Option Jvm.ClassFile.FieldType), Jvm.Cond.code ({ cls := "java/util/ArrayList", name := "<init>", desc := "()V" } : Jvm.MethodName) jdk_38_method_2_code (1 : Nat) (Option.none : Option Jvm.ClassFile.FieldType), Jvm.Cond.code ({ cls := "java/util/AbstractList", name := "<init>", desc := "()V" } : Jvm.MethodName) jdk_39_method_1_code (1 : Nat) (Option.none : Option Jvm.ClassFile.FieldType), Jvm.Cond.code ({ cls := "java/util/AbstractCollection", name := "<init>", desc := "()V" } : Jvm.MethodName) jdk_22_method_1_code (1 : Nat) (Option.none : Option Jvm.ClassFile.FieldType), Jvm.Cond.code ({ cls := "java/lang/Integer", name := "bitCount", desc := "(I)I" } : Jvm.MethodName) jdk_33_method_49_code (1 : Nat) (Option.some Jvm.ClassFile.FieldType.int), Jvm.Cond.code ({ cls := "java/lang/Integer", name := "numberOfTrailingZeros", desc := "(I)I" } : Jvm.MethodName) jdk_33_method_48_code (2 : Nat) (Option.some Jvm.ClassFile.FieldType.int), Jvm.Cond.code ({ cls := "com/example/careful_ledger/carefulledger/RowPages", name := "start", desc := "(I)I" } : Jvm.MethodName) prog_36_method_6_code (2 : Nat) (Option.some Jvm.ClassFile.FieldType.int)]
set_option maxRecDepth 65536 in
theorem codes_eq : words1.filter isCode = codes1 := rfl
theorem w_codes : ∀ c ∈ words1.filter isCode, c.before args0 about1 = true := by
  rw [codes_eq]
  intro c hc
  simp only [codes1, List.mem_cons, List.not_mem_nil, or_false] at hc
  rcases hc with rfl | rfl | rfl | rfl | rfl | rfl | rfl | rfl | rfl | rfl
  · exact w_c0
  · exact w_c1
  · exact w_c2
  · exact w_c3
  · exact w_c4
  · exact w_c5
  · exact w_c6
  · exact w_c7
  · exact w_c8
  · exact w_c9
set_option maxRecDepth 65536 in
theorem w_t1 : (words1.take 24).all (fun c => isCode c || c.before args0 about1) = true := by decide +kernel
set_option maxRecDepth 65536 in
theorem w_t2 : ((words1.drop 24).take 24).all (fun c => isCode c || c.before args0 about1) = true := by decide +kernel
set_option maxRecDepth 65536 in
theorem w_t3 : (((words1.drop 24).drop 24).take 24).all (fun c => isCode c || c.before args0 about1) = true := by decide +kernel
set_option maxRecDepth 65536 in
theorem w_t4 : (((words1.drop 24).drop 24).drop 24).all (fun c => isCode c || c.before args0 about1) = true := by decide +kernel
theorem w_tables : (allAtoms (Jvm.Cond.code x code maxLocals ret :: tables_1)).before args0 about1 = true := by
  rw [allAtoms_all]
  show words1.all (fun c => c.before args0 about1) = true
  refine all_split ?_ w_codes
  rw [← List.take_append_drop 24 words1, List.all_append, w_t1, ← List.take_append_drop 24 (words1.drop 24), List.all_append, w_t2, ← List.take_append_drop 24 ((words1.drop 24).drop 24), List.all_append, w_t3, w_t4]
  rfl
set_option maxRecDepth 65536 in
theorem w_rest : rest_1_c.before args0 about1 = true := by decide +kernel
set_option maxRecDepth 65536 in
theorem w_case : (Jvm.Cond.and given_1 narrow_1).before args0 about1 = true := by decide +kernel
theorem w_applies : (headSpec (Jvm.Cond.code x code maxLocals ret :: tables_1) room_1).applies x e0.platform about1 = true :=
  (Spec.applies_iff w_frames).mpr ⟨w_running, w_runnable, w_alone, w_named, w_hears, w_ripe, w_room, w_tables⟩
theorem atStart : AtStart classFile x code maxLocals ret World_1 tables_1 room_1 Calls_1 rest_1 Pre_1 launch0 p0 e0 about1 theMethod args0 below0 :=
  ⟨lists_1, trivial, launch0.admits_env _ _ _, launch0.least_env, fairChoices_fair.cas, fairChoices_fair.clock, w_frames, w_args, w_heap, w_applies, trivial, w_rest, w_case⟩
end start1
theorem witness_1 : WitnessClaimed_1 := ⟨start1.p0, start1.e0, start1.about1, start1.theMethod, start1.args0, start1.below0, start1.atStart⟩
end Jvm.Pilot.@@N@@
