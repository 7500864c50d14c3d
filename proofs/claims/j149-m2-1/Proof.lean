import JvmDerived
import JvmDerived.Pilot.@@N@@Statement
import JvmDerived.Pilot.@@N@@Code
set_option linter.unusedVariables false
set_option linter.unusedSimpArgs false
namespace Jvm.RoadKit
open Sem ClassFile Op Lib Jvm.Stand Jvm.Free Jvm.LawKit
section New
variable {p : Program} {l : Launch} {e : Env} {R : Room} {s : State} {m : MethodId} {args : Array Value} {below : List Frame} {meth : Method} {c : Code} {T : State} {locs : List Loc} {cells slots : Nat}
theorem retI (X : Stand p l e R s m args below meth c T locs cells slots) (hx : p.tables.exec = Jvm.exec) {pc : Nat} {Ls : Array Slot} {z : Int32} {rest : List Value} (hret : meth.sig.returnType = some .int) (hd : decode c.code pc = .ok (.ireturn, 1)) {fs : List Frame}
    (hl : ∀ (f : JFrame) (acts : List Action), f.method = m → f.locked = none → f.entered = [] → (doReturn e (T.setTop f) acts (some (.int z))).1 = T.setFrames fs) : Steps p.tables e below (T.setTop (mkF m pc Ls (.int z :: rest))) (T.setFrames fs) := by
  have hm' : T.vm.method? m = some meth := X.method'
  have hn : narrow .int (.int z) = .int z := rfl
  show Steps p.tables e below (T.setTop { method := m, pc := pc, locals := Ls, stack := _ :: rest, locked := none }) _
  jvm_step X.here [X.here.top, hx, hd, hm', hret, hn]
  first | (intro acts; rw [hl _ acts rfl rfl rfl]) | rw [hl _ _ rfl rfl rfl]
  exact Steps.refl _
end New
end Jvm.RoadKit
/- laws to paste: Road.backV (cut by pick.py; bodies as the Statement names them) -/
namespace Jvm.Pilot.@@N@@
namespace StrChars
open Jvm Sem ClassFile Op Lib Jvm.Stand Jvm.Free.XT Jvm.Free.ALB Jvm.Free.JM Jvm.Free
open Jvm.Lib.Cold (StaticIs)
/-- a char array whose places are chars -/
def Ch (a : Addr) (A : Cell) (U : State) : Prop := Arr .char a A U ∧ Typed .char A
theorem Ch.mv {a : Addr} {A : Cell} {U U' : State} (h : Ch a A U) (hal : U.vm.Alike U'.vm) (hh : U'.heap = U.heap) : Ch a A U' := ⟨h.1.mv hal hh, h.2⟩
theorem Ch.keep {a : Addr} {A : Cell} {U U' : State} (h : Ch a A U) (hal : U.vm.Alike U'.vm) (hk : U'.heap[a]? = some A) : Ch a A U' := ⟨h.1.keep hal hk, h.2⟩
/-- what place i of a char[]'s cell holds -/
def cv (A : Cell) (i : Nat) : Int32 := match A.slots[i]? with | some (.int x) => x | _ => 0
theorem Ch.get {a : Addr} {A : Cell} {U : State} (h : Ch a A U) {i : Nat} (hi : i < A.slots.size) : A.slots[i]? = some (.int (cv A i)) := by
  have e := Array.getElem?_eq_getElem hi
  have f := h.2 i _ e
  unfold cv; rw [e]
  generalize A.slots[i] = v at f
  cases v <;> simp [fits] at f ⊢
/-- the byte that i2b leaves of a char -/
def lo8 (x : Int32) : Int32 := x.toInt8.toInt32
theorem fits_lo8 (y : Int32) : fits .byte (.int (lo8 y)) = true := by
  have h1 := y.toInt8.le_toInt
  have h2 := y.toInt8.toInt_lt
  simp only [lo8, fits, Bool.and_eq_true, decide_eq_true_eq, Int32.le_iff_toInt_le, Int8.toInt_toInt32, show (-128 : Int32).toInt = -128 from by decide, show (127 : Int32).toInt = 127 from by decide]
  omega
/-- A' is A but that each place j of lo .. hi - 1 holds f j -/
def Laid (A A' : Cell) (lo hi : Nat) (f : Nat → Value) : Prop := A'.cls = A.cls ∧ A'.vm = A.vm ∧ A'.slots.size = A.slots.size ∧ ∀ i, A'.slots[i]? = if lo ≤ i ∧ i < hi then some (f i) else A.slots[i]?
theorem Laid.zero (A : Cell) (lo : Nat) (f : Nat → Value) : Laid A A lo (lo + 0) f := ⟨rfl, rfl, rfl, fun i => by rw [if_neg (by omega)]⟩
theorem Laid.step {A Ak : Cell} {lo k : Nat} {f : Nat → Value} {v : Value} (h : Laid A Ak lo k f) (hlo : lo ≤ k) (hk : k < Ak.slots.size) (hv : v = f k) : Laid A (Ak.setSlot k v) lo (k + 1) f := by
  refine ⟨h.1, h.2.1, by simpa [Cell.setSlot] using h.2.2.1, fun i => ?_⟩
  by_cases e : k = i
  · subst e; rw [Cell.slots_setSlot_self v hk, if_pos (by omega), hv]
  · rw [Cell.slots_setSlot_ne v e, h.2.2.2 i]
    by_cases q : lo ≤ i ∧ i < k
    · rw [if_pos q, if_pos (by omega)]
    · rw [if_neg q, if_neg (by omega)]
def U16 : String := "java/lang/StringUTF16"
namespace Cmp5
def yN : MethodName := ⟨"java/lang/StringUTF16", "compress", "([CI[BII)I"⟩
abbrev yB : ByteArray := jdk_52_method_21_code
theorem d0 : decode yB 0 = .ok (.iconst 0, 1) := by decide +kernel
theorem d1 : decode yB 1 = .ok (.istore 5, 2) := by decide +kernel
theorem d3 : decode yB 3 = .ok (.iload 5, 2) := by decide +kernel
theorem d5 : decode yB 5 = .ok (.iload 4, 2) := by decide +kernel
theorem d7 : decode yB 7 = .ok (.if_icmp (.ge) 37, 3) := by decide +kernel
theorem d10 : decode yB 10 = .ok (.aload_n 0, 1) := by decide +kernel
theorem d11 : decode yB 11 = .ok (.iload_n 1, 1) := by decide +kernel
theorem d12 : decode yB 12 = .ok (.caload, 1) := by decide +kernel
theorem d13 : decode yB 13 = .ok (.istore 6, 2) := by decide +kernel
theorem d15 : decode yB 15 = .ok (.iload 6, 2) := by decide +kernel
theorem d17 : decode yB 17 = .ok (.sipush 255, 3) := by decide +kernel
theorem d20 : decode yB 20 = .ok (.if_icmp (.le) 6, 3) := by decide +kernel
theorem d26 : decode yB 26 = .ok (.aload_n 2, 1) := by decide +kernel
theorem d27 : decode yB 27 = .ok (.iload_n 3, 1) := by decide +kernel
theorem d28 : decode yB 28 = .ok (.iload 6, 2) := by decide +kernel
theorem d30 : decode yB 30 = .ok (.i2b, 1) := by decide +kernel
theorem d31 : decode yB 31 = .ok (.bastore, 1) := by decide +kernel
theorem d32 : decode yB 32 = .ok (.iinc 1 1, 3) := by decide +kernel
theorem d35 : decode yB 35 = .ok (.iinc 3 1, 3) := by decide +kernel
theorem d38 : decode yB 38 = .ok (.iinc 5 1, 3) := by decide +kernel
theorem d41 : decode yB 41 = .ok (.goto (-38), 3) := by decide +kernel
theorem d44 : decode yB 44 = .ok (.iload 4, 2) := by decide +kernel
theorem d46 : decode yB 46 = .ok (.ireturn, 1) := by decide +kernel
def site : List Cond := []
def tab : Cond := tabOf yN yB 7 (some .int) site
def P (b : Addr) (A : Cell) (d : Addr) (B : Cell) (o q len : Nat) (args : Array Value) (s : State) : Prop := args = #[.ref b, .int (Int32.ofNat o), .ref d, .int (Int32.ofNat q), .int (Int32.ofNat len)] ∧ Ch b A s ∧ Arr .byte d B s ∧ b ≠ d ∧ o + len ≤ A.slots.size ∧ q + len ≤ B.slots.size ∧ ∀ i, i < len → ¬ 255 < cv A (o + i)
def E (b : Addr) (A : Cell) (d : Addr) (B : Cell) (o q len : Nat) (r : Option Value) (s u : State) : Prop := r = some (.int (Int32.ofNat len)) ∧ ∃ B', Put d B' s u ∧ Laid B B' q (q + len) (fun j => Value.int (lo8 (cv A (o + (j - q)))))
/-- no char of the range above 255: len; the places written hold each char's low byte -/
theorem law (l : Launch) (b : Addr) (A : Cell) (d : Addr) (B : Cell) (o q len : Nat) : Law l yN 5 5 0 0 yB 7 (some .int) site (P b A d B o q len) (E b A d B o q len) (copyLocs d q len) 0 0 := by
  refine Law.of_walk (plainFor_of_name (by decide +kernel)) (by decide +kernel) (by decide +kernel) (by decide) (fun _ _ h => by rw [h.1]; rfl) (fun _ U U' hal hh h => ⟨h.1, h.2.1.mv hal hh, h.2.2.1.mv hal hh, h.2.2.2⟩) (fun r U U' V V' h1 hal h2 h => ⟨h.1, h.2.elim fun B' q => ⟨B', q.1.mv h1 h2, q.2⟩⟩) ?_
  intro p e s m args below meth c s₁ X0 hexec hbytes hml hret hlk hnm hown hh0 W hP
  obtain ⟨rfl, hA, hB, hne, l1, l2, hp⟩ := hP
  have c1 : Steps p.tables e below (s₁.setTop (entryFrame m #[.ref b, .int (Int32.ofNat o), .ref d, .int (Int32.ofNat q), .int (Int32.ofNat len)] 7)) (s₁.setTop (mkF m 0 #[.val (.ref b), .val (.int (Int32.ofNat o)), .val (.ref d), .val (.int (Int32.ofNat q)), .val (.int (Int32.ofNat len)), .unset, .unset] [])) := entry rfl
  have hA0 := hA.1.mv X0.warmed.alike hh0
  have hB0 := hB.mv X0.warmed.alike hh0
  have a31 := hA.1.2.2.2
  have c2 : Steps p.tables e below (s₁.setTop (entryFrame m #[.ref b, .int (Int32.ofNat o), .ref d, .int (Int32.ofNat q), .int (Int32.ofNat len)] 7)) (s₁.setTop (mkF m 3 #[.val (.ref b), .val (.int (Int32.ofNat o)), .val (.ref d), .val (.int (Int32.ofNat q)), .val (.int (Int32.ofNat len)), .val (.int 0), .unset] [])) := c1.trans (by
    refine iconstV X0.here hexec rfl 0 (hb hbytes d0) (by decide) ?_
    refine XS.istore X0.here hexec rfl (hb hbytes d1) rfl rfl ?_
    exact Steps.refl _)
  have loop : ∀ (r i : Nat), i + r = len → ∀ (z : Slot), (z = .unset ∨ ∃ w, z = .val w ∧ w.category = 1) → ∀ (Tl : State) (Bk : Cell), Stand p l e { frames := 0, locals := 0, cells := 0, slots := 0 } s m #[.ref b, .int (Int32.ofNat o), .ref d, .int (Int32.ofNat q), .int (Int32.ofNat len)] below meth c Tl ([] ++ copyLocs d q i) 0 0 → Put d Bk s₁ Tl → Laid B Bk q (q + i) (fun j => Value.int (lo8 (cv A (o + (j - q))))) →
      Steps p.tables e below (s₁.setTop (entryFrame m #[.ref b, .int (Int32.ofNat o), .ref d, .int (Int32.ofNat q), .int (Int32.ofNat len)] 7)) (Tl.setTop (mkF m 3 #[.val (.ref b), .val (.int (Int32.ofNat (o + i))), .val (.ref d), .val (.int (Int32.ofNat (q + i))), .val (.int (Int32.ofNat len)), .val (.int (Int32.ofNat i)), z] [])) → ∃ (T' : State) (B' : Cell) (z' : Slot), Stand p l e { frames := 0, locals := 0, cells := 0, slots := 0 } s m #[.ref b, .int (Int32.ofNat o), .ref d, .int (Int32.ofNat q), .int (Int32.ofNat len)] below meth c T' ([] ++ copyLocs d q len) 0 0 ∧ Put d B' s₁ T' ∧ Laid B B' q (q + len) (fun j => Value.int (lo8 (cv A (o + (j - q))))) ∧
      Steps p.tables e below (s₁.setTop (entryFrame m #[.ref b, .int (Int32.ofNat o), .ref d, .int (Int32.ofNat q), .int (Int32.ofNat len)] 7)) (T'.setTop (mkF m 3 #[.val (.ref b), .val (.int (Int32.ofNat (o + len))), .val (.ref d), .val (.int (Int32.ofNat (q + len))), .val (.int (Int32.ofNat len)), .val (.int (Int32.ofNat len)), z'] [])) := by
    intro r
    induction r with
    | zero =>
      intro i hi z hz Tl Bk Xl pl fl cl
      have hil : i = len := by omega
      rw [hil] at Xl fl cl
      exact ⟨Tl, Bk, z, Xl, pl, fl, cl⟩
    | succ r ih =>
      intro i hi z hz Tl Bk Xl pl fl cl
      have all := X0.warmed.alike.symm.trans Xl.warmed.alike
      have hAl := hA0.keep all (pl.other hne hA0.1)
      have hBk := hB0.like all pl.1 fl.1 fl.2.1 fl.2.2.1
      have hlt : q + i < Bk.slots.size := by rw [fl.2.2.1]; omega
      have c3 : Steps p.tables e below (s₁.setTop (entryFrame m #[.ref b, .int (Int32.ofNat o), .ref d, .int (Int32.ofNat q), .int (Int32.ofNat len)] 7)) (Tl.setTop (mkF m 12 #[.val (.ref b), .val (.int (Int32.ofNat (o + i))), .val (.ref d), .val (.int (Int32.ofNat (q + i))), .val (.int (Int32.ofNat len)), .val (.int (Int32.ofNat i)), z] [.int (Int32.ofNat (o + i)), .ref b])) := cl.trans (by
        refine XS.iload Xl.here hexec rfl (hb hbytes d3) rfl ?_
        refine XS.iload Xl.here hexec rfl (hb hbytes d5) rfl ?_
        refine XS.icmpNo Xl.here hexec rfl (hb hbytes d7) rfl (ii_ge_f (lt32 (by omega) (by omega))) ?_
        refine XS.aloadN Xl.here hexec rfl (hb hbytes d10) rfl rfl ?_
        refine XS.iloadN Xl.here hexec rfl (hb hbytes d11) rfl ?_
        exact Steps.refl _)
      have c4 : Steps p.tables e below (s₁.setTop (entryFrame m #[.ref b, .int (Int32.ofNat o), .ref d, .int (Int32.ofNat q), .int (Int32.ofNat len)] 7)) (Tl.setTop (mkF m 13 #[.val (.ref b), .val (.int (Int32.ofNat (o + i))), .val (.ref d), .val (.int (Int32.ofNat (q + i))), .val (.int (Int32.ofNat len)), .val (.int (Int32.ofNat i)), z] [.int (cv A (o + i))])) := c3.trans (by
        refine Xl.aget hexec hAl rfl (hA.get (i := o + i) (by omega)) rfl rfl (hb hbytes d12) ?_
        exact Steps.refl _)
      have c5 : Steps p.tables e below (s₁.setTop (entryFrame m #[.ref b, .int (Int32.ofNat o), .ref d, .int (Int32.ofNat q), .int (Int32.ofNat len)] 7)) (Tl.setTop (mkF m 15 #[.val (.ref b), .val (.int (Int32.ofNat (o + i))), .val (.ref d), .val (.int (Int32.ofNat (q + i))), .val (.int (Int32.ofNat len)), .val (.int (Int32.ofNat i)), .val (.int (cv A (o + i)))] [])) := c4.trans (by
        refine XS.istoreS Xl.here hexec rfl (hb hbytes d13) rfl rfl hz ?_
        exact Steps.refl _)
      have c6 : Steps p.tables e below (s₁.setTop (entryFrame m #[.ref b, .int (Int32.ofNat o), .ref d, .int (Int32.ofNat q), .int (Int32.ofNat len)] 7)) (Tl.setTop (mkF m 31 #[.val (.ref b), .val (.int (Int32.ofNat (o + i))), .val (.ref d), .val (.int (Int32.ofNat (q + i))), .val (.int (Int32.ofNat len)), .val (.int (Int32.ofNat i)), .val (.int (cv A (o + i)))] [.int (lo8 (cv A (o + i))), .int (Int32.ofNat (q + i)), .ref d])) := c5.trans (by
        refine XS.iload Xl.here hexec rfl (hb hbytes d15) rfl ?_
        refine sipushV Xl.here hexec rfl 255 (hb hbytes d17) (by decide) ?_
        refine XS.icmpYes Xl.here hexec rfl (pc0 := 20) rfl (hb hbytes d20) rfl (ii_le_t (hp i (by omega))) (by decide) rfl ?_
        refine XS.aloadN Xl.here hexec rfl (hb hbytes d26) rfl rfl ?_
        refine XS.iloadN Xl.here hexec rfl (hb hbytes d27) rfl ?_
        refine XS.iload Xl.here hexec rfl (hb hbytes d28) rfl ?_
        refine i2b Xl.here hexec rfl (hb hbytes d30) rfl ?_
        exact Steps.refl _)
      obtain ⟨T7, X7, p7, st7⟩ := Xl.aput hexec hBk rfl hlt rfl (fits_lo8 (cv A (o + i))) (g := (mkF m 31 #[.val (.ref b), .val (.int (Int32.ofNat (o + i))), .val (.ref d), .val (.int (Int32.ofNat (q + i))), .val (.int (Int32.ofNat len)), .val (.int (Int32.ofNat i)), .val (.int (cv A (o + i)))] [.int (lo8 (cv A (o + i))), .int (Int32.ofNat (q + i)), .ref d])) rfl (rest := []) rfl (hb hbytes d31)
      have c8 : Steps p.tables e below (s₁.setTop (entryFrame m #[.ref b, .int (Int32.ofNat o), .ref d, .int (Int32.ofNat q), .int (Int32.ofNat len)] 7)) (T7.setTop (mkF m 32 #[.val (.ref b), .val (.int (Int32.ofNat (o + i))), .val (.ref d), .val (.int (Int32.ofNat (q + i))), .val (.int (Int32.ofNat len)), .val (.int (Int32.ofNat i)), .val (.int (cv A (o + i)))] [])) := c6.trans (st7 _ (Steps.refl _))
      have c9 : Steps p.tables e below (s₁.setTop (entryFrame m #[.ref b, .int (Int32.ofNat o), .ref d, .int (Int32.ofNat q), .int (Int32.ofNat len)] 7)) (T7.setTop (mkF m 3 #[.val (.ref b), .val (.int (Int32.ofNat (o + i) + 1)), .val (.ref d), .val (.int (Int32.ofNat (q + i) + 1)), .val (.int (Int32.ofNat len)), .val (.int (Int32.ofNat i + 1)), .val (.int (cv A (o + i)))] [])) := c8.trans (by
        refine iincV X7.here hexec rfl 1 (hb hbytes d32) (by decide) rfl rfl ?_
        refine iincV X7.here hexec rfl 1 (hb hbytes d35) (by decide) rfl rfl ?_
        refine iincV X7.here hexec rfl 1 (hb hbytes d38) (by decide) rfl rfl ?_
        refine XS.goto X7.here hexec rfl (pc0 := 41) rfl (hb hbytes d41) (by decide) rfl ?_
        exact Steps.refl _)
      have c10 : Steps p.tables e below (s₁.setTop (entryFrame m #[.ref b, .int (Int32.ofNat o), .ref d, .int (Int32.ofNat q), .int (Int32.ofNat len)] 7)) (T7.setTop (mkF m 3 #[.val (.ref b), .val (.int (Int32.ofNat (o + (i + 1)))), .val (.ref d), .val (.int (Int32.ofNat (q + (i + 1)))), .val (.int (Int32.ofNat len)), .val (.int (Int32.ofNat (i + 1))), .val (.int (cv A (o + i)))] [])) := by
        have := c9
        rw [succ32, succ32, succ32] at this
        exact this
      exact ih (i + 1) (by omega) _ (Or.inr ⟨_, rfl, rfl⟩) T7 _ (by rw [copyLocs_step, ← List.append_assoc]; exact X7) (pl.trans p7) (fl.step (by omega) hlt (by simp)) c10
  obtain ⟨T9, B9, z9, X9, p9, f9, g9⟩ := loop len 0 (by omega) .unset (Or.inl rfl) s₁ B (by simpa [copyLocs] using X0) ⟨hB0.1, fun _ _ => rfl, rfl⟩ (Laid.zero _ _ _) c2
  have c11 : Steps p.tables e below (s₁.setTop (entryFrame m #[.ref b, .int (Int32.ofNat o), .ref d, .int (Int32.ofNat q), .int (Int32.ofNat len)] 7)) (T9.setTop (mkF m 46 #[.val (.ref b), .val (.int (Int32.ofNat (o + len))), .val (.ref d), .val (.int (Int32.ofNat (q + len))), .val (.int (Int32.ofNat len)), .val (.int (Int32.ofNat len)), z9] [.int (Int32.ofNat len)])) := g9.trans (by
    refine XS.iload X9.here hexec rfl (hb hbytes d3) rfl ?_
    refine XS.iload X9.here hexec rfl (hb hbytes d5) rfl ?_
    refine XS.icmpYes X9.here hexec rfl (pc0 := 7) rfl (hb hbytes d7) rfl (ii_ge_t (nlt32 (by omega) (Nat.le_refl _))) (by decide) rfl ?_
    refine XS.iload X9.here hexec rfl (hb hbytes d44) rfl ?_
    exact Steps.refl _)
  exact ⟨T9, some (.int (Int32.ofNat len)), _, _, _, X9, by simp, rfl, rfl, (fun h => by cases h), ⟨rfl, B9, p9.from hh0, f9⟩, fun fs hl => c11.trans (X9.ireturnOut hexec hret rfl (Or.inl rfl) (hb hbytes d46) hl)⟩
end Cmp5
namespace Cmp3
def yN : MethodName := ⟨"java/lang/StringUTF16", "compress", "([CII)[B"⟩
abbrev yB : ByteArray := jdk_52_method_16_code
theorem d0 : decode yB 0 = .ok (.iload_n 2, 1) := by decide +kernel
theorem d1 : decode yB 1 = .ok (.newarray .byte, 2) := by decide +kernel
theorem d3 : decode yB 3 = .ok (.astore_n 3, 1) := by decide +kernel
theorem d4 : decode yB 4 = .ok (.aload_n 0, 1) := by decide +kernel
theorem d5 : decode yB 5 = .ok (.iload_n 1, 1) := by decide +kernel
theorem d6 : decode yB 6 = .ok (.aload_n 3, 1) := by decide +kernel
theorem d7 : decode yB 7 = .ok (.iconst 0, 1) := by decide +kernel
theorem d8 : decode yB 8 = .ok (.iload_n 2, 1) := by decide +kernel
theorem d9 : decode yB 9 = .ok (.invokestatic 115, 3) := by decide +kernel
theorem d12 : decode yB 12 = .ok (.istore 4, 2) := by decide +kernel
theorem d14 : decode yB 14 = .ok (.iload 4, 2) := by decide +kernel
theorem d16 : decode yB 16 = .ok (.iload_n 2, 1) := by decide +kernel
theorem d17 : decode yB 17 = .ok (.if_icmp (.eq) 40, 3) := by decide +kernel
theorem d57 : decode yB 57 = .ok (.aload_n 3, 1) := by decide +kernel
theorem d58 : decode yB 58 = .ok (.areturn, 1) := by decide +kernel
def site : List Cond := [.arrayClass .byte, Cmp5.tab] ++ staticW U16 115 Cmp5.yN
def tab : Cond := tabOf yN yB 6 (some (.array .byte)) site
def P (b : Addr) (A : Cell) (o len : Nat) (args : Array Value) (s : State) : Prop := args = #[.ref b, .int (Int32.ofNat o), .int (Int32.ofNat len)] ∧ Ch b A s ∧ o + len ≤ A.slots.size ∧ len ≤ 536870912 ∧ ∀ i, i < len → ¬ 255 < cv A (o + i)
def E (b : Addr) (A : Cell) (o len : Nat) (r : Option Value) (s u : State) : Prop := NewArr .byte "[B" len (fun j => .int (lo8 (cv A (o + j)))) r s u ∧ u.heap.size = s.heap.size + 1
/-- no char of the range above 255: a new byte[] of their low bytes -/
theorem law (l : Launch) (b : Addr) (A : Cell) (o len : Nat) : Law l yN 3 3 1 18 yB 6 (some (.array .byte)) site (P b A o len) (E b A o len) [] 1 len := by
  refine Law.of_walk (plainFor_of_name (by decide +kernel)) (by decide +kernel) (by decide +kernel) (by decide) (fun _ _ h => by rw [h.1]; rfl) (fun _ U U' hal hh h => ⟨h.1, h.2.1.mv hal hh, h.2.2⟩) (fun r U U' V V' h1 hal h2 h => ⟨NewArr.mv r U U' V V' h1 hal h2 h.1, by rw [h1, h2]; exact h.2⟩) ?_
  intro p e s m args below meth c s₁ X0 hexec hbytes hml hret hlk hnm hown hh0 W hP
  obtain ⟨rfl, hA, l1, l2, hp⟩ := hP
  have a31 := hA.1.2.2.2
  have c1 : Steps p.tables e below (s₁.setTop (entryFrame m #[.ref b, .int (Int32.ofNat o), .int (Int32.ofNat len)] 6)) (s₁.setTop (mkF m 0 #[.val (.ref b), .val (.int (Int32.ofNat o)), .val (.int (Int32.ofNat len)), .unset, .unset, .unset] [])) := entry rfl
  have c2 : Steps p.tables e below (s₁.setTop (entryFrame m #[.ref b, .int (Int32.ofNat o), .int (Int32.ofNat len)] 6)) (s₁.setTop (mkF m 1 #[.val (.ref b), .val (.int (Int32.ofNat o)), .val (.int (Int32.ofNat len)), .unset, .unset, .unset] [.int (Int32.ofNat len)])) := c1.trans (by
    refine XS.iloadN X0.here hexec rfl (hb hbytes d0) rfl ?_
    exact Steps.refl _)
  obtain ⟨T3, B3, X3, ba3, bs3, bv3, bh3, bf3, st3⟩ := X0.anew hexec (atype := .byte) (wk W (.arrayClass .byte)) rfl (by show len * 1 ≤ _; omega) (by omega) (g := (mkF m 1 #[.val (.ref b), .val (.int (Int32.ofNat o)), .val (.int (Int32.ofNat len)), .unset, .unset, .unset] [.int (Int32.ofNat len)])) rfl (hb hbytes d1) (rest := []) rfl (Nat.le_refl _) (by show 0 + len ≤ len; omega)
  rw [hh0] at ba3 st3
  have kp3 : XT.Kept s T3 := (XT.Kept.of_eq hh0).push bh3
  have hA3 := hA.keep X3.warmed.alike (kp3 _ _ hA.1.1)
  have hne : b ≠ s.heap.size := hA.1.ne
  have c4 : Steps p.tables e below (s₁.setTop (entryFrame m #[.ref b, .int (Int32.ofNat o), .int (Int32.ofNat len)] 6)) (T3.setTop (mkF m 3 #[.val (.ref b), .val (.int (Int32.ofNat o)), .val (.int (Int32.ofNat len)), .unset, .unset, .unset] [.ref s.heap.size])) := c2.trans (st3 _ (Steps.refl _))
  have c5 : Steps p.tables e below (s₁.setTop (entryFrame m #[.ref b, .int (Int32.ofNat o), .int (Int32.ofNat len)] 6)) (T3.setTop (mkF m 9 #[.val (.ref b), .val (.int (Int32.ofNat o)), .val (.int (Int32.ofNat len)), .val (.ref s.heap.size), .unset, .unset] [.int (Int32.ofNat len), .int 0, .ref s.heap.size, .int (Int32.ofNat o), .ref b])) := c4.trans (by
    refine XS.astoreN X3.here hexec rfl (hb hbytes d3) rfl rfl rfl ?_
    refine XS.aloadN X3.here hexec rfl (hb hbytes d4) rfl rfl ?_
    refine XS.iloadN X3.here hexec rfl (hb hbytes d5) rfl ?_
    refine XS.aloadN X3.here hexec rfl (hb hbytes d6) rfl rfl ?_
    refine iconstV X3.here hexec rfl 0 (hb hbytes d7) (by decide) ?_
    refine XS.iloadN X3.here hexec rfl (hb hbytes d8) rfl ?_
    exact Steps.refl _)
  obtain ⟨v6, T6, X6, E6, g6⟩ := X3.callS hexec (Cmp5.law l b A s.heap.size B3 o 0 len) hown (wks W (staticW U16 115 Cmp5.yN)) (wk W Cmp5.tab) (W := 0) (Nat.le_of_ble_eq_true rfl) (Nat.le_of_ble_eq_true rfl) (Nat.le_refl _) (by show 0 + len + 0 ≤ len; omega) (g := (mkF m 9 #[.val (.ref b), .val (.int (Int32.ofNat o)), .val (.int (Int32.ofNat len)), .val (.ref s.heap.size), .unset, .unset] [.int (Int32.ofNat len), .int (Int32.ofNat 0), .ref s.heap.size, .int (Int32.ofNat o), .ref b])) rfl (by rw [hml]; rfl) c5 (argsL := [.ref b, .int (Int32.ofNat o), .ref s.heap.size, .int (Int32.ofNat 0), .int (Int32.ofNat len)]) (rest := []) rfl rfl (by show 2 * 0 + 0 ≤ _; decide) (hb hbytes d9) (⟨rfl, hA3, ba3, hne, l1, by rw [bs3]; simp, hp⟩)
  obtain ⟨rfl, B6, p6, f6⟩ := E6
  have c7 : Steps p.tables e below (s₁.setTop (entryFrame m #[.ref b, .int (Int32.ofNat o), .int (Int32.ofNat len)] 6)) (T6.setTop (mkF m 12 #[.val (.ref b), .val (.int (Int32.ofNat o)), .val (.int (Int32.ofNat len)), .val (.ref s.heap.size), .unset, .unset] [.int (Int32.ofNat len)])) := g6
  have c8 : Steps p.tables e below (s₁.setTop (entryFrame m #[.ref b, .int (Int32.ofNat o), .int (Int32.ofNat len)] 6)) (T6.setTop (mkF m 58 #[.val (.ref b), .val (.int (Int32.ofNat o)), .val (.int (Int32.ofNat len)), .val (.ref s.heap.size), .val (.int (Int32.ofNat len)), .unset] [.ref s.heap.size])) := c7.trans (by
    refine XS.istore X6.here hexec rfl (hb hbytes d12) rfl rfl ?_
    refine XS.iload X6.here hexec rfl (hb hbytes d14) rfl ?_
    refine XS.iloadN X6.here hexec rfl (hb hbytes d16) rfl ?_
    refine XS.icmpYes X6.here hexec rfl (pc0 := 17) rfl (hb hbytes d17) rfl (ii_eq_t rfl) (by decide) rfl ?_
    refine XS.aloadN X6.here hexec rfl (hb hbytes d57) rfl rfl ?_
    exact Steps.refl _)
  have X8 := X6.wide (L' := []) (cells' := 1) (slots' := len) (fun x hx hlt => by
    simp only [List.nil_append, copyLocs, List.mem_map, List.mem_range] at hx
    obtain ⟨i, -, rfl⟩ := hx
    exact absurd hlt (Nat.lt_irrefl _)) (Nat.le_refl _) (by omega)
  exact ⟨T6, some (.ref s.heap.size), _, _, _, X8, rfl, rfl, rfl, (fun h => by cases h), ⟨⟨rfl, B6, ba3.like (X3.warmed.alike.symm.trans X6.warmed.alike) p6.1 f6.1 f6.2.1 f6.2.2.1, f6.2.1.trans bv3, by rw [X6.warmed.alike.findClass, f6.1]; exact bf3, by rw [f6.2.2.1, bs3]; simp, fun j hj => by rw [f6.2.2.2 j, if_pos (by omega)]; rfl, kp3.put p6 (Nat.le_refl _)⟩, by rw [p6.2.2, bh3, hh0]; simp⟩, fun fs hl => c8.trans (X8.areturnOut hexec rfl hret rfl (hb hbytes d58) hl)⟩
end Cmp3
namespace CodL
def yN : MethodName := ⟨"java/lang/StringUTF16", "coderFromArrayLen", "([BI)B"⟩
abbrev yB : ByteArray := jdk_52_method_15_code
theorem d0 : decode yB 0 = .ok (.iload_n 1, 1) := by decide +kernel
theorem d1 : decode yB 1 = .ok (.aload_n 0, 1) := by decide +kernel
theorem d2 : decode yB 2 = .ok (.arraylength, 1) := by decide +kernel
theorem d3 : decode yB 3 = .ok (.isub, 1) := by decide +kernel
theorem d4 : decode yB 4 = .ok (.bipush 31, 2) := by decide +kernel
theorem d6 : decode yB 6 = .ok (.iushr, 1) := by decide +kernel
theorem d7 : decode yB 7 = .ok (.i2b, 1) := by decide +kernel
theorem d8 : decode yB 8 = .ok (.ireturn, 1) := by decide +kernel
def site : List Cond := []
def tab : Cond := tabOf yN yB 2 (some .byte) site
def P (d : Addr) (B : Cell) (args : Array Value) (s : State) : Prop := args = #[.ref d, .int (Int32.ofNat B.slots.size)] ∧ Arr .byte d B s
def E (r : Option Value) (s u : State) : Prop := XT.PureE (some (.int 0)) r s u
/-- an array as long as the number of chars: LATIN1 -/
theorem law (l : Launch) (d : Addr) (B : Cell) : Law l yN 2 2 0 0 yB 2 (some .byte) site (P d B) E [] 0 0 := by
  refine Law.of_walk (plainFor_of_name (by decide +kernel)) (by decide +kernel) (by decide +kernel) (by decide) (fun _ _ h => by rw [h.1]; rfl) (fun _ U U' hal hh h => ⟨h.1, h.2.mv hal hh⟩) (fun r U U' V V' h1 hal h2 h => XT.PureE.mv r U U' V V' h1 hal h2 h) ?_
  intro p e s m args below meth c s₁ X0 hexec hbytes hml hret hlk hnm hown hh0 W hP
  obtain ⟨rfl, hB⟩ := hP
  have hB0 := hB.mv X0.warmed.alike hh0
  have c1 : Steps p.tables e below (s₁.setTop (entryFrame m #[.ref d, .int (Int32.ofNat B.slots.size)] 2)) (s₁.setTop (mkF m 0 #[.val (.ref d), .val (.int (Int32.ofNat B.slots.size))] [])) := entry rfl
  have c2 : Steps p.tables e below (s₁.setTop (entryFrame m #[.ref d, .int (Int32.ofNat B.slots.size)] 2)) (s₁.setTop (mkF m 2 #[.val (.ref d), .val (.int (Int32.ofNat B.slots.size))] [.ref d, .int (Int32.ofNat B.slots.size)])) := c1.trans (by
    refine XS.iloadN X0.here hexec rfl (hb hbytes d0) rfl ?_
    refine XS.aloadN X0.here hexec rfl (hb hbytes d1) rfl rfl ?_
    exact Steps.refl _)
  have c3 : Steps p.tables e below (s₁.setTop (entryFrame m #[.ref d, .int (Int32.ofNat B.slots.size)] 2)) (s₁.setTop (mkF m 8 #[.val (.ref d), .val (.int (Int32.ofNat B.slots.size))] [.int (lo8 (ushr (Int32.ofNat B.slots.size - Int32.ofNat B.slots.size) 31))])) := c2.trans (by
    refine X0.alen hexec hB0 rfl rfl (hb hbytes d2) ?_
    refine XS.isub X0.here hexec rfl (hb hbytes d3) rfl ?_
    refine bipushV X0.here hexec rfl 31 (hb hbytes d4) (by decide) ?_
    refine iushr X0.here hexec rfl (hb hbytes d6) rfl ?_
    refine i2b X0.here hexec rfl (hb hbytes d7) rfl ?_
    exact Steps.refl _)
  have e0 : lo8 (ushr (Int32.ofNat B.slots.size - Int32.ofNat B.slots.size) 31) = 0 := by rw [Int32.sub_self]; decide
  rw [e0] at c3
  exact ⟨s₁, some (.int 0), _, _, _, X0, rfl, rfl, rfl, (fun h => by cases h), ⟨rfl, hh0⟩, fun fs hl => c3.trans (X0.ireturnOut hexec hret rfl (Or.inr (Or.inr (Or.inl rfl))) (hb hbytes d8) hl)⟩
end CodL
/-- the String at a is Latin-1 over a new byte[] (the heap's one new cell): the low bytes of the len chars of A from o on; every cell but a is kept -/
def Got (a : Addr) (D : Cell) (fV fC : Field) (A : Cell) (o len : Nat) (r : Option Value) (s u : State) : Prop := r = none ∧ ∃ D' V : Cell, Blank "java/lang/String" a D' u ∧ Same D D' [fV.slot, fC.slot] ∧ D'.slots[fV.slot]? = some (.ref s.heap.size) ∧ D'.slots[fC.slot]? = some (.int 0) ∧ Arr .byte s.heap.size V u ∧ V.vm = .none ∧ u.vm.findClass "[B" = some V.cls ∧ V.slots.size = len ∧ (∀ j, j < len → V.slots[j]? = some (.int (lo8 (cv A (o + j))))) ∧ (∀ (y : Addr) (c : Cell), y ≠ a → s.heap[y]? = some c → u.heap[y]? = some c) ∧ u.heap.size = s.heap.size + 1
theorem Got.mv {a : Addr} {D A : Cell} {fV fC : Field} {o len : Nat} : ∀ r (U U' V V' : State), U'.heap = U.heap → V.vm.Alike V'.vm → V'.heap = V.heap → Got a D fV fC A o len r U V → Got a D fV fC A o len r U' V' :=
  fun r U U' V V' h1 hal h2 ⟨e0, D', X, a1, a2, a3, a4, a5, a6, a7, a8, a9, a10, a11⟩ => ⟨e0, D', X, a1.mv hal h2, a2, by rw [h1]; exact a3, a4, by rw [h1]; exact a5.mv hal h2, a6, by rw [hal.findClass]; exact a7, a8, a9, by rw [h1, h2]; exact a10, by rw [h1, h2]; exact a11⟩
namespace New4
def yN : MethodName := ⟨"java/lang/String", "<init>", "([CIILjava/lang/Void;)V"⟩
abbrev yB : ByteArray := jdk_42_method_149_code
theorem d0 : decode yB 0 = .ok (.aload_n 0, 1) := by decide +kernel
theorem d1 : decode yB 1 = .ok (.invokespecial 1, 3) := by decide +kernel
theorem d4 : decode yB 4 = .ok (.iload_n 3, 1) := by decide +kernel
theorem d5 : decode yB 5 = .ok (.ifCond (.ne) 22, 3) := by decide +kernel
theorem d27 : decode yB 27 = .ok (.getstatic 38, 3) := by decide +kernel
theorem d30 : decode yB 30 = .ok (.ifCond (.eq) 28, 3) := by decide +kernel
theorem d33 : decode yB 33 = .ok (.aload_n 1, 1) := by decide +kernel
theorem d34 : decode yB 34 = .ok (.iload_n 2, 1) := by decide +kernel
theorem d35 : decode yB 35 = .ok (.iload_n 3, 1) := by decide +kernel
theorem d36 : decode yB 36 = .ok (.invokestatic 177, 3) := by decide +kernel
theorem d39 : decode yB 39 = .ok (.astore 5, 2) := by decide +kernel
theorem d41 : decode yB 41 = .ok (.aload_n 0, 1) := by decide +kernel
theorem d42 : decode yB 42 = .ok (.aload 5, 2) := by decide +kernel
theorem d44 : decode yB 44 = .ok (.iload_n 3, 1) := by decide +kernel
theorem d45 : decode yB 45 = .ok (.invokestatic 47, 3) := by decide +kernel
theorem d48 : decode yB 48 = .ok (.putfield 15, 3) := by decide +kernel
theorem d51 : decode yB 51 = .ok (.aload_n 0, 1) := by decide +kernel
theorem d52 : decode yB 52 = .ok (.aload 5, 2) := by decide +kernel
theorem d54 : decode yB 54 = .ok (.putfield 9, 3) := by decide +kernel
theorem d57 : decode yB 57 = .ok (.return_, 1) := by decide +kernel
def site : List Cond := [.fieldLink "java/lang/String" 38 "java/lang/String" "COMPACT_STRINGS" "Z", Cmp3.tab, CodL.tab, .laysFinal "java/lang/String" "java/lang/String" "value" "[B", .fieldLink "java/lang/String" 9 "java/lang/String" "value" "[B", .laysFinal "java/lang/String" "java/lang/String" "coder" "B", .fieldLink "java/lang/String" 15 "java/lang/String" "coder" "B"] ++ objW "java/lang/String" 1 ++ staticW "java/lang/String" 177 Cmp3.yN ++ staticW "java/lang/String" 47 CodL.yN
def tab : Cond := tabOf yN yB 6 none site
def P (a : Addr) (D : Cell) (fV fC : Field) (b : Addr) (A : Cell) (z : Int32) (o len : Nat) (args : Array Value) (s : State) : Prop := args = #[.ref a, .ref b, .int (Int32.ofNat o), .int (Int32.ofNat len), .null] ∧ Blank "java/lang/String" a D s ∧ Found "java/lang/String" "value" "[B" fV s ∧ Found "java/lang/String" "coder" "B" fC s ∧ Ch b A s ∧ StaticIs s "java/lang/String" "COMPACT_STRINGS" "Z" (.int z) ∧ ¬ z = 0 ∧ 0 < len ∧ o + len ≤ A.slots.size ∧ len ≤ 536870912 ∧ ∀ i, i < len → ¬ 255 < cv A (o + i)
def E (a : Addr) (D : Cell) (fV fC : Field) (A : Cell) (o len : Nat) (r : Option Value) (s u : State) : Prop := Got a D fV fC A o len r s u
/-- len > 0, no char of the range above 255: a Latin-1 String of their low bytes -/
theorem law (l : Launch) (a : Addr) (D : Cell) (fV fC : Field) (b : Addr) (A : Cell) (z : Int32) (o len : Nat) : Law l yN 5 4 2 35 yB 6 none site (P a D fV fC b A z o len) (E a D fV fC A o len) [⟨a, fC.slot⟩, ⟨a, fV.slot⟩] 1 len := by
  refine Law.of_walk (plainFor_of_name (by decide +kernel)) (by decide +kernel) (by decide +kernel) (by decide) (fun _ _ h => by rw [h.1]; rfl) (fun _ U U' hal hh h => ⟨h.1, h.2.1.mv hal hh, h.2.2.1.al hal, h.2.2.2.1.al hal, h.2.2.2.2.1.mv hal hh, h.2.2.2.2.2.1.there hal hh, h.2.2.2.2.2.2⟩) (fun r U U' V V' h1 hal h2 h => Got.mv r U U' V V' h1 hal h2 h) ?_
  intro p e s m args below meth c s₁ X0 hexec hbytes hml hret hlk hnm hown hh0 W hP
  obtain ⟨rfl, hB, f1, f2, hA, s1, hz, l0, l1, l2, hp⟩ := hP
  have a31 := hA.1.2.2.2
  have c1 : Steps p.tables e below (s₁.setTop (entryFrame m #[.ref a, .ref b, .int (Int32.ofNat o), .int (Int32.ofNat len), .null] 6)) (s₁.setTop (mkF m 0 #[.val (.ref a), .val (.ref b), .val (.int (Int32.ofNat o)), .val (.int (Int32.ofNat len)), .val .null, .unset] [])) := entry rfl
  have c2 : Steps p.tables e below (s₁.setTop (entryFrame m #[.ref a, .ref b, .int (Int32.ofNat o), .int (Int32.ofNat len), .null] 6)) (s₁.setTop (mkF m 1 #[.val (.ref a), .val (.ref b), .val (.int (Int32.ofNat o)), .val (.int (Int32.ofNat len)), .val .null, .unset] [.ref a])) := c1.trans (by
    refine XS.aloadN X0.here hexec rfl (hb hbytes d0) rfl rfl ?_
    exact Steps.refl _)
  obtain ⟨T3, X3, q3, st3⟩ := X0.oinit hexec hown (wks W (objW "java/lang/String" 1)) (g := (mkF m 1 #[.val (.ref a), .val (.ref b), .val (.int (Int32.ofNat o)), .val (.int (Int32.ofNat len)), .val .null, .unset] [.ref a])) rfl (by rw [hml]; rfl) (rest := []) rfl (hb hbytes d1) (W := 0) (by show 2 * 0 + 0 ≤ _; decide) (Nat.le_of_ble_eq_true rfl) (Nat.le_of_ble_eq_true rfl)
  have hh3 := q3.trans hh0
  have c4 : Steps p.tables e below (s₁.setTop (entryFrame m #[.ref a, .ref b, .int (Int32.ofNat o), .int (Int32.ofNat len), .null] 6)) (T3.setTop (mkF m 27 #[.val (.ref a), .val (.ref b), .val (.int (Int32.ofNat o)), .val (.int (Int32.ofNat len)), .val .null, .unset] [])) := (c2.trans (st3 _ (Steps.refl _))).trans (by
    refine XS.iloadN X3.here hexec rfl (hb hbytes d4) rfl ?_
    refine XS.ifYes X3.here hexec rfl (pc0 := 5) rfl (hb hbytes d5) rfl (i0_ne_t (nz32 (by omega) l0)) (by decide) rfl ?_
    exact Steps.refl _)
  obtain ⟨T5, X5, q5, st5⟩ := X3.sget hexec hown (wk W (.fieldLink "java/lang/String" 38 "java/lang/String" "COMPACT_STRINGS" "Z")) s1 (fun _ _ h => by rw [hh3]; exact h) (g := (mkF m 27 #[.val (.ref a), .val (.ref b), .val (.int (Int32.ofNat o)), .val (.int (Int32.ofNat len)), .val .null, .unset] [])) rfl (hb hbytes d27)
  have hh5 := q5.trans hh3
  have c6 : Steps p.tables e below (s₁.setTop (entryFrame m #[.ref a, .ref b, .int (Int32.ofNat o), .int (Int32.ofNat len), .null] 6)) (T5.setTop (mkF m 30 #[.val (.ref a), .val (.ref b), .val (.int (Int32.ofNat o)), .val (.int (Int32.ofNat len)), .val .null, .unset] [.int z])) := c4.trans (st5 _ (Steps.refl _))
  have c7 : Steps p.tables e below (s₁.setTop (entryFrame m #[.ref a, .ref b, .int (Int32.ofNat o), .int (Int32.ofNat len), .null] 6)) (T5.setTop (mkF m 36 #[.val (.ref a), .val (.ref b), .val (.int (Int32.ofNat o)), .val (.int (Int32.ofNat len)), .val .null, .unset] [.int (Int32.ofNat len), .int (Int32.ofNat o), .ref b])) := c6.trans (by
    refine XS.ifNo X5.here hexec rfl (hb hbytes d30) rfl (i0_eq_f hz) ?_
    refine XS.aloadN X5.here hexec rfl (hb hbytes d33) rfl rfl ?_
    refine XS.iloadN X5.here hexec rfl (hb hbytes d34) rfl ?_
    refine XS.iloadN X5.here hexec rfl (hb hbytes d35) rfl ?_
    exact Steps.refl _)
  obtain ⟨v8, T8, X8, E8, g8⟩ := X5.callS hexec (Cmp3.law l b A o len) hown (wks W (staticW "java/lang/String" 177 Cmp3.yN)) (wk W Cmp3.tab) (W := 0) (Nat.le_of_ble_eq_true rfl) (Nat.le_of_ble_eq_true rfl) (Nat.le_refl _) (by show 0 + len ≤ len; omega) (g := (mkF m 36 #[.val (.ref a), .val (.ref b), .val (.int (Int32.ofNat o)), .val (.int (Int32.ofNat len)), .val .null, .unset] [.int (Int32.ofNat len), .int (Int32.ofNat o), .ref b])) rfl (by rw [hml]; rfl) c7 (argsL := [.ref b, .int (Int32.ofNat o), .int (Int32.ofNat len)]) (rest := []) rfl rfl (by show 2 * 0 + 0 ≤ _; decide) (hb hbytes d36) (⟨rfl, hA.mv X5.warmed.alike hh5, l1, l2, hp⟩)
  obtain ⟨e8, z8⟩ := E8
  obtain ⟨rfl, N, n1, n2, n3, n4, n5, n6⟩ := NewArr.mv _ T5 s _ _ hh5.symm (Vm.Alike.refl _) rfl e8
  rw [hh5] at z8
  have hB1 := hB.keep X8.warmed.alike (n6 _ _ hB.1)
  have hne : s.heap.size ≠ a := (Nat.ne_of_lt (Array.getElem?_eq_some_iff.mp hB.1).1).symm
  have c9 : Steps p.tables e below (s₁.setTop (entryFrame m #[.ref a, .ref b, .int (Int32.ofNat o), .int (Int32.ofNat len), .null] 6)) (T8.setTop (mkF m 39 #[.val (.ref a), .val (.ref b), .val (.int (Int32.ofNat o)), .val (.int (Int32.ofNat len)), .val .null, .unset] [.ref s.heap.size])) := g8
  have c10 : Steps p.tables e below (s₁.setTop (entryFrame m #[.ref a, .ref b, .int (Int32.ofNat o), .int (Int32.ofNat len), .null] 6)) (T8.setTop (mkF m 45 #[.val (.ref a), .val (.ref b), .val (.int (Int32.ofNat o)), .val (.int (Int32.ofNat len)), .val .null, .val (.ref s.heap.size)] [.int (Int32.ofNat N.slots.size), .ref s.heap.size, .ref a])) := by
    have hc : Steps p.tables e below (s₁.setTop (entryFrame m #[.ref a, .ref b, .int (Int32.ofNat o), .int (Int32.ofNat len), .null] 6)) (T8.setTop (mkF m 45 #[.val (.ref a), .val (.ref b), .val (.int (Int32.ofNat o)), .val (.int (Int32.ofNat len)), .val .null, .val (.ref s.heap.size)] [.int (Int32.ofNat len), .ref s.heap.size, .ref a])) := c9.trans (by
      refine XS.astore X8.here hexec rfl (hb hbytes d39) rfl rfl rfl ?_
      refine XS.aloadN X8.here hexec rfl (hb hbytes d41) rfl rfl ?_
      refine XS.aload X8.here hexec rfl (hb hbytes d42) rfl rfl ?_
      refine XS.iloadN X8.here hexec rfl (hb hbytes d44) rfl ?_
      exact Steps.refl _)
    rw [n4]; exact hc
  obtain ⟨v11, T11, X11, E11, g11⟩ := X8.callS hexec (CodL.law l s.heap.size N) hown (wks W (staticW "java/lang/String" 47 CodL.yN)) (wk W CodL.tab) (W := 1) (Nat.le_of_ble_eq_true rfl) (Nat.le_of_ble_eq_true rfl) (Nat.le_refl _) (by show 0 + len + 0 ≤ len; omega) (g := (mkF m 45 #[.val (.ref a), .val (.ref b), .val (.int (Int32.ofNat o)), .val (.int (Int32.ofNat len)), .val .null, .val (.ref s.heap.size)] [.int (Int32.ofNat N.slots.size), .ref s.heap.size, .ref a])) rfl (by rw [hml]; rfl) c10 (argsL := [.ref s.heap.size, .int (Int32.ofNat N.slots.size)]) (rest := [.ref a]) rfl rfl (by show 2 * 0 + (1 + 0) ≤ _; decide) (hb hbytes d45) (⟨rfl, n1⟩)
  obtain ⟨rfl, q11⟩ := E11
  have hB11 := hB1.mv (X8.warmed.alike.symm.trans X11.warmed.alike) q11
  have c12 : Steps p.tables e below (s₁.setTop (entryFrame m #[.ref a, .ref b, .int (Int32.ofNat o), .int (Int32.ofNat len), .null] 6)) (T11.setTop (mkF m 48 #[.val (.ref a), .val (.ref b), .val (.int (Int32.ofNat o)), .val (.int (Int32.ofNat len)), .val .null, .val (.ref s.heap.size)] [.int 0, .ref a])) := g11
  obtain ⟨T13, X13, p13, bl13, sl13, st13⟩ := X11.finit hexec hown (wk W (.fieldLink "java/lang/String" 15 "java/lang/String" "coder" "B")) (Or.inr ⟨_, (wk W (.laysFinal "java/lang/String" "java/lang/String" "coder" "B"))⟩) (Or.inl ⟨rfl, hnm⟩) f2 (Or.inl rfl) hB11 (t := .byte) (by decide +kernel) rfl (g := (mkF m 48 #[.val (.ref a), .val (.ref b), .val (.int (Int32.ofNat o)), .val (.int (Int32.ofNat len)), .val .null, .val (.ref s.heap.size)] [.int 0, .ref a])) rfl (rest := []) rfl (hb hbytes d48)
  have c14 : Steps p.tables e below (s₁.setTop (entryFrame m #[.ref a, .ref b, .int (Int32.ofNat o), .int (Int32.ofNat len), .null] 6)) (T13.setTop (mkF m 54 #[.val (.ref a), .val (.ref b), .val (.int (Int32.ofNat o)), .val (.int (Int32.ofNat len)), .val .null, .val (.ref s.heap.size)] [.ref s.heap.size, .ref a])) := (c12.trans (st13 _ (Steps.refl _))).trans (by
    refine XS.aloadN X13.here hexec rfl (hb hbytes d51) rfl rfl ?_
    refine XS.aload X13.here hexec rfl (hb hbytes d52) rfl rfl ?_
    exact Steps.refl _)
  obtain ⟨T15, X15, p15, bl15, sl15, st15⟩ := X13.finit hexec hown (wk W (.fieldLink "java/lang/String" 9 "java/lang/String" "value" "[B")) (Or.inr ⟨_, (wk W (.laysFinal "java/lang/String" "java/lang/String" "value" "[B"))⟩) (Or.inl ⟨rfl, hnm⟩) f1 (Or.inl rfl) bl13 (t := (.array .byte)) (by decide +kernel) rfl (g := (mkF m 54 #[.val (.ref a), .val (.ref b), .val (.int (Int32.ofNat o)), .val (.int (Int32.ofNat len)), .val .null, .val (.ref s.heap.size)] [.ref s.heap.size, .ref a])) rfl (rest := []) rfl (hb hbytes d54)
  have c16 : Steps p.tables e below (s₁.setTop (entryFrame m #[.ref a, .ref b, .int (Int32.ofNat o), .int (Int32.ofNat len), .null] 6)) (T15.setTop (mkF m 57 #[.val (.ref a), .val (.ref b), .val (.int (Int32.ofNat o)), .val (.int (Int32.ofNat len)), .val .null, .val (.ref s.heap.size)] [])) := c14.trans (st15 _ (Steps.refl _))
  have ap := apart (Or.inr ⟨_, (wk W (.laysFinal "java/lang/String" "java/lang/String" "value" "[B"))⟩) (Or.inr ⟨_, (wk W (.laysFinal "java/lang/String" "java/lang/String" "coder" "B"))⟩) f1 f2 (t₁ := .array .byte) (t₂ := .byte) (by decide +kernel) (by decide +kernel) (by decide)
  have al := X8.warmed.alike.symm.trans X15.warmed.alike
  have n7 : T11.heap[s.heap.size]? = some N := by rw [q11]; exact n1.1
  exact ⟨T15, none, _, _, _, X15, by simp, rfl, by omega, (fun _ => rfl), ⟨rfl, _, N, bl15, ((Same.refl D _).set _ (by simp)).set _ (by simp), sl15, (Cell.slots_setSlot_ne _ ap).trans sl13, n1.keep al (p15.other hne (p13.other hne n7)), n2, by rw [al.findClass]; exact n3, n4, n5, fun y c h1 h2 => p15.other h1 (p13.other h1 (by rw [q11]; exact n6 y c h2)), by rw [p15.2.2, p13.2.2, q11]; exact z8⟩, fun fs hl => c16.trans (X15.returnOut hexec hret (hb hbytes d57) hl)⟩
end New4
namespace New1
def yN : MethodName := ⟨"java/lang/String", "<init>", "([C)V"⟩
abbrev yB : ByteArray := jdk_42_method_3_code
theorem d0 : decode yB 0 = .ok (.aload_n 0, 1) := by decide +kernel
theorem d1 : decode yB 1 = .ok (.aload_n 1, 1) := by decide +kernel
theorem d2 : decode yB 2 = .ok (.iconst 0, 1) := by decide +kernel
theorem d3 : decode yB 3 = .ok (.aload_n 1, 1) := by decide +kernel
theorem d4 : decode yB 4 = .ok (.arraylength, 1) := by decide +kernel
theorem d5 : decode yB 5 = .ok (.aconst_null, 1) := by decide +kernel
theorem d6 : decode yB 6 = .ok (.invokespecial 27, 3) := by decide +kernel
theorem d9 : decode yB 9 = .ok (.return_, 1) := by decide +kernel
def site : List Cond := [New4.tab] ++ initW "java/lang/String" 27 New4.yN
def tab : Cond := tabOf yN yB 2 none site
def P (a : Addr) (D : Cell) (fV fC : Field) (b : Addr) (A : Cell) (z : Int32) (args : Array Value) (s : State) : Prop := args = #[.ref a, .ref b] ∧ Blank "java/lang/String" a D s ∧ Found "java/lang/String" "value" "[B" fV s ∧ Found "java/lang/String" "coder" "B" fC s ∧ Ch b A s ∧ StaticIs s "java/lang/String" "COMPACT_STRINGS" "Z" (.int z) ∧ ¬ z = 0 ∧ 0 < A.slots.size ∧ A.slots.size ≤ 536870912 ∧ ∀ i, i < A.slots.size → ¬ 255 < cv A i
def E (a : Addr) (D : Cell) (fV fC : Field) (A : Cell) (r : Option Value) (s u : State) : Prop := Got a D fV fC A 0 A.slots.size r s u
/-- new String(chars), not empty, no char above 255: a Latin-1 String of their low bytes -/
theorem law (l : Launch) (a : Addr) (D : Cell) (fV fC : Field) (b : Addr) (A : Cell) (z : Int32) : Law l yN 2 1 3 52 yB 2 none site (P a D fV fC b A z) (E a D fV fC A) [⟨a, fC.slot⟩, ⟨a, fV.slot⟩] 1 A.slots.size := by
  refine Law.of_walk (plainFor_of_name (by decide +kernel)) (by decide +kernel) (by decide +kernel) (by decide) (fun _ _ h => by rw [h.1]; rfl) (fun _ U U' hal hh h => ⟨h.1, h.2.1.mv hal hh, h.2.2.1.al hal, h.2.2.2.1.al hal, h.2.2.2.2.1.mv hal hh, h.2.2.2.2.2.1.there hal hh, h.2.2.2.2.2.2⟩) (fun r U U' V V' h1 hal h2 h => Got.mv r U U' V V' h1 hal h2 h) ?_
  intro p e s m args below meth c s₁ X0 hexec hbytes hml hret hlk hnm hown hh0 W hP
  obtain ⟨rfl, hB, f1, f2, hA, s1, hz, l0, l2, hp⟩ := hP
  have c1 : Steps p.tables e below (s₁.setTop (entryFrame m #[.ref a, .ref b] 2)) (s₁.setTop (mkF m 0 #[.val (.ref a), .val (.ref b)] [])) := entry rfl
  have c2 : Steps p.tables e below (s₁.setTop (entryFrame m #[.ref a, .ref b] 2)) (s₁.setTop (mkF m 6 #[.val (.ref a), .val (.ref b)] [.null, .int (Int32.ofNat A.slots.size), .int 0, .ref b, .ref a])) := c1.trans (by
    refine XS.aloadN X0.here hexec rfl (hb hbytes d0) rfl rfl ?_
    refine XS.aloadN X0.here hexec rfl (hb hbytes d1) rfl rfl ?_
    refine iconstV X0.here hexec rfl 0 (hb hbytes d2) (by decide) ?_
    refine XS.aloadN X0.here hexec rfl (hb hbytes d3) rfl rfl ?_
    refine X0.alen hexec (hA.1.mv X0.warmed.alike hh0) rfl rfl (hb hbytes d4) ?_
    refine XS.aconstNull X0.here hexec rfl (hb hbytes d5) ?_
    exact Steps.refl _)
  obtain ⟨v3, T3, X3, E3, g3⟩ := X0.callN hexec (New4.law l a D fV fC b A z 0 A.slots.size) rfl hown (wks W (initW "java/lang/String" 27 New4.yN)) (W New4.tab (by simp only [site, List.mem_cons, List.mem_append, true_or, or_true])) (W := 0) (Nat.le_of_ble_eq_true rfl) (Nat.le_of_ble_eq_true rfl) (Nat.le_refl _) (by show 0 + A.slots.size ≤ A.slots.size; omega) (g := (mkF m 6 #[.val (.ref a), .val (.ref b)] [.null, .int (Int32.ofNat A.slots.size), .int (Int32.ofNat 0), .ref b, .ref a])) rfl (by rw [hml]; rfl) c2 (argsL := [.ref b, .int (Int32.ofNat 0), .int (Int32.ofNat A.slots.size), .null]) (rest := []) rfl rfl (by show 2 * 0 + 0 ≤ _; decide) (hb hbytes d6) (⟨rfl, hB.mv X0.warmed.alike hh0, f1.al X0.warmed.alike, f2.al X0.warmed.alike, hA.mv X0.warmed.alike hh0, s1.there X0.warmed.alike hh0, hz, l0, by omega, l2, fun i hi => by rw [Nat.zero_add]; exact hp i hi⟩)
  have e0 := Got.mv _ s₁ s _ _ hh0.symm (Vm.Alike.refl _) rfl E3
  obtain rfl := e0.1
  have c4 : Steps p.tables e below (s₁.setTop (entryFrame m #[.ref a, .ref b] 2)) (T3.setTop (mkF m 9 #[.val (.ref a), .val (.ref b)] [])) := g3
  exact ⟨T3, none, _, _, _, X3, by simp, rfl, by omega, (fun _ => rfl), e0, fun fs hl => c4.trans (X3.returnOut hexec hret (hb hbytes d9) hl)⟩
theorem pays {l : Launch} {R : Room} {p : Program} {e : Env} {below : List Frame} {s : State} {sargs : Array Value} {len W : Nat} (a : Addr) (D : Cell) (fV fC : Field) (b : Addr) (A : Cell) (z : Int32) (htab : tab.before sargs s = true) (hfr : 4 ≤ R.frames) (hlo : W + 65 ≤ R.locals) :
    Back l R p e below s sargs yN len W (fun A₁ a₁ => A₁.cells + 1 ≤ R.cells ∧ A₁.slots + A.slots.size ≤ R.slots ∧ P a D fV fC b A z a₁ A₁.U) (fun A₁ _ v₁ B₁ => E a D fV fC A v₁ A₁.U B₁.U ∧ B₁.locs = A₁.locs ++ [⟨a, fC.slot⟩, ⟨a, fV.slot⟩] ∧ B₁.cells = A₁.cells + 1 ∧ B₁.slots = A₁.slots + A.slots.size) :=
  (law l a D fV fC b A z).pays htab hfr (by omega)
end New1
end StrChars
namespace StrChars.Road
open Jvm Sem ClassFile Op Lib Jvm.Stand Jvm.Free Jvm.Free.XT
open Jvm.Lib.Cold (StaticIs)
abbrev ST : String := "java/lang/String"
/-- every table word that New1's law asks, flat -/
abbrev words : List Jvm.Cond := [.code New1.yN New1.yB 2 none, .initialized ST, .methodLink ST 27 New4.yN, .instanceMethod New4.yN,
  .code New4.yN New4.yB 6 none, .fieldLink ST 38 ST "COMPACT_STRINGS" "Z", .laysFinal ST ST "value" "[B", .fieldLink ST 9 ST "value" "[B", .laysFinal ST ST "coder" "B", .fieldLink ST 15 ST "coder" "B",
  .methodLink ST 1 Lib.objectInit, .instanceMethod Lib.objectInit, .code Lib.objectInit ⟨#[0xb1]⟩ 1 none, .methodLink ST 177 Cmp3.yN, .static Cmp3.yN, .methodLink ST 47 CodL.yN, .static CodL.yN,
  .code Cmp3.yN Cmp3.yB 6 (some (.array .byte)), .initialized U16, .arrayClass .byte, .methodLink U16 115 Cmp5.yN, .static Cmp5.yN, .code Cmp5.yN Cmp5.yB 7 (some .int), .code CodL.yN CodL.yB 2 (some .byte)]
theorem tab_of {a : Array Value} {s : State} (h : ∀ w ∈ words, w.before a s = true) : New1.tab.before a s = true := by
  have h5 : Cmp5.tab.before a s = true := unparts (wk h (.code Cmp5.yN Cmp5.yB 7 (some .int))) (wks h (.initialized Cmp5.yN.cls :: Cmp5.site))
  have hc : CodL.tab.before a s = true := unparts (wk h (.code CodL.yN CodL.yB 2 (some .byte))) (wks h (.initialized CodL.yN.cls :: CodL.site))
  have q5 : ∀ w ∈ Cmp5.tab :: words, w.before a s = true := fun w hw => (List.mem_cons.mp hw).elim (fun e => e ▸ h5) (h w)
  have h3 : Cmp3.tab.before a s = true := unparts (wk q5 (.code Cmp3.yN Cmp3.yB 6 (some (.array .byte)))) (wks q5 (.initialized Cmp3.yN.cls :: Cmp3.site))
  have q3 : ∀ w ∈ Cmp3.tab :: CodL.tab :: words, w.before a s = true := fun w hw => (List.mem_cons.mp hw).elim (fun e => e ▸ h3) fun hw => (List.mem_cons.mp hw).elim (fun e => e ▸ hc) (h w)
  have h4 : New4.tab.before a s = true := unparts (wk q3 (.code New4.yN New4.yB 6 none)) (wks q3 (.initialized New4.yN.cls :: New4.site))
  have q4 : ∀ w ∈ New4.tab :: words, w.before a s = true := fun w hw => (List.mem_cons.mp hw).elim (fun e => e ▸ h4) (h w)
  exact unparts (wk q4 (.code New1.yN New1.yB 2 none)) (wks q4 (.initialized New1.yN.cls :: New1.site))
/-- the words ride from the start Z to the walk's own state -/
theorem moved {Z s : State} {a0 args : Array Value} (hZ : Z.Warmed39 s.vm) (hw : ∀ d ∈ words, d.before a0 Z = true) : ∀ d ∈ words, d.before args s = true := fun d hd => by
  have q := hw d hd
  have t : ∀ d ∈ words, d = .arrayClass .byte ∨ (d.onTables && d.keepsFace) = true := by decide +kernel
  rcases t d hd with rfl | t
  · exact RoadKit.mvA hZ q
  · exact RoadKit.mv hZ q t
/-- WHAT COMES BACK, over the tables of the start Z: h the heap at the call, h' behind it -/
def Q (Z : State) (x : Addr) (A : Cell) (h : Heap) (v : Option Value) (h' : Heap) (L : List Loc) : Prop := v = none ∧ (∀ y ∈ L, y.base = x) ∧ RoadKit.Keep h h' [x] ∧ h'.size = h.size + 1 ∧ RoadKit.Exa Z h' x ST ∧ RoadKit.Fld Z h' x ST "value" "[B" (.ref h.size) ∧ RoadKit.Fld Z h' x ST "coder" "B" (.int 0) ∧
  (∃ V : Cell, RoadKit.Arr Z h' h.size V .byte ∧ V.vm = .none ∧ Z.vm.findClass "[B" = some V.cls ∧ V.slots.size = A.slots.size ∧ ∀ j, j < A.slots.size → V.slots[j]? = some (.int (lo8 (cv A j)))) ∧
  ∀ (O n d : String) (w : Value), RoadKit.Fld Z h x O n d w → RoadKit.slotOf Z O n d ≠ RoadKit.slotOf Z ST "value" "[B" → RoadKit.slotOf Z O n d ≠ RoadKit.slotOf Z ST "coder" "B" → RoadKit.Fld Z h' x O n d w
/-- **new String(chars) AT A CALL, IN THE ROAD'S FORM**: for specialBack behind newO: x the fresh String, b the char[] with the cell A -/
theorem back {p : Program} {l : Launch} {e : Env} {R : Room} {s : State} {args : Array Value} {below : List Frame} {len W : Nat} {Z : State} {a0 : Array Value} {h : Heap} (hZ : Z.Warmed39 s.vm) (hw : ∀ d ∈ words, d.before a0 Z = true) {kI : Nat} (wi : (Jvm.Cond.instantiable ST kI).before a0 Z = true)
    {x b : Addr} {A : Cell} {z : Int32} {v0 c0 : Value} (E : RoadKit.Exa Z h x ST) (V : RoadKit.Fld Z h x ST "value" "[B" v0) (C : RoadKit.Fld Z h x ST "coder" "B" c0) (K : RoadKit.Arr Z h b A .char) (hty : Typed .char A) (S : RoadKit.Sta Z h ST "COMPACT_STRINGS" "Z" (.int z)) (hz : ¬ z = 0)
    (l0 : 0 < A.slots.size) (l2 : A.slots.size ≤ 536870912) (hp : ∀ i, i < A.slots.size → ¬ 255 < cv A i) (hfr : 4 ≤ R.frames) (hlo : W + 65 ≤ R.locals) :
    Back l R p e below s args New1.yN len W (fun P a => a = #[.ref x, .ref b] ∧ P.U.heap = h ∧ P.cells + 1 ≤ R.cells ∧ P.slots + A.slots.size ≤ R.slots)
      (fun P _ v B => ∃ L, Q Z x A h v B.U.heap L ∧ B.locs = P.locs ++ L ∧ B.cells = P.cells + 1 ∧ B.slots = P.slots + A.slots.size) := by
  intro m meth c P g ig mk a X hg hsize hdg hW hn hp'
  obtain ⟨rfl, rfl, r1, r2⟩ := hp'
  have al : Z.vm.Alike P.U.vm := hZ.alike.trans X.warmed.alike
  obtain ⟨D, cfV, kV, iV, fV, hD, gV, stV, knV, obV, asV, slV⟩ := id V
  obtain ⟨D', cfC, kC, iC, fC, hD', gC, stC, -, -, asC, slC⟩ := id C
  cases hD.symm.trans hD'
  obtain ⟨D2, kD, e1, e2, e3, e4, e5⟩ := id E
  cases hD.symm.trans e1
  obtain ⟨c2, k2, i1, i2, i3, -⟩ := Cond.instantiable_spec wi
  cases e2.symm.trans i1
  cases e3.symm.trans i2
  obtain ⟨kU, u1, u2⟩ := al.2.2 _ _ e3
  have hB : Blank ST x D P.U := ⟨hD, ⟨knV, fun q hq => by rw [hq] at obV; cases obV⟩, by rw [al.findClass]; exact e2, kU, u1, by rw [u2]; exact i3, by rw [u2]; exact e5 i3⟩
  have F1 : Found ST "value" "[B" fV P.U := ⟨SBG.found_only al ⟨cfV, kV, iV, gV⟩, stV⟩
  have F2 : Found ST "coder" "B" fC P.U := ⟨SBG.found_only al ⟨cfC, kC, iC, gC⟩, stC⟩
  have hA : Ch b A P.U := ⟨⟨K.1, State.isArrayOf_alike al K.2.1, K.2.2, by omega⟩, hty⟩
  have hS : StaticIs P.U ST "COMPACT_STRINGS" "Z" (.int z) := by
    obtain ⟨cfS, iS, kS, fS, st, cS, t1, t2, t3, t4, t5, t6, t7⟩ := S
    exact StaticIs.there (s := { Z with heap := P.U.heap }) ⟨cfS, iS, kS, fS, st, cS, t1, t2, t3, t4, t5, (fun q => by rw [q] at t6; cases t6), t7⟩ al rfl
  obtain ⟨v, B, X', ⟨⟨hv, E', V', q1, q2, q3, q4, q5, q6, q7, q8, q9, q10, q11⟩, hl, hc, hs⟩, st⟩ := New1.pays x D fV fC b A z (tab_of (moved hZ hw)) hfr hlo m meth c P g ig mk _ X hg hsize hdg hW hn ⟨r1, r2, rfl, hB, F1, F2, hA, hS, hz, l0, l2, hp⟩
  have al' : Z.vm.Alike B.U.vm := hZ.alike.trans X'.warmed.alike
  have hsz : E'.slots.size = D.slots.size := by
    obtain ⟨-, -, -, kB, w1, w2, w3⟩ := q1
    obtain ⟨kB', y1, y2⟩ := al'.2.2 _ _ e3
    rw [q2.2.1] at w1
    cases w1.symm.trans y1
    rw [w3, e5 i3, y2]
  refine ⟨v, B, X', ⟨_, ⟨hv, ?_, ⟨by omega, fun y cy hy hn' => q10 y cy (by simpa using hn') hy, fun y cy hy => ?_⟩, q11, ⟨E', _, q1.1, by rw [q2.2.1]; exact e2, by rw [q2.2.1]; exact e3, by rw [q2.1]; exact obV, fun _ => by rw [hsz]; exact e5 i3⟩,
    ⟨E', cfV, kV, iV, fV, q1.1, gV, stV, by rw [q2.1]; exact knV, by rw [q2.1]; exact obV, by rw [q2.2.1]; exact asV, q3⟩, ⟨E', cfC, kC, iC, fC, q1.1, gC, stC, by rw [q2.1]; exact knV, by rw [q2.1]; exact obV, by rw [q2.2.1]; exact asC, q4⟩,
    ⟨V', ⟨q5.1, State.isArrayOf_alike al'.symm q5.2.1, q5.2.2.1⟩, q6, by rw [← al'.findClass]; exact q7, q8, fun j hj => by have := q9 j hj; rwa [Nat.zero_add] at this⟩, fun O n d w F n1 n2 => ?_⟩, hl, hc, hs⟩, st⟩
  · intro y hy
    simp only [List.mem_cons, List.not_mem_nil, or_false] at hy
    rcases hy with rfl | rfl <;> rfl
  · by_cases q : y = x
    · subst q
      cases hD.symm.trans hy
      exact ⟨E', q1.1, q2.2.1, q2.1, hsz⟩
    · exact ⟨cy, q10 y cy q hy, rfl, rfl, rfl⟩
  · obtain ⟨D3, cf, k, i, f, g1, g2, g3, g4, g5, g6, g7⟩ := F
    cases hD.symm.trans g1
    simp only [RoadKit.slotOf, g2, gV, gC, Option.map_some, Option.getD_some] at n1 n2
    exact ⟨E', cf, k, i, f, q1.1, g2, g3, by rw [q2.1]; exact g4, by rw [q2.1]; exact g5, by rw [q2.2.1]; exact g6, by rw [q2.2.2 f.slot (by simp [n1, n2])]; exact g7⟩
end StrChars.Road
namespace StrChars.Road
open Jvm Sem ClassFile Op Lib Jvm.Stand Jvm.Free Jvm.Free.XT
/-- WHAT COMES BACK, the byte[] as a list of values -/
def QA (Z : State) (x : Addr) (zn : Int32) (cs : List Int32) (h : Heap) (v : Option Value) (h' : Heap) (L : List Loc) : Prop := v = none ∧ (∀ y ∈ L, y.base = x) ∧ RoadKit.Keep h h' [x] ∧ h'.size = h.size + 1 ∧ RoadKit.Exa Z h' x ST ∧ RoadKit.Fld Z h' x ST "value" "[B" (.ref h.size) ∧ RoadKit.Fld Z h' x ST "coder" "B" (.int 0) ∧
  (∃ kb, Z.vm.findClass "[B" = some kb ∧ RoadKit.Arv Z h' h.size kb .byte zn (cs.map fun c => .int (lo8 c)) (.int 0)) ∧
  ∀ (O n d : String) (w : Value), RoadKit.Fld Z h x O n d w → RoadKit.slotOf Z O n d ≠ RoadKit.slotOf Z ST "value" "[B" → RoadKit.slotOf Z O n d ≠ RoadKit.slotOf Z ST "coder" "B" → RoadKit.Fld Z h' x O n d w
/-- **new String(chars) AT A CALL, THE ARRAYS AS LISTS**: the char[] at b holds cs, not empty, no char above 255 -/
theorem backArv {p : Program} {l : Launch} {e : Env} {R : Room} {s : State} {args : Array Value} {below : List Frame} {len W : Nat} {Z : State} {a0 : Array Value} {h : Heap} (hZ : Z.Warmed39 s.vm) (hw : ∀ d ∈ words, d.before a0 Z = true) {kI : Nat} (wi : (Jvm.Cond.instantiable ST kI).before a0 Z = true)
    {x b : Addr} {k : ClassId} {zn z : Int32} {cs : List Int32} {dv v0 c0 : Value} (E : RoadKit.Exa Z h x ST) (V : RoadKit.Fld Z h x ST "value" "[B" v0) (C : RoadKit.Fld Z h x ST "coder" "B" c0) (K : RoadKit.Arv Z h b k .char zn (cs.map Value.int) dv) (S : RoadKit.Sta Z h ST "COMPACT_STRINGS" "Z" (.int z)) (hz : ¬ z = 0)
    (hlen : zn.toNatClampNeg = cs.length) (h0 : 0 < cs.length) (hbig : cs.length ≤ 536870912) (hall : ∀ c ∈ cs, ¬ 255 < c) (hfr : 4 ≤ R.frames) (hlo : W + 65 ≤ R.locals) :
    Back l R p e below s args New1.yN len W (fun P a => a = #[.ref x, .ref b] ∧ P.U.heap = h ∧ P.cells + 1 ≤ R.cells ∧ P.slots + cs.length ≤ R.slots)
      (fun P _ v B => ∃ L, QA Z x zn cs h v B.U.heap L ∧ B.locs = P.locs ++ L ∧ B.cells = P.cells + 1 ∧ B.slots = P.slots + cs.length) := by
  obtain ⟨A, K1, K2, K3, K4, K5, K6⟩ := K
  have e : A.slots.size = cs.length := K3.trans hlen
  have hat : ∀ (i : Nat) (hi : i < cs.length), A.slots[i]? = some (.int cs[i]) := fun i hi => by rw [K5 i (by omega)]; simp [List.getD_eq_getElem?_getD, hi]
  have hcv : ∀ (i : Nat) (hi : i < cs.length), cv A i = cs[i] := fun i hi => by unfold cv; rw [hat i hi]
  have hty : Typed .char A := fun i v hv => by
    have hi : i < A.slots.size := (Array.getElem?_eq_some_iff.mp hv).1
    have q := K5 i hi
    rw [hv] at q
    rw [Option.some.inj q]
    exact K6 i hi
  refine Back.mono (back hZ hw wi E V C K1 hty S hz (by omega) (by omega) (fun i hi => by rw [hcv i (by omega)]; exact hall _ (List.getElem_mem _)) hfr hlo) (fun P a hp => ⟨hp.1, hp.2.1, hp.2.2.1, by rw [e]; exact hp.2.2.2⟩) (fun P a v B hp hq => ?_)
  obtain ⟨L, ⟨q1, q2, q3, q4, q5, q6, q7, ⟨V', v1, v2, v3, v4, v5⟩, q9⟩, hl, hc, hs⟩ := hq
  refine ⟨L, ⟨q1, q2, q3, q4, q5, q6, q7, ⟨V'.cls, v3, V', v1, rfl, by rw [v4, e, hlen], K4, fun i hi => ?_, fun i hi => ?_⟩, q9⟩, hl, hc, by rw [hs, e]⟩
  · have hi' : i < cs.length := by omega
    rw [v5 i (by omega), hcv i hi']; simp [List.getD_eq_getElem?_getD, hi']
  · have hi' : i < cs.length := by omega
    simp only [List.getD_eq_getElem?_getD, List.getElem?_map, List.getElem?_eq_getElem hi', Option.map_some, Option.getD_some]
    exact fits_lo8 _
end StrChars.Road
namespace StrChars.Road
open Jvm Sem ClassFile Op Lib Jvm.Stand Jvm.Free Jvm.Free.XT
/-- WHAT COMES BACK, in the writer's own shape -/
def QV (Z : State) (x : Addr) (N : Int32) (bs : List Int32) (h : Heap) (n0 : Nat) (v : Option Value) (h' : Heap) (L : List Loc) : Prop := v = none ∧ RoadKit.Fr n0 L ∧ RoadKit.Keep h h' [x] ∧ RoadKit.Exa Z h' x ST ∧ RoadKit.Fld Z h' x ST "coder" "B" (.int 0) ∧
  ∃ (t : Addr) (kb : ClassId), n0 ≤ t ∧ h.size ≤ t ∧ ¬ t = x ∧ RoadKit.Fld Z h' x ST "value" "[B" (.ref t) ∧ RoadKit.Arv Z h' t kb .byte N (bs.map Value.int) (.int 0)
/-- **new String(chars) AT A CALL, FOR THE WRITER**: a char[] of n known ints, each 0 to 255 -/
theorem backV {p : Program} {l : Launch} {e : Env} {R : Room} {s : State} {args : Array Value} {below : List Frame} {len W : Nat} {Z : State} {a0 : Array Value} {h : Heap} (hZ : Z.Warmed39 s.vm) (hw : ∀ d ∈ words, d.before a0 Z = true) {kI : Nat} (wi : (Jvm.Cond.instantiable ST kI).before a0 Z = true)
    {x b : Addr} {kC : ClassId} {cs bs : List Int32} {d v0 c0 : Value} {z N : Int32} {n n0 : Nat} (hx0 : n0 ≤ x) (hh0 : n0 ≤ h.size) (E : RoadKit.Exa Z h x ST) (V : RoadKit.Fld Z h x ST "value" "[B" v0) (C : RoadKit.Fld Z h x ST "coder" "B" c0) (K : RoadKit.Arv Z h b kC .char N (cs.map Value.int) d) (S : RoadKit.Sta Z h ST "COMPACT_STRINGS" "Z" (.int z)) (hz : ¬ z = 0)
    (hn : cs.length = n) (hN : N = Int32.ofNat n) (l0 : 0 < n) (l2 : n ≤ 4000) (hp : ∀ c ∈ cs, ¬ c < 0 ∧ ¬ (255 : Int32) < c) (hb : bs = cs.map (fun c => c.toInt8.toInt32)) (hfr : 4 ≤ R.frames) (hlo : W + 65 ≤ R.locals) :
    Back l R p e below s args (⟨"java/lang/String", "<init>", "([C)V"⟩ : MethodName) len W (fun P a => a = #[.ref x, .ref b] ∧ P.U.heap = h ∧ P.cells + 1 ≤ R.cells ∧ P.slots + n ≤ R.slots)
      (fun P _ v B => ∃ L, QV Z x N bs h n0 v B.U.heap L ∧ B.locs = P.locs ++ L ∧ B.cells = P.cells + 1 ∧ B.slots = P.slots + n) := by
  subst hn hN hb
  refine Back.mono (backArv hZ hw wi E V C K S hz (n32 (by omega)) l0 (by omega) (fun c hc => (hp c hc).2) hfr hlo) (fun P a hp => hp) (fun P a v B hp hq => ?_)
  obtain ⟨L, ⟨q1, q2, q3, q4, q5, q6, q7, ⟨kb, v1, v2⟩, q9⟩, hl, hc, hs⟩ := hq
  exact ⟨L, ⟨q1, fun y hy => by rw [q2 y hy]; exact hx0, q3, q5, q7, h.size, kb, hh0, Nat.le_refl _, Nat.ne_of_gt E.lt, q6, by rw [List.map_map]; exact v2⟩, hl, hc, hs⟩
end StrChars.Road
end Jvm.Pilot.@@N@@
namespace Jvm.Pilot.@@N@@
open Jvm Jvm.ClassFile Sem Op Lib Jvm.Free Jvm.Stand Jvm.LawKit Jvm.RoadKit Bundle Jvm.Pilot.@@N@@.Jvm.D
theorem own_words : ∀ d ∈ StrChars.Road.words, d ∈ tables_1 := by decide +kernel
theorem own_255 (x : Int32) : ¬ nar .char ((x &&& (255 : Int32)).toUInt32.toUInt16.toUInt32.toInt32) < 0 ∧ ¬ (255 : Int32) < nar .char ((x &&& (255 : Int32)).toUInt32.toUInt16.toUInt32.toInt32) := by
  have t : ∀ k : Fin 256, ¬ nar .char ((Int32.ofNat k.val).toUInt32.toUInt16.toUInt32.toInt32) < 0 ∧ ¬ (255 : Int32) < nar .char ((Int32.ofNat k.val).toUInt32.toUInt16.toUInt32.toInt32) := by decide +kernel
  have h : (x &&& 255).toBitVec.toNat < 256 := by
    simp only [Int32.toBitVec_and, BitVec.toNat_and]
    exact Nat.lt_succ_of_le Nat.and_le_right
  have e : (x &&& 255) = Int32.ofNat (x &&& 255).toBitVec.toNat := by
    apply Int32.toBitVec_inj.mp
    show _ = BitVec.ofNat 32 _
    rw [BitVec.ofNat_toNat]; simp
  rw [e]
  exact t ⟨_, h⟩
theorem own_selp {s : State} {args args' : Array Value} {y : MethodName} {k : Nat} (hi : (Cond.instantiable y.cls k).before args s = true) (hp : s.PrivateAt y) (hinst : (Cond.instanceMethod y).before args' s = true) (hy : y.cls ≠ "java/lang/invoke/MethodHandle" ∧ y.cls ≠ "java/lang/invoke/VarHandle") : (Cond.selects y.cls y y).before args' s = true := by
  obtain ⟨c, kc, h1, h2, h3, h4, -⟩ := Cond.instantiable_spec hi
  exact selects_self_of_private h1 h2 (Bool.or_eq_false_iff.mp h4).1 hp hinst hy
theorem d8_0 : decode jdk_2306_method_3_code 0 = .ok (.aload_n 0, 1) := by decide +kernel
theorem d8_1 : decode jdk_2306_method_3_code 1 = .ok (.invokespecial 7, 3) := by decide +kernel
theorem wd_46 {Z : State} {a0 : Array Value} (hw : ∀ d ∈ tables_1, d.before a0 Z = true) : ((Jvm.Cond.methodLink "java/text/ParsePosition" (7 : Nat) ({ cls := "java/lang/Object", name := "<init>", desc := "()V" } : Jvm.MethodName))).before a0 Z = true := hw _ (List.mem_of_getElem? (i := 46) rfl)
theorem wd_13 {Z : State} {a0 : Array Value} (hw : ∀ d ∈ tables_1, d.before a0 Z = true) : ((Jvm.Cond.instanceMethod ({ cls := "java/lang/Object", name := "<init>", desc := "()V" } : Jvm.MethodName))).before a0 Z = true := hw _ (List.mem_of_getElem? (i := 13) rfl)
theorem wd_14 {Z : State} {a0 : Array Value} (hw : ∀ d ∈ tables_1, d.before a0 Z = true) : ((Jvm.Cond.code ({ cls := "java/lang/Object", name := "<init>", desc := "()V" } : Jvm.MethodName) object_method_1_code (1 : Nat) (Option.none : Option Jvm.ClassFile.FieldType))).before a0 Z = true := hw _ (List.mem_of_getElem? (i := 14) rfl)
theorem d8_4 : decode jdk_2306_method_3_code 4 = .ok (.aload_n 0, 1) := by decide +kernel
theorem d8_5 : decode jdk_2306_method_3_code 5 = .ok (.iconst 0, 1) := by decide +kernel
theorem d8_6 : decode jdk_2306_method_3_code 6 = .ok (.putfield 1, 3) := by decide +kernel
theorem wd_47 {Z : State} {a0 : Array Value} (hw : ∀ d ∈ tables_1, d.before a0 Z = true) : ((Jvm.Cond.fieldLink "java/text/ParsePosition" (1 : Nat) "java/text/ParsePosition" "index" "I")).before a0 Z = true := hw _ (List.mem_of_getElem? (i := 47) rfl)
theorem wd_48 {Z : State} {a0 : Array Value} (hw : ∀ d ∈ tables_1, d.before a0 Z = true) : ((Jvm.Cond.lays "java/text/ParsePosition" "java/text/ParsePosition" "index" "I")).before a0 Z = true := hw _ (List.mem_of_getElem? (i := 48) rfl)
theorem wd_41 {Z : State} {a0 : Array Value} (hw : ∀ d ∈ tables_1, d.before a0 Z = true) : ((Jvm.Cond.instantiable "java/text/ParsePosition" (2 : Nat))).before a0 Z = true := hw _ (List.mem_of_getElem? (i := 41) rfl)
theorem d8_9 : decode jdk_2306_method_3_code 9 = .ok (.aload_n 0, 1) := by decide +kernel
theorem d8_10 : decode jdk_2306_method_3_code 10 = .ok (.iconst (-1), 1) := by decide +kernel
theorem d8_11 : decode jdk_2306_method_3_code 11 = .ok (.putfield 13, 3) := by decide +kernel
theorem wd_49 {Z : State} {a0 : Array Value} (hw : ∀ d ∈ tables_1, d.before a0 Z = true) : ((Jvm.Cond.fieldLink "java/text/ParsePosition" (13 : Nat) "java/text/ParsePosition" "errorIndex" "I")).before a0 Z = true := hw _ (List.mem_of_getElem? (i := 49) rfl)
theorem wd_50 {Z : State} {a0 : Array Value} (hw : ∀ d ∈ tables_1, d.before a0 Z = true) : ((Jvm.Cond.lays "java/text/ParsePosition" "java/text/ParsePosition" "errorIndex" "I")).before a0 Z = true := hw _ (List.mem_of_getElem? (i := 50) rfl)
theorem sl_0 {Z : State} {a0 : Array Value} (hw : ∀ d ∈ tables_1, d.before a0 Z = true) : RoadKit.slotOf Z "java/text/ParsePosition" "errorIndex" "I" ≠ RoadKit.slotOf Z "java/text/ParsePosition" "index" "I" := slot_ne (Or.inl (wd_50 hw)) (Or.inl (wd_48 hw)) (by decide) (t := .int) (t' := .int) (by decide) (by decide)
theorem d8_14 : decode jdk_2306_method_3_code 14 = .ok (.aload_n 0, 1) := by decide +kernel
theorem d8_15 : decode jdk_2306_method_3_code 15 = .ok (.iload_n 1, 1) := by decide +kernel
theorem d8_16 : decode jdk_2306_method_3_code 16 = .ok (.putfield 1, 3) := by decide +kernel
theorem sl_1 {Z : State} {a0 : Array Value} (hw : ∀ d ∈ tables_1, d.before a0 Z = true) : RoadKit.slotOf Z "java/text/ParsePosition" "index" "I" ≠ RoadKit.slotOf Z "java/text/ParsePosition" "errorIndex" "I" := slot_ne (Or.inl (wd_48 hw)) (Or.inl (wd_50 hw)) (by decide) (t := .int) (t' := .int) (by decide) (by decide)
theorem d8_19 : decode jdk_2306_method_3_code 19 = .ok (.return_, 1) := by decide +kernel
theorem pn_java_text_ParsePosition : plainName "java/text/ParsePosition" = true := by first | (simp [plainName, overriddenIn]; done) | decide +kernel
theorem ef_8 (m : MethodId) (x0 : Addr) (x1 : Int32) : entryFrame m #[(.ref x0), (.int x1)] 2 = mkF m 0 #[.val (.ref x0), .val (.int x1)] [] := by first | (simp [entryFrame, mkF, argsToLocals, Value.category]; done) | rfl
def Q8 (Z : State) (vr0 : Addr) (vi1 : Int32) (u_index_vr0 : Value) (u_errorIndex_vr0 : Value) (h0 : Heap) (n0 : Nat) (v : Option Value) (h : Heap) (L : List Loc) : Prop := v = none ∧ Fr n0 L ∧ Keep h0 h [vr0]
set_option maxRecDepth 65536 in
set_option maxHeartbeats 40000000 in
theorem rm8 (l : Launch) (Z : State) (a0 : Array Value) (hw : ∀ d ∈ tables_1, d.before a0 Z = true) (ws : List Jvm.Cond) (vr0 : Addr) (vi1 : Int32) (u_index_vr0 : Value) (u_errorIndex_vr0 : Value) (h0 : Heap) (n0 : Nat) (Z0 : n0 ≤ h0.size) (E_vr0 : Exa Z h0 vr0 "java/text/ParsePosition") (F_index_vr0 : Fld Z h0 vr0 "java/text/ParsePosition" "index" "I" u_index_vr0) (g_vr0 : n0 ≤ vr0) (F_errorIndex_vr0 : Fld Z h0 vr0 "java/text/ParsePosition" "errorIndex" "I" u_errorIndex_vr0) :
    MetFree l (⟨"java/text/ParsePosition", "<init>", "(I)V"⟩ : MethodName) (head1 (Jvm.Cond.code (⟨"java/text/ParsePosition", "<init>", "(I)V"⟩ : MethodName) jdk_2306_method_3_code 2 none :: ws) ({ frames := 1, cells := 0, slots := 0, locals := 12 } : Room)) (fun a U => a = #[(.ref vr0), (.int vi1)] ∧ Z.Warmed39 U.vm ∧ U.heap = h0) (fun _ _ _ _ _ => True) (fun _ U o U' => ∃ v L, o = .returned v ∧ Q8 Z vr0 vi1 u_index_vr0 u_errorIndex_vr0 h0 n0 v U'.heap L ∧ FrameEnd U o U' L ({ frames := 1, cells := 0, slots := 0, locals := 12 } : Room).cells ({ frames := 1, cells := 0, slots := 0, locals := 12 } : Room).slots) := by
  refine MetFree.of_bodySF (plainFor_of_name pn_java_text_ParsePosition) hisR ?_
  intro p e s m args below meth c s₁ Bd hml0 hP hK
  obtain ⟨rfl, hZ, hh⟩ := hP
  have hx := Bd.exec
  have hby := Bd.bytes
  have hml : c.maxLocals = 2 := hml0
  have hown : s.vm.findClass "java/text/ParsePosition" = some m.cls := findClass_of_methodNamed Bd.named
  have hnm := (name_of_methodNamed Bd.named Bd.method).1
  have X0 : Stand p l e ({ frames := 1, cells := 0, slots := 0, locals := 12 } : Room) s m #[(.ref vr0), (.int vi1)] below meth c s₁ [] 0 0 := Stand.of_body Bd
  have e0 : s₁.heap = h0 := by rw [← hh, Bd.state]; rfl
  have N0 := Fr.nil n0
  have pre0 : ∀ t, Steps p.tables e below (s₁.setTop (mkF m 0 #[.val (.ref vr0), .val (.int vi1)] [])) t → Steps p.tables e below (s₁.setTop (entryFrame m #[(.ref vr0), (.int vi1)] 2)) t := fun t k => castTop (ef_8 m vr0 vi1) k
  obtain ⟨T1, X1, e1, st1⟩ := initO X0 hx hZ hown (wd_46 hw) (wd_13 hw) (wd_14 hw) e0 (g := (mkF m 1 #[.val (.ref vr0), .val (.int vi1)] [(.ref vr0)])) rfl (by rw [hml]; rfl) rfl (hb hby d8_1) (by decide) (W := 0) (by show 2 * 0 + _ ≤ _; exact Nat.le_of_eq rfl) (by decide)
  obtain ⟨T2, h2, X2, e2, W2, st2⟩ := putF X1 hx hZ hown (host := "") (Or.inl (wd_47 hw)) Via.refl e1 F_index_vr0 E_vr0 (Or.inl (wd_48 hw)) (wd_41 hw) (ty := .int) (by decide) rfl rfl (g := (mkF m 6 #[.val (.ref vr0), .val (.int vi1)] [(.int (0 : Int32)), (.ref vr0)])) rfl rfl (hb hby d8_6)
  have Fw2 := F_index_vr0.same W2
  have N2 := Fr.snoc X2 N0 g_vr0
  have K2 : Keep h0 h2 [vr0] := (Keep.refl h0 [vr0]).wr W2 (Or.inl (List.mem_of_getElem? (i := 0) rfl))
  obtain ⟨T3, h3, X3, e3, W3, st3⟩ := putF X2 hx hZ hown (host := "") (Or.inl (wd_49 hw)) Via.refl e2 (F_errorIndex_vr0.other W2 (Or.inr (sl_0 hw))) (E_vr0.wr W2) (Or.inl (wd_50 hw)) (wd_41 hw) (ty := .int) (by decide) rfl rfl (g := (mkF m 11 #[.val (.ref vr0), .val (.int vi1)] [(.int (-1 : Int32)), (.ref vr0)])) rfl rfl (hb hby d8_11)
  have Fw3 := (F_errorIndex_vr0.other W2 (Or.inr (sl_0 hw))).same W3
  have N3 := Fr.snoc X3 N2 g_vr0
  have K3 : Keep h0 h3 [vr0] := K2.wr W3 (Or.inl (List.mem_of_getElem? (i := 0) rfl))
  obtain ⟨T4, h4, X4, e4, W4, st4⟩ := putF X3 hx hZ hown (host := "") (Or.inl (wd_47 hw)) Via.refl e3 (Fw2.other W3 (Or.inr (sl_1 hw))) ((E_vr0.wr W2).wr W3) (Or.inl (wd_48 hw)) (wd_41 hw) (ty := .int) (by decide) rfl rfl (g := (mkF m 16 #[.val (.ref vr0), .val (.int vi1)] [(.int vi1), (.ref vr0)])) rfl rfl (hb hby d8_16)
  have Fw4 := (Fw2.other W3 (Or.inr (sl_1 hw))).same W4
  have N4 := Fr.snoc X4 N3 g_vr0
  have K4 : Keep h0 h4 [vr0] := K3.wr W4 (Or.inl (List.mem_of_getElem? (i := 0) rfl))
  obtain ⟨fs, hr, hrun, hended, hW, hsame⟩ := X4.leave (v := none) (fun _ => rfl)
  refine ⟨_, _, pre0 _ ?_, hrun, hended, _, _, rfl, ?_, ⟨_, rfl⟩, hW, hsame.mono (by decide) (by decide)⟩
  · show Steps p.tables e below (s₁.setTop (mkF m 0 #[.val (.ref vr0), .val (.int vi1)] [])) _
    refine XS.aloadN X0.here hx rfl (hb hby d8_0) rfl rfl ?_
    show Steps p.tables e below (s₁.setTop (mkF m 1 #[.val (.ref vr0), .val (.int vi1)] [(.ref vr0)])) _
    refine st1 _ ?_
    refine XS.aloadN X1.here hx rfl (hb hby d8_4) rfl rfl ?_
    refine XS.iconst X1.here hx rfl (hb hby d8_5) ?_
    show Steps p.tables e below (T1.setTop (mkF m 6 #[.val (.ref vr0), .val (.int vi1)] [(.int (0 : Int32)), (.ref vr0)])) _
    refine st2 _ ?_
    refine XS.aloadN X2.here hx rfl (hb hby d8_9) rfl rfl ?_
    refine XS.iconst X2.here hx rfl (hb hby d8_10) ?_
    show Steps p.tables e below (T2.setTop (mkF m 11 #[.val (.ref vr0), .val (.int vi1)] [(.int (-1 : Int32)), (.ref vr0)])) _
    refine st3 _ ?_
    show Steps p.tables e below (T3.setTop (mkF m 14 #[.val (.ref vr0), .val (.int vi1)] [])) _
    refine XS.aloadN X3.here hx rfl (hb hby d8_14) rfl rfl ?_
    refine XS.iloadN X3.here hx rfl (hb hby d8_15) rfl ?_
    show Steps p.tables e below (T3.setTop (mkF m 16 #[.val (.ref vr0), .val (.int vi1)] [(.int vi1), (.ref vr0)])) _
    refine st4 _ ?_
    exact X4.returnOut hx Bd.returns (hb hby d8_19) hr
  · show Q8 Z vr0 vi1 u_index_vr0 u_errorIndex_vr0 h0 n0 _ T4.heap _
    rw [e4]
    exact ⟨rfl, N4, K4⟩
theorem d7_0 : decode prog_58_method_1_code 0 = .ok (.aload_n 0, 1) := by decide +kernel
theorem d7_1 : decode prog_58_method_1_code 1 = .ok (.invokespecial 1, 3) := by decide +kernel
theorem wd_37 {Z : State} {a0 : Array Value} (hw : ∀ d ∈ tables_1, d.before a0 Z = true) : ((Jvm.Cond.methodLink "com/example/careful_ledger/carefulledger/json/PlainLine" (1 : Nat) ({ cls := "java/lang/Object", name := "<init>", desc := "()V" } : Jvm.MethodName))).before a0 Z = true := hw _ (List.mem_of_getElem? (i := 37) rfl)
theorem d7_4 : decode prog_58_method_1_code 4 = .ok (.aload_n 0, 1) := by decide +kernel
theorem d7_5 : decode prog_58_method_1_code 5 = .ok (.iconst 0, 1) := by decide +kernel
theorem d7_6 : decode prog_58_method_1_code 6 = .ok (.newarray .byte, 2) := by decide +kernel
theorem wd_20 {Z : State} {a0 : Array Value} (hw : ∀ d ∈ tables_1, d.before a0 Z = true) : ((Jvm.Cond.arrayClass Jvm.ClassFile.FieldType.byte)).before a0 Z = true := hw _ (List.mem_of_getElem? (i := 20) rfl)
theorem d7_8 : decode prog_58_method_1_code 8 = .ok (.putfield 7, 3) := by decide +kernel
theorem wd_38 {Z : State} {a0 : Array Value} (hw : ∀ d ∈ tables_1, d.before a0 Z = true) : ((Jvm.Cond.fieldLink "com/example/careful_ledger/carefulledger/json/PlainLine" (7 : Nat) "com/example/careful_ledger/carefulledger/json/PlainLine" "bytes" "[B")).before a0 Z = true := hw _ (List.mem_of_getElem? (i := 38) rfl)
theorem wd_39 {Z : State} {a0 : Array Value} (hw : ∀ d ∈ tables_1, d.before a0 Z = true) : ((Jvm.Cond.lays "com/example/careful_ledger/carefulledger/json/PlainLine" "com/example/careful_ledger/carefulledger/json/PlainLine" "bytes" "[B")).before a0 Z = true := hw _ (List.mem_of_getElem? (i := 39) rfl)
theorem wd_32 {Z : State} {a0 : Array Value} (hw : ∀ d ∈ tables_1, d.before a0 Z = true) : ((Jvm.Cond.instantiable "com/example/careful_ledger/carefulledger/json/PlainLine" (11 : Nat))).before a0 Z = true := hw _ (List.mem_of_getElem? (i := 32) rfl)
theorem d7_11 : decode prog_58_method_1_code 11 = .ok (.aload_n 0, 1) := by decide +kernel
theorem d7_12 : decode prog_58_method_1_code 12 = .ok (.new 13, 3) := by decide +kernel
theorem wd_40 {Z : State} {a0 : Array Value} (hw : ∀ d ∈ tables_1, d.before a0 Z = true) : ((Jvm.Cond.classLink "com/example/careful_ledger/carefulledger/json/PlainLine" (13 : Nat) "java/text/ParsePosition")).before a0 Z = true := hw _ (List.mem_of_getElem? (i := 40) rfl)
theorem wd_42 {Z : State} {a0 : Array Value} (hw : ∀ d ∈ tables_1, d.before a0 Z = true) : ((Jvm.Cond.initialized "java/text/ParsePosition")).before a0 Z = true := hw _ (List.mem_of_getElem? (i := 42) rfl)
theorem d7_15 : decode prog_58_method_1_code 15 = .ok (.dup, 1) := by decide +kernel
theorem d7_16 : decode prog_58_method_1_code 16 = .ok (.iconst 0, 1) := by decide +kernel
theorem d7_17 : decode prog_58_method_1_code 17 = .ok (.invokespecial 15, 3) := by decide +kernel
theorem wd_43 {Z : State} {a0 : Array Value} (hw : ∀ d ∈ tables_1, d.before a0 Z = true) : ((Jvm.Cond.methodLink "com/example/careful_ledger/carefulledger/json/PlainLine" (15 : Nat) ({ cls := "java/text/ParsePosition", name := "<init>", desc := "(I)V" } : Jvm.MethodName))).before a0 Z = true := hw _ (List.mem_of_getElem? (i := 43) rfl)
theorem wd_45 {Z : State} {a0 : Array Value} (hw : ∀ d ∈ tables_1, d.before a0 Z = true) : ((Jvm.Cond.code ({ cls := "java/text/ParsePosition", name := "<init>", desc := "(I)V" } : Jvm.MethodName) jdk_2306_method_3_code (2 : Nat) (Option.none : Option Jvm.ClassFile.FieldType))).before a0 Z = true := hw _ (List.mem_of_getElem? (i := 45) rfl)
theorem pd_6 : parseMethodDescriptor "(I)V" = some ⟨[.int], none⟩ := by decide +kernel
theorem wd_44 {Z : State} {a0 : Array Value} (hw : ∀ d ∈ tables_1, d.before a0 Z = true) : ((Jvm.Cond.instanceMethod ({ cls := "java/text/ParsePosition", name := "<init>", desc := "(I)V" } : Jvm.MethodName))).before a0 Z = true := hw _ (List.mem_of_getElem? (i := 44) rfl)
theorem d7_20 : decode prog_58_method_1_code 20 = .ok (.putfield 18, 3) := by decide +kernel
theorem wd_51 {Z : State} {a0 : Array Value} (hw : ∀ d ∈ tables_1, d.before a0 Z = true) : ((Jvm.Cond.fieldLink "com/example/careful_ledger/carefulledger/json/PlainLine" (18 : Nat) "com/example/careful_ledger/carefulledger/json/PlainLine" "number" "Ljava/text/ParsePosition;")).before a0 Z = true := hw _ (List.mem_of_getElem? (i := 51) rfl)
theorem wd_52 {Z : State} {a0 : Array Value} (hw : ∀ d ∈ tables_1, d.before a0 Z = true) : ((Jvm.Cond.laysFinal "com/example/careful_ledger/carefulledger/json/PlainLine" "com/example/careful_ledger/carefulledger/json/PlainLine" "number" "Ljava/text/ParsePosition;")).before a0 Z = true := hw _ (List.mem_of_getElem? (i := 52) rfl)
theorem sl_2 {Z : State} {a0 : Array Value} (hw : ∀ d ∈ tables_1, d.before a0 Z = true) : RoadKit.slotOf Z "com/example/careful_ledger/carefulledger/json/PlainLine" "number" "Ljava/text/ParsePosition;" ≠ RoadKit.slotOf Z "com/example/careful_ledger/carefulledger/json/PlainLine" "bytes" "[B" := slot_ne (Or.inr (wd_52 hw)) (Or.inl (wd_39 hw)) (by decide) (t := (.object "java/text/ParsePosition")) (t' := (.array .byte)) (by decide) (by decide)
theorem d7_23 : decode prog_58_method_1_code 23 = .ok (.aload_n 0, 1) := by decide +kernel
theorem d7_24 : decode prog_58_method_1_code 24 = .ok (.bipush 64, 2) := by decide +kernel
theorem d7_26 : decode prog_58_method_1_code 26 = .ok (.newarray .byte, 2) := by decide +kernel
theorem d7_28 : decode prog_58_method_1_code 28 = .ok (.putfield 22, 3) := by decide +kernel
theorem wd_53 {Z : State} {a0 : Array Value} (hw : ∀ d ∈ tables_1, d.before a0 Z = true) : ((Jvm.Cond.fieldLink "com/example/careful_ledger/carefulledger/json/PlainLine" (22 : Nat) "com/example/careful_ledger/carefulledger/json/PlainLine" "parts" "[B")).before a0 Z = true := hw _ (List.mem_of_getElem? (i := 53) rfl)
theorem wd_54 {Z : State} {a0 : Array Value} (hw : ∀ d ∈ tables_1, d.before a0 Z = true) : ((Jvm.Cond.lays "com/example/careful_ledger/carefulledger/json/PlainLine" "com/example/careful_ledger/carefulledger/json/PlainLine" "parts" "[B")).before a0 Z = true := hw _ (List.mem_of_getElem? (i := 54) rfl)
theorem sl_3 {Z : State} {a0 : Array Value} (hw : ∀ d ∈ tables_1, d.before a0 Z = true) : RoadKit.slotOf Z "com/example/careful_ledger/carefulledger/json/PlainLine" "parts" "[B" ≠ RoadKit.slotOf Z "com/example/careful_ledger/carefulledger/json/PlainLine" "bytes" "[B" := slot_ne (Or.inl (wd_54 hw)) (Or.inl (wd_39 hw)) (by decide) (t := (.array .byte)) (t' := (.array .byte)) (by decide) (by decide)
theorem sl_4 {Z : State} {a0 : Array Value} (hw : ∀ d ∈ tables_1, d.before a0 Z = true) : RoadKit.slotOf Z "com/example/careful_ledger/carefulledger/json/PlainLine" "parts" "[B" ≠ RoadKit.slotOf Z "com/example/careful_ledger/carefulledger/json/PlainLine" "number" "Ljava/text/ParsePosition;" := slot_ne (Or.inl (wd_54 hw)) (Or.inr (wd_52 hw)) (by decide) (t := (.array .byte)) (t' := (.object "java/text/ParsePosition")) (by decide) (by decide)
theorem d7_31 : decode prog_58_method_1_code 31 = .ok (.aload_n 0, 1) := by decide +kernel
theorem d7_32 : decode prog_58_method_1_code 32 = .ok (.bipush 16, 2) := by decide +kernel
theorem d7_34 : decode prog_58_method_1_code 34 = .ok (.newarray .int, 2) := by decide +kernel
theorem wd_55 {Z : State} {a0 : Array Value} (hw : ∀ d ∈ tables_1, d.before a0 Z = true) : ((Jvm.Cond.arrayClass Jvm.ClassFile.FieldType.int)).before a0 Z = true := hw _ (List.mem_of_getElem? (i := 55) rfl)
theorem d7_36 : decode prog_58_method_1_code 36 = .ok (.putfield 25, 3) := by decide +kernel
theorem wd_56 {Z : State} {a0 : Array Value} (hw : ∀ d ∈ tables_1, d.before a0 Z = true) : ((Jvm.Cond.fieldLink "com/example/careful_ledger/carefulledger/json/PlainLine" (25 : Nat) "com/example/careful_ledger/carefulledger/json/PlainLine" "partEnds" "[I")).before a0 Z = true := hw _ (List.mem_of_getElem? (i := 56) rfl)
theorem wd_57 {Z : State} {a0 : Array Value} (hw : ∀ d ∈ tables_1, d.before a0 Z = true) : ((Jvm.Cond.lays "com/example/careful_ledger/carefulledger/json/PlainLine" "com/example/careful_ledger/carefulledger/json/PlainLine" "partEnds" "[I")).before a0 Z = true := hw _ (List.mem_of_getElem? (i := 57) rfl)
theorem sl_5 {Z : State} {a0 : Array Value} (hw : ∀ d ∈ tables_1, d.before a0 Z = true) : RoadKit.slotOf Z "com/example/careful_ledger/carefulledger/json/PlainLine" "partEnds" "[I" ≠ RoadKit.slotOf Z "com/example/careful_ledger/carefulledger/json/PlainLine" "bytes" "[B" := slot_ne (Or.inl (wd_57 hw)) (Or.inl (wd_39 hw)) (by decide) (t := (.array .int)) (t' := (.array .byte)) (by decide) (by decide)
theorem sl_6 {Z : State} {a0 : Array Value} (hw : ∀ d ∈ tables_1, d.before a0 Z = true) : RoadKit.slotOf Z "com/example/careful_ledger/carefulledger/json/PlainLine" "partEnds" "[I" ≠ RoadKit.slotOf Z "com/example/careful_ledger/carefulledger/json/PlainLine" "number" "Ljava/text/ParsePosition;" := slot_ne (Or.inl (wd_57 hw)) (Or.inr (wd_52 hw)) (by decide) (t := (.array .int)) (t' := (.object "java/text/ParsePosition")) (by decide) (by decide)
theorem sl_7 {Z : State} {a0 : Array Value} (hw : ∀ d ∈ tables_1, d.before a0 Z = true) : RoadKit.slotOf Z "com/example/careful_ledger/carefulledger/json/PlainLine" "partEnds" "[I" ≠ RoadKit.slotOf Z "com/example/careful_ledger/carefulledger/json/PlainLine" "parts" "[B" := slot_ne (Or.inl (wd_57 hw)) (Or.inl (wd_54 hw)) (by decide) (t := (.array .int)) (t' := (.array .byte)) (by decide) (by decide)
theorem d7_39 : decode prog_58_method_1_code 39 = .ok (.aload_n 0, 1) := by decide +kernel
theorem d7_40 : decode prog_58_method_1_code 40 = .ok (.bipush 16, 2) := by decide +kernel
theorem d7_42 : decode prog_58_method_1_code 42 = .ok (.anewarray 2, 3) := by decide +kernel
theorem wd_58 {Z : State} {a0 : Array Value} (hw : ∀ d ∈ tables_1, d.before a0 Z = true) : ((Jvm.Cond.classLink "com/example/careful_ledger/carefulledger/json/PlainLine" (2 : Nat) "java/lang/Object")).before a0 Z = true := hw _ (List.mem_of_getElem? (i := 58) rfl)
theorem wd_59 {Z : State} {a0 : Array Value} (hw : ∀ d ∈ tables_1, d.before a0 Z = true) : ((Jvm.Cond.arrayOver (Jvm.ClassFile.FieldType.object "java/lang/Object"))).before a0 Z = true := hw _ (List.mem_of_getElem? (i := 59) rfl)
theorem d7_45 : decode prog_58_method_1_code 45 = .ok (.putfield 29, 3) := by decide +kernel
theorem wd_60 {Z : State} {a0 : Array Value} (hw : ∀ d ∈ tables_1, d.before a0 Z = true) : ((Jvm.Cond.fieldLink "com/example/careful_ledger/carefulledger/json/PlainLine" (29 : Nat) "com/example/careful_ledger/carefulledger/json/PlainLine" "tags" "[Ljava/lang/Object;")).before a0 Z = true := hw _ (List.mem_of_getElem? (i := 60) rfl)
theorem wd_61 {Z : State} {a0 : Array Value} (hw : ∀ d ∈ tables_1, d.before a0 Z = true) : ((Jvm.Cond.lays "com/example/careful_ledger/carefulledger/json/PlainLine" "com/example/careful_ledger/carefulledger/json/PlainLine" "tags" "[Ljava/lang/Object;")).before a0 Z = true := hw _ (List.mem_of_getElem? (i := 61) rfl)
theorem sl_8 {Z : State} {a0 : Array Value} (hw : ∀ d ∈ tables_1, d.before a0 Z = true) : RoadKit.slotOf Z "com/example/careful_ledger/carefulledger/json/PlainLine" "tags" "[Ljava/lang/Object;" ≠ RoadKit.slotOf Z "com/example/careful_ledger/carefulledger/json/PlainLine" "bytes" "[B" := slot_ne (Or.inl (wd_61 hw)) (Or.inl (wd_39 hw)) (by decide) (t := (.array (.object "java/lang/Object"))) (t' := (.array .byte)) (by decide) (by decide)
theorem sl_9 {Z : State} {a0 : Array Value} (hw : ∀ d ∈ tables_1, d.before a0 Z = true) : RoadKit.slotOf Z "com/example/careful_ledger/carefulledger/json/PlainLine" "tags" "[Ljava/lang/Object;" ≠ RoadKit.slotOf Z "com/example/careful_ledger/carefulledger/json/PlainLine" "number" "Ljava/text/ParsePosition;" := slot_ne (Or.inl (wd_61 hw)) (Or.inr (wd_52 hw)) (by decide) (t := (.array (.object "java/lang/Object"))) (t' := (.object "java/text/ParsePosition")) (by decide) (by decide)
theorem sl_10 {Z : State} {a0 : Array Value} (hw : ∀ d ∈ tables_1, d.before a0 Z = true) : RoadKit.slotOf Z "com/example/careful_ledger/carefulledger/json/PlainLine" "tags" "[Ljava/lang/Object;" ≠ RoadKit.slotOf Z "com/example/careful_ledger/carefulledger/json/PlainLine" "parts" "[B" := slot_ne (Or.inl (wd_61 hw)) (Or.inl (wd_54 hw)) (by decide) (t := (.array (.object "java/lang/Object"))) (t' := (.array .byte)) (by decide) (by decide)
theorem sl_11 {Z : State} {a0 : Array Value} (hw : ∀ d ∈ tables_1, d.before a0 Z = true) : RoadKit.slotOf Z "com/example/careful_ledger/carefulledger/json/PlainLine" "tags" "[Ljava/lang/Object;" ≠ RoadKit.slotOf Z "com/example/careful_ledger/carefulledger/json/PlainLine" "partEnds" "[I" := slot_ne (Or.inl (wd_61 hw)) (Or.inl (wd_57 hw)) (by decide) (t := (.array (.object "java/lang/Object"))) (t' := (.array .int)) (by decide) (by decide)
theorem d7_48 : decode prog_58_method_1_code 48 = .ok (.return_, 1) := by decide +kernel
theorem sl_12 {Z : State} {a0 : Array Value} (hw : ∀ d ∈ tables_1, d.before a0 Z = true) : RoadKit.slotOf Z "com/example/careful_ledger/carefulledger/json/PlainLine" "bytes" "[B" ≠ RoadKit.slotOf Z "com/example/careful_ledger/carefulledger/json/PlainLine" "number" "Ljava/text/ParsePosition;" := slot_ne (Or.inl (wd_39 hw)) (Or.inr (wd_52 hw)) (by decide) (t := (.array .byte)) (t' := (.object "java/text/ParsePosition")) (by decide) (by decide)
theorem sl_13 {Z : State} {a0 : Array Value} (hw : ∀ d ∈ tables_1, d.before a0 Z = true) : RoadKit.slotOf Z "com/example/careful_ledger/carefulledger/json/PlainLine" "bytes" "[B" ≠ RoadKit.slotOf Z "com/example/careful_ledger/carefulledger/json/PlainLine" "parts" "[B" := slot_ne (Or.inl (wd_39 hw)) (Or.inl (wd_54 hw)) (by decide) (t := (.array .byte)) (t' := (.array .byte)) (by decide) (by decide)
theorem sl_14 {Z : State} {a0 : Array Value} (hw : ∀ d ∈ tables_1, d.before a0 Z = true) : RoadKit.slotOf Z "com/example/careful_ledger/carefulledger/json/PlainLine" "bytes" "[B" ≠ RoadKit.slotOf Z "com/example/careful_ledger/carefulledger/json/PlainLine" "partEnds" "[I" := slot_ne (Or.inl (wd_39 hw)) (Or.inl (wd_57 hw)) (by decide) (t := (.array .byte)) (t' := (.array .int)) (by decide) (by decide)
theorem sl_15 {Z : State} {a0 : Array Value} (hw : ∀ d ∈ tables_1, d.before a0 Z = true) : RoadKit.slotOf Z "com/example/careful_ledger/carefulledger/json/PlainLine" "bytes" "[B" ≠ RoadKit.slotOf Z "com/example/careful_ledger/carefulledger/json/PlainLine" "tags" "[Ljava/lang/Object;" := slot_ne (Or.inl (wd_39 hw)) (Or.inl (wd_61 hw)) (by decide) (t := (.array .byte)) (t' := (.array (.object "java/lang/Object"))) (by decide) (by decide)
theorem wd_68 {Z : State} {a0 : Array Value} (hw : ∀ d ∈ tables_1, d.before a0 Z = true) : ((Jvm.Cond.lays "com/example/careful_ledger/carefulledger/json/PlainLine" "com/example/careful_ledger/carefulledger/json/PlainLine" "at" "I")).before a0 Z = true := hw _ (List.mem_of_getElem? (i := 68) rfl)
theorem sl_16 {Z : State} {a0 : Array Value} (hw : ∀ d ∈ tables_1, d.before a0 Z = true) : RoadKit.slotOf Z "com/example/careful_ledger/carefulledger/json/PlainLine" "at" "I" ≠ RoadKit.slotOf Z "com/example/careful_ledger/carefulledger/json/PlainLine" "bytes" "[B" := slot_ne (Or.inl (wd_68 hw)) (Or.inl (wd_39 hw)) (by decide) (t := .int) (t' := (.array .byte)) (by decide) (by decide)
theorem sl_17 {Z : State} {a0 : Array Value} (hw : ∀ d ∈ tables_1, d.before a0 Z = true) : RoadKit.slotOf Z "com/example/careful_ledger/carefulledger/json/PlainLine" "at" "I" ≠ RoadKit.slotOf Z "com/example/careful_ledger/carefulledger/json/PlainLine" "number" "Ljava/text/ParsePosition;" := slot_ne (Or.inl (wd_68 hw)) (Or.inr (wd_52 hw)) (by decide) (t := .int) (t' := (.object "java/text/ParsePosition")) (by decide) (by decide)
theorem sl_18 {Z : State} {a0 : Array Value} (hw : ∀ d ∈ tables_1, d.before a0 Z = true) : RoadKit.slotOf Z "com/example/careful_ledger/carefulledger/json/PlainLine" "at" "I" ≠ RoadKit.slotOf Z "com/example/careful_ledger/carefulledger/json/PlainLine" "parts" "[B" := slot_ne (Or.inl (wd_68 hw)) (Or.inl (wd_54 hw)) (by decide) (t := .int) (t' := (.array .byte)) (by decide) (by decide)
theorem sl_19 {Z : State} {a0 : Array Value} (hw : ∀ d ∈ tables_1, d.before a0 Z = true) : RoadKit.slotOf Z "com/example/careful_ledger/carefulledger/json/PlainLine" "at" "I" ≠ RoadKit.slotOf Z "com/example/careful_ledger/carefulledger/json/PlainLine" "partEnds" "[I" := slot_ne (Or.inl (wd_68 hw)) (Or.inl (wd_57 hw)) (by decide) (t := .int) (t' := (.array .int)) (by decide) (by decide)
theorem sl_20 {Z : State} {a0 : Array Value} (hw : ∀ d ∈ tables_1, d.before a0 Z = true) : RoadKit.slotOf Z "com/example/careful_ledger/carefulledger/json/PlainLine" "at" "I" ≠ RoadKit.slotOf Z "com/example/careful_ledger/carefulledger/json/PlainLine" "tags" "[Ljava/lang/Object;" := slot_ne (Or.inl (wd_68 hw)) (Or.inl (wd_61 hw)) (by decide) (t := .int) (t' := (.array (.object "java/lang/Object"))) (by decide) (by decide)
theorem wd_70 {Z : State} {a0 : Array Value} (hw : ∀ d ∈ tables_1, d.before a0 Z = true) : ((Jvm.Cond.lays "com/example/careful_ledger/carefulledger/json/PlainLine" "com/example/careful_ledger/carefulledger/json/PlainLine" "end" "I")).before a0 Z = true := hw _ (List.mem_of_getElem? (i := 70) rfl)
theorem sl_21 {Z : State} {a0 : Array Value} (hw : ∀ d ∈ tables_1, d.before a0 Z = true) : RoadKit.slotOf Z "com/example/careful_ledger/carefulledger/json/PlainLine" "end" "I" ≠ RoadKit.slotOf Z "com/example/careful_ledger/carefulledger/json/PlainLine" "bytes" "[B" := slot_ne (Or.inl (wd_70 hw)) (Or.inl (wd_39 hw)) (by decide) (t := .int) (t' := (.array .byte)) (by decide) (by decide)
theorem sl_22 {Z : State} {a0 : Array Value} (hw : ∀ d ∈ tables_1, d.before a0 Z = true) : RoadKit.slotOf Z "com/example/careful_ledger/carefulledger/json/PlainLine" "end" "I" ≠ RoadKit.slotOf Z "com/example/careful_ledger/carefulledger/json/PlainLine" "number" "Ljava/text/ParsePosition;" := slot_ne (Or.inl (wd_70 hw)) (Or.inr (wd_52 hw)) (by decide) (t := .int) (t' := (.object "java/text/ParsePosition")) (by decide) (by decide)
theorem sl_23 {Z : State} {a0 : Array Value} (hw : ∀ d ∈ tables_1, d.before a0 Z = true) : RoadKit.slotOf Z "com/example/careful_ledger/carefulledger/json/PlainLine" "end" "I" ≠ RoadKit.slotOf Z "com/example/careful_ledger/carefulledger/json/PlainLine" "parts" "[B" := slot_ne (Or.inl (wd_70 hw)) (Or.inl (wd_54 hw)) (by decide) (t := .int) (t' := (.array .byte)) (by decide) (by decide)
theorem sl_24 {Z : State} {a0 : Array Value} (hw : ∀ d ∈ tables_1, d.before a0 Z = true) : RoadKit.slotOf Z "com/example/careful_ledger/carefulledger/json/PlainLine" "end" "I" ≠ RoadKit.slotOf Z "com/example/careful_ledger/carefulledger/json/PlainLine" "partEnds" "[I" := slot_ne (Or.inl (wd_70 hw)) (Or.inl (wd_57 hw)) (by decide) (t := .int) (t' := (.array .int)) (by decide) (by decide)
theorem sl_25 {Z : State} {a0 : Array Value} (hw : ∀ d ∈ tables_1, d.before a0 Z = true) : RoadKit.slotOf Z "com/example/careful_ledger/carefulledger/json/PlainLine" "end" "I" ≠ RoadKit.slotOf Z "com/example/careful_ledger/carefulledger/json/PlainLine" "tags" "[Ljava/lang/Object;" := slot_ne (Or.inl (wd_70 hw)) (Or.inl (wd_61 hw)) (by decide) (t := .int) (t' := (.array (.object "java/lang/Object"))) (by decide) (by decide)
theorem sl_26 {Z : State} {a0 : Array Value} (hw : ∀ d ∈ tables_1, d.before a0 Z = true) : RoadKit.slotOf Z "com/example/careful_ledger/carefulledger/json/PlainLine" "parts" "[B" ≠ RoadKit.slotOf Z "com/example/careful_ledger/carefulledger/json/PlainLine" "partEnds" "[I" := slot_ne (Or.inl (wd_54 hw)) (Or.inl (wd_57 hw)) (by decide) (t := (.array .byte)) (t' := (.array .int)) (by decide) (by decide)
theorem sl_27 {Z : State} {a0 : Array Value} (hw : ∀ d ∈ tables_1, d.before a0 Z = true) : RoadKit.slotOf Z "com/example/careful_ledger/carefulledger/json/PlainLine" "parts" "[B" ≠ RoadKit.slotOf Z "com/example/careful_ledger/carefulledger/json/PlainLine" "tags" "[Ljava/lang/Object;" := slot_ne (Or.inl (wd_54 hw)) (Or.inl (wd_61 hw)) (by decide) (t := (.array .byte)) (t' := (.array (.object "java/lang/Object"))) (by decide) (by decide)
theorem sl_28 {Z : State} {a0 : Array Value} (hw : ∀ d ∈ tables_1, d.before a0 Z = true) : RoadKit.slotOf Z "com/example/careful_ledger/carefulledger/json/PlainLine" "partEnds" "[I" ≠ RoadKit.slotOf Z "com/example/careful_ledger/carefulledger/json/PlainLine" "tags" "[Ljava/lang/Object;" := slot_ne (Or.inl (wd_57 hw)) (Or.inl (wd_61 hw)) (by decide) (t := (.array .int)) (t' := (.array (.object "java/lang/Object"))) (by decide) (by decide)
theorem wd_77 {Z : State} {a0 : Array Value} (hw : ∀ d ∈ tables_1, d.before a0 Z = true) : ((Jvm.Cond.lays "com/example/careful_ledger/carefulledger/json/PlainLine" "com/example/careful_ledger/carefulledger/json/PlainLine" "shapeReader" "Ljava/lang/Object;")).before a0 Z = true := hw _ (List.mem_of_getElem? (i := 77) rfl)
theorem sl_29 {Z : State} {a0 : Array Value} (hw : ∀ d ∈ tables_1, d.before a0 Z = true) : RoadKit.slotOf Z "com/example/careful_ledger/carefulledger/json/PlainLine" "shapeReader" "Ljava/lang/Object;" ≠ RoadKit.slotOf Z "com/example/careful_ledger/carefulledger/json/PlainLine" "bytes" "[B" := slot_ne (Or.inl (wd_77 hw)) (Or.inl (wd_39 hw)) (by decide) (t := (.object "java/lang/Object")) (t' := (.array .byte)) (by decide) (by decide)
theorem sl_30 {Z : State} {a0 : Array Value} (hw : ∀ d ∈ tables_1, d.before a0 Z = true) : RoadKit.slotOf Z "com/example/careful_ledger/carefulledger/json/PlainLine" "shapeReader" "Ljava/lang/Object;" ≠ RoadKit.slotOf Z "com/example/careful_ledger/carefulledger/json/PlainLine" "number" "Ljava/text/ParsePosition;" := slot_ne (Or.inl (wd_77 hw)) (Or.inr (wd_52 hw)) (by decide) (t := (.object "java/lang/Object")) (t' := (.object "java/text/ParsePosition")) (by decide) (by decide)
theorem sl_31 {Z : State} {a0 : Array Value} (hw : ∀ d ∈ tables_1, d.before a0 Z = true) : RoadKit.slotOf Z "com/example/careful_ledger/carefulledger/json/PlainLine" "shapeReader" "Ljava/lang/Object;" ≠ RoadKit.slotOf Z "com/example/careful_ledger/carefulledger/json/PlainLine" "parts" "[B" := slot_ne (Or.inl (wd_77 hw)) (Or.inl (wd_54 hw)) (by decide) (t := (.object "java/lang/Object")) (t' := (.array .byte)) (by decide) (by decide)
theorem sl_32 {Z : State} {a0 : Array Value} (hw : ∀ d ∈ tables_1, d.before a0 Z = true) : RoadKit.slotOf Z "com/example/careful_ledger/carefulledger/json/PlainLine" "shapeReader" "Ljava/lang/Object;" ≠ RoadKit.slotOf Z "com/example/careful_ledger/carefulledger/json/PlainLine" "partEnds" "[I" := slot_ne (Or.inl (wd_77 hw)) (Or.inl (wd_57 hw)) (by decide) (t := (.object "java/lang/Object")) (t' := (.array .int)) (by decide) (by decide)
theorem sl_33 {Z : State} {a0 : Array Value} (hw : ∀ d ∈ tables_1, d.before a0 Z = true) : RoadKit.slotOf Z "com/example/careful_ledger/carefulledger/json/PlainLine" "shapeReader" "Ljava/lang/Object;" ≠ RoadKit.slotOf Z "com/example/careful_ledger/carefulledger/json/PlainLine" "tags" "[Ljava/lang/Object;" := slot_ne (Or.inl (wd_77 hw)) (Or.inl (wd_61 hw)) (by decide) (t := (.object "java/lang/Object")) (t' := (.array (.object "java/lang/Object"))) (by decide) (by decide)
theorem wd_79 {Z : State} {a0 : Array Value} (hw : ∀ d ∈ tables_1, d.before a0 Z = true) : ((Jvm.Cond.lays "com/example/careful_ledger/carefulledger/json/PlainLine" "com/example/careful_ledger/carefulledger/json/PlainLine" "values" "I")).before a0 Z = true := hw _ (List.mem_of_getElem? (i := 79) rfl)
theorem sl_34 {Z : State} {a0 : Array Value} (hw : ∀ d ∈ tables_1, d.before a0 Z = true) : RoadKit.slotOf Z "com/example/careful_ledger/carefulledger/json/PlainLine" "values" "I" ≠ RoadKit.slotOf Z "com/example/careful_ledger/carefulledger/json/PlainLine" "bytes" "[B" := slot_ne (Or.inl (wd_79 hw)) (Or.inl (wd_39 hw)) (by decide) (t := .int) (t' := (.array .byte)) (by decide) (by decide)
theorem sl_35 {Z : State} {a0 : Array Value} (hw : ∀ d ∈ tables_1, d.before a0 Z = true) : RoadKit.slotOf Z "com/example/careful_ledger/carefulledger/json/PlainLine" "values" "I" ≠ RoadKit.slotOf Z "com/example/careful_ledger/carefulledger/json/PlainLine" "number" "Ljava/text/ParsePosition;" := slot_ne (Or.inl (wd_79 hw)) (Or.inr (wd_52 hw)) (by decide) (t := .int) (t' := (.object "java/text/ParsePosition")) (by decide) (by decide)
theorem sl_36 {Z : State} {a0 : Array Value} (hw : ∀ d ∈ tables_1, d.before a0 Z = true) : RoadKit.slotOf Z "com/example/careful_ledger/carefulledger/json/PlainLine" "values" "I" ≠ RoadKit.slotOf Z "com/example/careful_ledger/carefulledger/json/PlainLine" "parts" "[B" := slot_ne (Or.inl (wd_79 hw)) (Or.inl (wd_54 hw)) (by decide) (t := .int) (t' := (.array .byte)) (by decide) (by decide)
theorem sl_37 {Z : State} {a0 : Array Value} (hw : ∀ d ∈ tables_1, d.before a0 Z = true) : RoadKit.slotOf Z "com/example/careful_ledger/carefulledger/json/PlainLine" "values" "I" ≠ RoadKit.slotOf Z "com/example/careful_ledger/carefulledger/json/PlainLine" "partEnds" "[I" := slot_ne (Or.inl (wd_79 hw)) (Or.inl (wd_57 hw)) (by decide) (t := .int) (t' := (.array .int)) (by decide) (by decide)
theorem sl_38 {Z : State} {a0 : Array Value} (hw : ∀ d ∈ tables_1, d.before a0 Z = true) : RoadKit.slotOf Z "com/example/careful_ledger/carefulledger/json/PlainLine" "values" "I" ≠ RoadKit.slotOf Z "com/example/careful_ledger/carefulledger/json/PlainLine" "tags" "[Ljava/lang/Object;" := slot_ne (Or.inl (wd_79 hw)) (Or.inl (wd_61 hw)) (by decide) (t := .int) (t' := (.array (.object "java/lang/Object"))) (by decide) (by decide)
theorem wd_81 {Z : State} {a0 : Array Value} (hw : ∀ d ∈ tables_1, d.before a0 Z = true) : ((Jvm.Cond.lays "com/example/careful_ledger/carefulledger/json/PlainLine" "com/example/careful_ledger/carefulledger/json/PlainLine" "learning" "Z")).before a0 Z = true := hw _ (List.mem_of_getElem? (i := 81) rfl)
theorem sl_39 {Z : State} {a0 : Array Value} (hw : ∀ d ∈ tables_1, d.before a0 Z = true) : RoadKit.slotOf Z "com/example/careful_ledger/carefulledger/json/PlainLine" "learning" "Z" ≠ RoadKit.slotOf Z "com/example/careful_ledger/carefulledger/json/PlainLine" "bytes" "[B" := slot_ne (Or.inl (wd_81 hw)) (Or.inl (wd_39 hw)) (by decide) (t := .boolean) (t' := (.array .byte)) (by decide) (by decide)
theorem sl_40 {Z : State} {a0 : Array Value} (hw : ∀ d ∈ tables_1, d.before a0 Z = true) : RoadKit.slotOf Z "com/example/careful_ledger/carefulledger/json/PlainLine" "learning" "Z" ≠ RoadKit.slotOf Z "com/example/careful_ledger/carefulledger/json/PlainLine" "number" "Ljava/text/ParsePosition;" := slot_ne (Or.inl (wd_81 hw)) (Or.inr (wd_52 hw)) (by decide) (t := .boolean) (t' := (.object "java/text/ParsePosition")) (by decide) (by decide)
theorem sl_41 {Z : State} {a0 : Array Value} (hw : ∀ d ∈ tables_1, d.before a0 Z = true) : RoadKit.slotOf Z "com/example/careful_ledger/carefulledger/json/PlainLine" "learning" "Z" ≠ RoadKit.slotOf Z "com/example/careful_ledger/carefulledger/json/PlainLine" "parts" "[B" := slot_ne (Or.inl (wd_81 hw)) (Or.inl (wd_54 hw)) (by decide) (t := .boolean) (t' := (.array .byte)) (by decide) (by decide)
theorem sl_42 {Z : State} {a0 : Array Value} (hw : ∀ d ∈ tables_1, d.before a0 Z = true) : RoadKit.slotOf Z "com/example/careful_ledger/carefulledger/json/PlainLine" "learning" "Z" ≠ RoadKit.slotOf Z "com/example/careful_ledger/carefulledger/json/PlainLine" "partEnds" "[I" := slot_ne (Or.inl (wd_81 hw)) (Or.inl (wd_57 hw)) (by decide) (t := .boolean) (t' := (.array .int)) (by decide) (by decide)
theorem sl_43 {Z : State} {a0 : Array Value} (hw : ∀ d ∈ tables_1, d.before a0 Z = true) : RoadKit.slotOf Z "com/example/careful_ledger/carefulledger/json/PlainLine" "learning" "Z" ≠ RoadKit.slotOf Z "com/example/careful_ledger/carefulledger/json/PlainLine" "tags" "[Ljava/lang/Object;" := slot_ne (Or.inl (wd_81 hw)) (Or.inl (wd_61 hw)) (by decide) (t := .boolean) (t' := (.array (.object "java/lang/Object"))) (by decide) (by decide)
theorem wd_83 {Z : State} {a0 : Array Value} (hw : ∀ d ∈ tables_1, d.before a0 Z = true) : ((Jvm.Cond.lays "com/example/careful_ledger/carefulledger/json/PlainLine" "com/example/careful_ledger/carefulledger/json/PlainLine" "partStart" "I")).before a0 Z = true := hw _ (List.mem_of_getElem? (i := 83) rfl)
theorem sl_44 {Z : State} {a0 : Array Value} (hw : ∀ d ∈ tables_1, d.before a0 Z = true) : RoadKit.slotOf Z "com/example/careful_ledger/carefulledger/json/PlainLine" "partStart" "I" ≠ RoadKit.slotOf Z "com/example/careful_ledger/carefulledger/json/PlainLine" "bytes" "[B" := slot_ne (Or.inl (wd_83 hw)) (Or.inl (wd_39 hw)) (by decide) (t := .int) (t' := (.array .byte)) (by decide) (by decide)
theorem sl_45 {Z : State} {a0 : Array Value} (hw : ∀ d ∈ tables_1, d.before a0 Z = true) : RoadKit.slotOf Z "com/example/careful_ledger/carefulledger/json/PlainLine" "partStart" "I" ≠ RoadKit.slotOf Z "com/example/careful_ledger/carefulledger/json/PlainLine" "number" "Ljava/text/ParsePosition;" := slot_ne (Or.inl (wd_83 hw)) (Or.inr (wd_52 hw)) (by decide) (t := .int) (t' := (.object "java/text/ParsePosition")) (by decide) (by decide)
theorem sl_46 {Z : State} {a0 : Array Value} (hw : ∀ d ∈ tables_1, d.before a0 Z = true) : RoadKit.slotOf Z "com/example/careful_ledger/carefulledger/json/PlainLine" "partStart" "I" ≠ RoadKit.slotOf Z "com/example/careful_ledger/carefulledger/json/PlainLine" "parts" "[B" := slot_ne (Or.inl (wd_83 hw)) (Or.inl (wd_54 hw)) (by decide) (t := .int) (t' := (.array .byte)) (by decide) (by decide)
theorem sl_47 {Z : State} {a0 : Array Value} (hw : ∀ d ∈ tables_1, d.before a0 Z = true) : RoadKit.slotOf Z "com/example/careful_ledger/carefulledger/json/PlainLine" "partStart" "I" ≠ RoadKit.slotOf Z "com/example/careful_ledger/carefulledger/json/PlainLine" "partEnds" "[I" := slot_ne (Or.inl (wd_83 hw)) (Or.inl (wd_57 hw)) (by decide) (t := .int) (t' := (.array .int)) (by decide) (by decide)
theorem sl_48 {Z : State} {a0 : Array Value} (hw : ∀ d ∈ tables_1, d.before a0 Z = true) : RoadKit.slotOf Z "com/example/careful_ledger/carefulledger/json/PlainLine" "partStart" "I" ≠ RoadKit.slotOf Z "com/example/careful_ledger/carefulledger/json/PlainLine" "tags" "[Ljava/lang/Object;" := slot_ne (Or.inl (wd_83 hw)) (Or.inl (wd_61 hw)) (by decide) (t := .int) (t' := (.array (.object "java/lang/Object"))) (by decide) (by decide)
theorem pn_com_example_careful_ledger_carefulledger_json_PlainLine : plainName "com/example/careful_ledger/carefulledger/json/PlainLine" = true := by first | (simp [plainName, overriddenIn]; done) | decide +kernel
theorem ef_7 (m : MethodId) (x0 : Addr) : entryFrame m #[(.ref x0)] 1 = mkF m 0 #[.val (.ref x0)] [] := by first | (simp [entryFrame, mkF, argsToLocals, Value.category]; done) | rfl
def Q7 (Z : State) (vr0 : Addr) (u_bytes : Value) (u_at : Value) (u_end : Value) (u_parts : Value) (u_partEnds : Value) (u_tags : Value) (u_shapeReader : Value) (u_values : Value) (u_learning : Value) (u_partStart : Value) (u_number_vr0 : Value) (h0 : Heap) (n0 : Nat) (v : Option Value) (h : Heap) (L : List Loc) : Prop := ∃ bb : Addr, ∃ p : Addr, ∃ en : Addr, ∃ tg : Addr, ∃ kp : ClassId, ∃ ke : ClassId, ∃ kt : ClassId, v = none ∧ Fr n0 L ∧ Keep h0 h [vr0] ∧ h0.size ≤ p ∧ h0.size ≤ en ∧ h0.size ≤ tg ∧ Fld Z h vr0 "com/example/careful_ledger/carefulledger/json/PlainLine" "bytes" "[B" (.ref bb) ∧ Fld Z h vr0 "com/example/careful_ledger/carefulledger/json/PlainLine" "at" "I" u_at ∧ Fld Z h vr0 "com/example/careful_ledger/carefulledger/json/PlainLine" "end" "I" u_end ∧ Fld Z h vr0 "com/example/careful_ledger/carefulledger/json/PlainLine" "parts" "[B" (.ref p) ∧ Fld Z h vr0 "com/example/careful_ledger/carefulledger/json/PlainLine" "partEnds" "[I" (.ref en) ∧ Fld Z h vr0 "com/example/careful_ledger/carefulledger/json/PlainLine" "tags" "[Ljava/lang/Object;" (.ref tg) ∧ Fld Z h vr0 "com/example/careful_ledger/carefulledger/json/PlainLine" "shapeReader" "Ljava/lang/Object;" u_shapeReader ∧ Fld Z h vr0 "com/example/careful_ledger/carefulledger/json/PlainLine" "values" "I" u_values ∧ Fld Z h vr0 "com/example/careful_ledger/carefulledger/json/PlainLine" "learning" "Z" u_learning ∧ Fld Z h vr0 "com/example/careful_ledger/carefulledger/json/PlainLine" "partStart" "I" u_partStart ∧ Arv Z h p kp .byte (64 : Int32) (List.replicate 64 (.int (0 : Int32))) (.int (0 : Int32)) ∧ Arv Z h en ke .int (16 : Int32) [(.int (0 : Int32)), (.int (0 : Int32)), (.int (0 : Int32))] (.int (0 : Int32)) ∧ Arv Z h tg kt (.object "java/lang/Object") (16 : Int32) [.null, .null] .null ∧ Ovr Z kt "java/lang/Object" ∧ p ≠ en ∧ p ≠ tg ∧ en ≠ tg
set_option maxRecDepth 65536 in
set_option maxHeartbeats 40000000 in
theorem rm7 (l : Launch) (Z : State) (a0 : Array Value) (hw : ∀ d ∈ tables_1, d.before a0 Z = true) (ws : List Jvm.Cond) (vr0 : Addr) (u_bytes : Value) (u_at : Value) (u_end : Value) (u_parts : Value) (u_partEnds : Value) (u_tags : Value) (u_shapeReader : Value) (u_values : Value) (u_learning : Value) (u_partStart : Value) (u_number_vr0 : Value) (h0 : Heap) (n0 : Nat) (Z0 : n0 ≤ h0.size) (E_vr0 : Exa Z h0 vr0 "com/example/careful_ledger/carefulledger/json/PlainLine") (F_bytes_vr0 : Fld Z h0 vr0 "com/example/careful_ledger/carefulledger/json/PlainLine" "bytes" "[B" u_bytes) (F_at_vr0 : Fld Z h0 vr0 "com/example/careful_ledger/carefulledger/json/PlainLine" "at" "I" u_at) (F_end_vr0 : Fld Z h0 vr0 "com/example/careful_ledger/carefulledger/json/PlainLine" "end" "I" u_end) (F_parts_vr0 : Fld Z h0 vr0 "com/example/careful_ledger/carefulledger/json/PlainLine" "parts" "[B" u_parts) (F_partEnds_vr0 : Fld Z h0 vr0 "com/example/careful_ledger/carefulledger/json/PlainLine" "partEnds" "[I" u_partEnds) (F_tags_vr0 : Fld Z h0 vr0 "com/example/careful_ledger/carefulledger/json/PlainLine" "tags" "[Ljava/lang/Object;" u_tags) (F_shapeReader_vr0 : Fld Z h0 vr0 "com/example/careful_ledger/carefulledger/json/PlainLine" "shapeReader" "Ljava/lang/Object;" u_shapeReader) (F_values_vr0 : Fld Z h0 vr0 "com/example/careful_ledger/carefulledger/json/PlainLine" "values" "I" u_values) (F_learning_vr0 : Fld Z h0 vr0 "com/example/careful_ledger/carefulledger/json/PlainLine" "learning" "Z" u_learning) (F_partStart_vr0 : Fld Z h0 vr0 "com/example/careful_ledger/carefulledger/json/PlainLine" "partStart" "I" u_partStart) (g_vr0 : n0 ≤ vr0) (F_number_vr0 : Fld Z h0 vr0 "com/example/careful_ledger/carefulledger/json/PlainLine" "number" "Ljava/text/ParsePosition;" u_number_vr0) :
    MetFree l (⟨"com/example/careful_ledger/carefulledger/json/PlainLine", "<init>", "()V"⟩ : MethodName) (head1 (Jvm.Cond.code (⟨"com/example/careful_ledger/carefulledger/json/PlainLine", "<init>", "()V"⟩ : MethodName) prog_58_method_1_code 1 none :: ws) ({ frames := 2, cells := 5, slots := 98, locals := 27 } : Room)) (fun a U => a = #[(.ref vr0)] ∧ Z.Warmed39 U.vm ∧ U.heap = h0) (fun _ _ _ _ _ => True) (fun _ U o U' => ∃ v L, o = .returned v ∧ Q7 Z vr0 u_bytes u_at u_end u_parts u_partEnds u_tags u_shapeReader u_values u_learning u_partStart u_number_vr0 h0 n0 v U'.heap L ∧ FrameEnd U o U' L ({ frames := 2, cells := 5, slots := 98, locals := 27 } : Room).cells ({ frames := 2, cells := 5, slots := 98, locals := 27 } : Room).slots) := by
  refine MetFree.of_bodySF (plainFor_of_name pn_com_example_careful_ledger_carefulledger_json_PlainLine) hisR ?_
  intro p e s m args below meth c s₁ Bd hml0 hP hK
  obtain ⟨rfl, hZ, hh⟩ := hP
  have hx := Bd.exec
  have hby := Bd.bytes
  have hml : c.maxLocals = 1 := hml0
  have hown : s.vm.findClass "com/example/careful_ledger/carefulledger/json/PlainLine" = some m.cls := findClass_of_methodNamed Bd.named
  have hnm := (name_of_methodNamed Bd.named Bd.method).1
  have X0 : Stand p l e ({ frames := 2, cells := 5, slots := 98, locals := 27 } : Room) s m #[(.ref vr0)] below meth c s₁ [] 0 0 := Stand.of_body Bd
  have e0 : s₁.heap = h0 := by rw [← hh, Bd.state]; rfl
  have N0 := Fr.nil n0
  have pre0 : ∀ t, Steps p.tables e below (s₁.setTop (mkF m 0 #[.val (.ref vr0)] [])) t → Steps p.tables e below (s₁.setTop (entryFrame m #[(.ref vr0)] 1)) t := fun t k => castTop (ef_7 m vr0) k
  obtain ⟨T1, X1, e1, st1⟩ := initO X0 hx hZ hown (wd_37 hw) (wd_13 hw) (wd_14 hw) e0 (g := (mkF m 1 #[.val (.ref vr0)] [(.ref vr0)])) rfl (by rw [hml]; rfl) rfl (hb hby d7_1) (by decide) (W := 0) (by show 2 * 0 + _ ≤ _; exact Nat.le_of_eq rfl) (by decide)
  obtain ⟨T2, h2, k2, X2, e2, E2, A2, st2⟩ := newP X1 hx hZ (aty := .byte) (wd_20 hw) e1 (g := (mkF m 6 #[.val (.ref vr0)] [(.int (0 : Int32)), (.ref vr0)])) rfl (hb hby d7_6) rfl (by decide) (cap := 0) (by decide) (by decide) (by decide) (by decide)
  obtain ⟨b2, g2⟩ : ∃ z, z = h0.size := ⟨_, rfl⟩
  rw [← g2] at A2 st2
  have g_b2 : n0 ≤ b2 := Nat.le_trans Z0 (Nat.le_of_eq g2.symm)
  have sz_b2 : h0.size ≤ b2 := Nat.le_trans (Keep.refl h0 [vr0]).1 (Nat.le_of_eq g2.symm)
  have K2 : Keep h0 h2 [vr0] := (Keep.refl h0 [vr0]).ext E2
  have V_b2 : Arv Z h2 b2 k2 .byte (0 : Int32) [] (.int (0 : Int32)) := Arv.new A2 (by decide)
  obtain ⟨T3, h3, X3, e3, W3, st3⟩ := putF X2 hx hZ hown (host := "") (Or.inl (wd_38 hw)) Via.refl e2 (F_bytes_vr0.ext E2) (E_vr0.ext E2) (Or.inl (wd_39 hw)) (wd_32 hw) (ty := (.array .byte)) (by decide) rfl rfl (g := (mkF m 8 #[.val (.ref vr0)] [(.ref b2), (.ref vr0)])) rfl rfl (hb hby d7_8)
  have Fw3 := (F_bytes_vr0.ext E2).same W3
  have N3 := Fr.snoc X3 N0 g_vr0
  have K3 : Keep h0 h3 [vr0] := K2.wr W3 (Or.inl (List.mem_of_getElem? (i := 0) rfl))
  obtain ⟨T4, h4, X4, e4, E4, A4, D4, -, st4⟩ := newO X3 hx hZ hown (wd_40 hw) (wd_41 hw) (wd_42 hw) e3 (g := (mkF m 12 #[.val (.ref vr0)] [(.ref vr0)])) rfl (hb hby d7_12) (by decide) (by decide)
  obtain ⟨b4, g4⟩ : ∃ z, z = h3.size := ⟨_, rfl⟩
  rw [← g4] at A4 D4 st4
  have g_b4 : n0 ≤ b4 := Nat.le_trans (Nat.le_trans (Nat.le_trans Z0 E2.1) (Keep.of_wr W3).1) (Nat.le_of_eq g4.symm)
  have sz_b4 : h0.size ≤ b4 := Nat.le_trans K3.1 (Nat.le_of_eq g4.symm)
  have K4 : Keep h0 h4 [vr0] := K3.ext E4
  have F_index_b4 : Fld Z h4 b4 "java/text/ParsePosition" "index" "I" (.int (0 : Int32)) := D4 (Or.inl (wd_48 hw)) (ty := .int) (by decide)
  have F_errorIndex_b4 : Fld Z h4 b4 "java/text/ParsePosition" "errorIndex" "I" (.int (0 : Int32)) := D4 (Or.inl (wd_50 hw)) (ty := .int) (by decide)
  obtain ⟨_, _, ⟨T5, L5, k5, n5⟩, -, X5, ⟨Lc5, hQ5, l5, y5, z5⟩, st5⟩ := X4.specialBack hx (y := (⟨"java/text/ParsePosition", "<init>", "(I)V"⟩ : MethodName)) rfl hown (mvT hZ (wd_43 hw)) (mvT hZ (wd_44 hw)) (mvT hZ (wd_45 hw)) (by decide) (backOf (W := 2) (rm8 l Z a0 hw [] b4 (0 : Int32) (.int (0 : Int32)) (.int (0 : Int32)) h4 n0 (Nat.le_trans (Nat.le_trans (Nat.le_trans Z0 E2.1) (Keep.of_wr W3).1) E4.1) A4 F_index_b4 g_b4 F_errorIndex_b4) hZ (wd_45 hw) (wd_42 hw) (by decide) (by decide)) (g := (mkF m 17 #[.val (.ref vr0)] [(.int (0 : Int32)), (.ref b4), (.ref b4), (.ref vr0)])) rfl (by rw [hml]; rfl) (Steps.refl _) (a := b4) (argsL := [(.int (0 : Int32))]) (rest := [(.ref b4), (.ref vr0)]) (lenOf pd_6 rfl) rfl (by show 2 * 0 + _ ≤ _; exact Nat.le_of_eq rfl) (hb hby d7_17) (fun _ _ => ⟨rfl, e4, (by decide : 2 + 0 ≤ _), (by decide : 2 + 0 ≤ _)⟩)
  dsimp only [Pt.U, Pt.locs, Pt.cells, Pt.slots] at X5 l5 y5 z5 st5 hQ5
  subst l5 y5 z5
  obtain ⟨rfl, N5q, p5_0⟩ := hQ5
  have N5 := Fr.app N3 N5q
  have K5 : Keep h0 T5.heap [vr0] := K4.trans p5_0 (allS (Or.inr sz_b4) all0)
  obtain ⟨T6, h6, X6, e6, W6, st6⟩ := putF X5 hx hZ hown (host := "") (Or.inl (wd_51 hw)) Via.refl rfl ((((F_number_vr0.ext E2).other W3 (Or.inr (sl_2 hw))).ext E4).keep p5_0 (ninS (Nat.ne_of_lt (Nat.lt_of_lt_of_le ((E_vr0.ext E2).wr W3).lt (Nat.le_of_eq g4.symm))) nin0)) ((((E_vr0.ext E2).wr W3).ext E4).keep p5_0) (Or.inr ⟨(wd_52 hw), rfl, hnm⟩) (wd_32 hw) (ty := (.object "java/text/ParsePosition")) (by decide) rfl rfl (g := (mkF m 20 #[.val (.ref vr0)] [(.ref b4), (.ref vr0)])) rfl rfl (hb hby d7_20)
  have Fw6 := ((((F_number_vr0.ext E2).other W3 (Or.inr (sl_2 hw))).ext E4).keep p5_0 (ninS (Nat.ne_of_lt (Nat.lt_of_lt_of_le ((E_vr0.ext E2).wr W3).lt (Nat.le_of_eq g4.symm))) nin0)).same W6
  have N6 := Fr.snoc X6 N5 g_vr0
  have K6 : Keep h0 h6 [vr0] := K5.wr W6 (Or.inl (List.mem_of_getElem? (i := 0) rfl))
  obtain ⟨T7, h7, k7, X7, e7, E7, A7, st7⟩ := newP X6 hx hZ (aty := .byte) (wd_20 hw) e6 (g := (mkF m 26 #[.val (.ref vr0)] [(.int (64 : Int32)), (.ref vr0)])) rfl (hb hby d7_26) rfl (by decide) (cap := 64) (by decide) (by decide) (by decide) (by decide)
  obtain ⟨b7, g7⟩ : ∃ z, z = h6.size := ⟨_, rfl⟩
  rw [← g7] at A7 st7
  have g_b7 : n0 ≤ b7 := Nat.le_trans (Nat.le_trans (Nat.le_trans (Nat.le_trans (Nat.le_trans (Nat.le_trans Z0 E2.1) (Keep.of_wr W3).1) E4.1) p5_0.1) (Keep.of_wr W6).1) (Nat.le_of_eq g7.symm)
  have sz_b7 : h0.size ≤ b7 := Nat.le_trans K6.1 (Nat.le_of_eq g7.symm)
  have K7 : Keep h0 h7 [vr0] := K6.ext E7
  have V_b7 : Arv Z h7 b7 k7 .byte (64 : Int32) (List.replicate 64 (.int (0 : Int32))) (.int (0 : Int32)) := (Arv.new A7 (by decide)).pad (pad_rep [] (.int (0 : Int32)) 64)
  obtain ⟨T8, h8, X8, e8, W8, st8⟩ := putF X7 hx hZ hown (host := "") (Or.inl (wd_53 hw)) Via.refl e7 ((((((F_parts_vr0.ext E2).other W3 (Or.inr (sl_3 hw))).ext E4).keep p5_0 (ninS (Nat.ne_of_lt (Nat.lt_of_lt_of_le ((E_vr0.ext E2).wr W3).lt (Nat.le_of_eq g4.symm))) nin0)).other W6 (Or.inr (sl_4 hw))).ext E7) ((((((E_vr0.ext E2).wr W3).ext E4).keep p5_0).wr W6).ext E7) (Or.inl (wd_54 hw)) (wd_32 hw) (ty := (.array .byte)) (by decide) rfl rfl (g := (mkF m 28 #[.val (.ref vr0)] [(.ref b7), (.ref vr0)])) rfl rfl (hb hby d7_28)
  have Fw8 := ((((((F_parts_vr0.ext E2).other W3 (Or.inr (sl_3 hw))).ext E4).keep p5_0 (ninS (Nat.ne_of_lt (Nat.lt_of_lt_of_le ((E_vr0.ext E2).wr W3).lt (Nat.le_of_eq g4.symm))) nin0)).other W6 (Or.inr (sl_4 hw))).ext E7).same W8
  have N8 := Fr.snoc X8 N6 g_vr0
  have K8 : Keep h0 h8 [vr0] := K7.wr W8 (Or.inl (List.mem_of_getElem? (i := 0) rfl))
  obtain ⟨T9, h9, k9, X9, e9, E9, A9, st9⟩ := newP X8 hx hZ (aty := .int) (wd_55 hw) e8 (g := (mkF m 34 #[.val (.ref vr0)] [(.int (16 : Int32)), (.ref vr0)])) rfl (hb hby d7_34) rfl (by decide) (cap := 16) (by decide) (by decide) (by decide) (by decide)
  obtain ⟨b9, g9⟩ : ∃ z, z = h8.size := ⟨_, rfl⟩
  rw [← g9] at A9 st9
  have g_b9 : n0 ≤ b9 := Nat.le_trans (Nat.le_trans (Nat.le_trans (Nat.le_trans (Nat.le_trans (Nat.le_trans (Nat.le_trans (Nat.le_trans Z0 E2.1) (Keep.of_wr W3).1) E4.1) p5_0.1) (Keep.of_wr W6).1) E7.1) (Keep.of_wr W8).1) (Nat.le_of_eq g9.symm)
  have sz_b9 : h0.size ≤ b9 := Nat.le_trans K8.1 (Nat.le_of_eq g9.symm)
  have K9 : Keep h0 h9 [vr0] := K8.ext E9
  have V_b9 : Arv Z h9 b9 k9 .int (16 : Int32) [(.int (0 : Int32)), (.int (0 : Int32)), (.int (0 : Int32))] (.int (0 : Int32)) := (Arv.new A9 (by decide)).pad (pad_rep [] (.int (0 : Int32)) 3)
  obtain ⟨T10, h10, X10, e10, W10, st10⟩ := putF X9 hx hZ hown (host := "") (Or.inl (wd_56 hw)) Via.refl e9 ((((((((F_partEnds_vr0.ext E2).other W3 (Or.inr (sl_5 hw))).ext E4).keep p5_0 (ninS (Nat.ne_of_lt (Nat.lt_of_lt_of_le ((E_vr0.ext E2).wr W3).lt (Nat.le_of_eq g4.symm))) nin0)).other W6 (Or.inr (sl_6 hw))).ext E7).other W8 (Or.inr (sl_7 hw))).ext E9) ((((((((E_vr0.ext E2).wr W3).ext E4).keep p5_0).wr W6).ext E7).wr W8).ext E9) (Or.inl (wd_57 hw)) (wd_32 hw) (ty := (.array .int)) (by decide) rfl rfl (g := (mkF m 36 #[.val (.ref vr0)] [(.ref b9), (.ref vr0)])) rfl rfl (hb hby d7_36)
  have Fw10 := ((((((((F_partEnds_vr0.ext E2).other W3 (Or.inr (sl_5 hw))).ext E4).keep p5_0 (ninS (Nat.ne_of_lt (Nat.lt_of_lt_of_le ((E_vr0.ext E2).wr W3).lt (Nat.le_of_eq g4.symm))) nin0)).other W6 (Or.inr (sl_6 hw))).ext E7).other W8 (Or.inr (sl_7 hw))).ext E9).same W10
  have N10 := Fr.snoc X10 N8 g_vr0
  have K10 : Keep h0 h10 [vr0] := K9.wr W10 (Or.inl (List.mem_of_getElem? (i := 0) rfl))
  obtain ⟨T11, h11, k11, X11, e11, E11, A11, O11, st11⟩ := newR X10 hx hZ hown (wd_58 hw) (wd_59 hw) e10 (g := (mkF m 42 #[.val (.ref vr0)] [(.int (16 : Int32)), (.ref vr0)])) rfl (hb hby d7_42) rfl (by decide) (cap := 16) (by decide) (by decide) (by decide) (by decide)
  obtain ⟨b11, g11⟩ : ∃ z, z = h10.size := ⟨_, rfl⟩
  rw [← g11] at A11 st11
  have g_b11 : n0 ≤ b11 := Nat.le_trans (Nat.le_trans (Nat.le_trans (Nat.le_trans (Nat.le_trans (Nat.le_trans (Nat.le_trans (Nat.le_trans (Nat.le_trans (Nat.le_trans Z0 E2.1) (Keep.of_wr W3).1) E4.1) p5_0.1) (Keep.of_wr W6).1) E7.1) (Keep.of_wr W8).1) E9.1) (Keep.of_wr W10).1) (Nat.le_of_eq g11.symm)
  have sz_b11 : h0.size ≤ b11 := Nat.le_trans K10.1 (Nat.le_of_eq g11.symm)
  have K11 : Keep h0 h11 [vr0] := K10.ext E11
  have V_b11 : Arv Z h11 b11 k11 (.object "java/lang/Object") (16 : Int32) [.null, .null] .null := (Arv.new A11 (by decide)).pad (pad_rep [] .null 2)
  obtain ⟨T12, h12, X12, e12, W12, st12⟩ := putF X11 hx hZ hown (host := "") (Or.inl (wd_60 hw)) Via.refl e11 ((((((((((F_tags_vr0.ext E2).other W3 (Or.inr (sl_8 hw))).ext E4).keep p5_0 (ninS (Nat.ne_of_lt (Nat.lt_of_lt_of_le ((E_vr0.ext E2).wr W3).lt (Nat.le_of_eq g4.symm))) nin0)).other W6 (Or.inr (sl_9 hw))).ext E7).other W8 (Or.inr (sl_10 hw))).ext E9).other W10 (Or.inr (sl_11 hw))).ext E11) ((((((((((E_vr0.ext E2).wr W3).ext E4).keep p5_0).wr W6).ext E7).wr W8).ext E9).wr W10).ext E11) (Or.inl (wd_61 hw)) (wd_32 hw) (ty := (.array (.object "java/lang/Object"))) (by decide) rfl rfl (g := (mkF m 45 #[.val (.ref vr0)] [(.ref b11), (.ref vr0)])) rfl rfl (hb hby d7_45)
  have Fw12 := ((((((((((F_tags_vr0.ext E2).other W3 (Or.inr (sl_8 hw))).ext E4).keep p5_0 (ninS (Nat.ne_of_lt (Nat.lt_of_lt_of_le ((E_vr0.ext E2).wr W3).lt (Nat.le_of_eq g4.symm))) nin0)).other W6 (Or.inr (sl_9 hw))).ext E7).other W8 (Or.inr (sl_10 hw))).ext E9).other W10 (Or.inr (sl_11 hw))).ext E11).same W12
  have N12 := Fr.snoc X12 N10 g_vr0
  have K12 : Keep h0 h12 [vr0] := K11.wr W12 (Or.inl (List.mem_of_getElem? (i := 0) rfl))
  obtain ⟨fs, hr, hrun, hended, hW, hsame⟩ := X12.leave (v := none) (fun _ => rfl)
  refine ⟨_, _, pre0 _ ?_, hrun, hended, _, _, rfl, ?_, ⟨_, rfl⟩, hW, hsame.mono (by decide) (by decide)⟩
  · show Steps p.tables e below (s₁.setTop (mkF m 0 #[.val (.ref vr0)] [])) _
    refine XS.aloadN X0.here hx rfl (hb hby d7_0) rfl rfl ?_
    show Steps p.tables e below (s₁.setTop (mkF m 1 #[.val (.ref vr0)] [(.ref vr0)])) _
    refine st1 _ ?_
    refine XS.aloadN X1.here hx rfl (hb hby d7_4) rfl rfl ?_
    refine XS.iconst X1.here hx rfl (hb hby d7_5) ?_
    show Steps p.tables e below (T1.setTop (mkF m 6 #[.val (.ref vr0)] [(.int (0 : Int32)), (.ref vr0)])) _
    refine st2 _ ?_
    show Steps p.tables e below (T2.setTop (mkF m 8 #[.val (.ref vr0)] [(.ref b2), (.ref vr0)])) _
    refine st3 _ ?_
    refine XS.aloadN X3.here hx rfl (hb hby d7_11) rfl rfl ?_
    show Steps p.tables e below (T3.setTop (mkF m 12 #[.val (.ref vr0)] [(.ref vr0)])) _
    refine st4 _ ?_
    show Steps p.tables e below (T4.setTop (mkF m 15 #[.val (.ref vr0)] [(.ref b4), (.ref vr0)])) _
    refine XS.dup X4.here hx rfl (hb hby d7_15) rfl rfl ?_
    refine XS.iconst X4.here hx rfl (hb hby d7_16) ?_
    show Steps p.tables e below (T4.setTop (mkF m 17 #[.val (.ref vr0)] [(.int (0 : Int32)), (.ref b4), (.ref b4), (.ref vr0)])) _
    refine st5.trans ?_
    show Steps p.tables e below (T5.setTop (mkF m 20 #[.val (.ref vr0)] [(.ref b4), (.ref vr0)])) _
    refine st6 _ ?_
    show Steps p.tables e below (T6.setTop (mkF m 23 #[.val (.ref vr0)] [])) _
    refine XS.aloadN X6.here hx rfl (hb hby d7_23) rfl rfl ?_
    refine XS.bipush X6.here hx rfl (hb hby d7_24) ?_
    show Steps p.tables e below (T6.setTop (mkF m 26 #[.val (.ref vr0)] [(.int (64 : Int32)), (.ref vr0)])) _
    refine st7 _ ?_
    show Steps p.tables e below (T7.setTop (mkF m 28 #[.val (.ref vr0)] [(.ref b7), (.ref vr0)])) _
    refine st8 _ ?_
    show Steps p.tables e below (T8.setTop (mkF m 31 #[.val (.ref vr0)] [])) _
    refine XS.aloadN X8.here hx rfl (hb hby d7_31) rfl rfl ?_
    refine XS.bipush X8.here hx rfl (hb hby d7_32) ?_
    show Steps p.tables e below (T8.setTop (mkF m 34 #[.val (.ref vr0)] [(.int (16 : Int32)), (.ref vr0)])) _
    refine st9 _ ?_
    show Steps p.tables e below (T9.setTop (mkF m 36 #[.val (.ref vr0)] [(.ref b9), (.ref vr0)])) _
    refine st10 _ ?_
    show Steps p.tables e below (T10.setTop (mkF m 39 #[.val (.ref vr0)] [])) _
    refine XS.aloadN X10.here hx rfl (hb hby d7_39) rfl rfl ?_
    refine XS.bipush X10.here hx rfl (hb hby d7_40) ?_
    show Steps p.tables e below (T10.setTop (mkF m 42 #[.val (.ref vr0)] [(.int (16 : Int32)), (.ref vr0)])) _
    refine st11 _ ?_
    show Steps p.tables e below (T11.setTop (mkF m 45 #[.val (.ref vr0)] [(.ref b11), (.ref vr0)])) _
    refine st12 _ ?_
    show Steps p.tables e below (T12.setTop (mkF m 48 #[.val (.ref vr0)] [])) _
    exact X12.returnOut hx Bd.returns (hb hby d7_48) hr
  · show Q7 Z vr0 u_bytes u_at u_end u_parts u_partEnds u_tags u_shapeReader u_values u_learning u_partStart u_number_vr0 h0 n0 _ T12.heap _
    rw [e12]
    exact ⟨b2, b7, b9, b11, k7, k9, k11, rfl, N12, K12, sz_b7, sz_b9, sz_b11, (((((((((Fw3.ext E4).keep p5_0 (ninS (Nat.ne_of_lt (Nat.lt_of_lt_of_le ((E_vr0.ext E2).wr W3).lt (Nat.le_of_eq g4.symm))) nin0)).other W6 (Or.inr (sl_12 hw))).ext E7).other W8 (Or.inr (sl_13 hw))).ext E9).other W10 (Or.inr (sl_14 hw))).ext E11).other W12 (Or.inr (sl_15 hw))), (((((((((((F_at_vr0.ext E2).other W3 (Or.inr (sl_16 hw))).ext E4).keep p5_0 (ninS (Nat.ne_of_lt (Nat.lt_of_lt_of_le ((E_vr0.ext E2).wr W3).lt (Nat.le_of_eq g4.symm))) nin0)).other W6 (Or.inr (sl_17 hw))).ext E7).other W8 (Or.inr (sl_18 hw))).ext E9).other W10 (Or.inr (sl_19 hw))).ext E11).other W12 (Or.inr (sl_20 hw))), (((((((((((F_end_vr0.ext E2).other W3 (Or.inr (sl_21 hw))).ext E4).keep p5_0 (ninS (Nat.ne_of_lt (Nat.lt_of_lt_of_le ((E_vr0.ext E2).wr W3).lt (Nat.le_of_eq g4.symm))) nin0)).other W6 (Or.inr (sl_22 hw))).ext E7).other W8 (Or.inr (sl_23 hw))).ext E9).other W10 (Or.inr (sl_24 hw))).ext E11).other W12 (Or.inr (sl_25 hw))), ((((Fw8.ext E9).other W10 (Or.inr (sl_26 hw))).ext E11).other W12 (Or.inr (sl_27 hw))), ((Fw10.ext E11).other W12 (Or.inr (sl_28 hw))), Fw12, (((((((((((F_shapeReader_vr0.ext E2).other W3 (Or.inr (sl_29 hw))).ext E4).keep p5_0 (ninS (Nat.ne_of_lt (Nat.lt_of_lt_of_le ((E_vr0.ext E2).wr W3).lt (Nat.le_of_eq g4.symm))) nin0)).other W6 (Or.inr (sl_30 hw))).ext E7).other W8 (Or.inr (sl_31 hw))).ext E9).other W10 (Or.inr (sl_32 hw))).ext E11).other W12 (Or.inr (sl_33 hw))), (((((((((((F_values_vr0.ext E2).other W3 (Or.inr (sl_34 hw))).ext E4).keep p5_0 (ninS (Nat.ne_of_lt (Nat.lt_of_lt_of_le ((E_vr0.ext E2).wr W3).lt (Nat.le_of_eq g4.symm))) nin0)).other W6 (Or.inr (sl_35 hw))).ext E7).other W8 (Or.inr (sl_36 hw))).ext E9).other W10 (Or.inr (sl_37 hw))).ext E11).other W12 (Or.inr (sl_38 hw))), (((((((((((F_learning_vr0.ext E2).other W3 (Or.inr (sl_39 hw))).ext E4).keep p5_0 (ninS (Nat.ne_of_lt (Nat.lt_of_lt_of_le ((E_vr0.ext E2).wr W3).lt (Nat.le_of_eq g4.symm))) nin0)).other W6 (Or.inr (sl_40 hw))).ext E7).other W8 (Or.inr (sl_41 hw))).ext E9).other W10 (Or.inr (sl_42 hw))).ext E11).other W12 (Or.inr (sl_43 hw))), (((((((((((F_partStart_vr0.ext E2).other W3 (Or.inr (sl_44 hw))).ext E4).keep p5_0 (ninS (Nat.ne_of_lt (Nat.lt_of_lt_of_le ((E_vr0.ext E2).wr W3).lt (Nat.le_of_eq g4.symm))) nin0)).other W6 (Or.inr (sl_45 hw))).ext E7).other W8 (Or.inr (sl_46 hw))).ext E9).other W10 (Or.inr (sl_47 hw))).ext E11).other W12 (Or.inr (sl_48 hw))), (((((V_b7.other W8 (Ne.symm (Nat.ne_of_lt (Nat.lt_of_lt_of_le (((((E_vr0.ext E2).wr W3).ext E4).keep p5_0).wr W6).lt (Nat.le_of_eq g7.symm))))).ext E9).other W10 (Ne.symm (Nat.ne_of_lt (Nat.lt_of_lt_of_le (((((E_vr0.ext E2).wr W3).ext E4).keep p5_0).wr W6).lt (Nat.le_of_eq g7.symm))))).ext E11).other W12 (Ne.symm (Nat.ne_of_lt (Nat.lt_of_lt_of_le (((((E_vr0.ext E2).wr W3).ext E4).keep p5_0).wr W6).lt (Nat.le_of_eq g7.symm))))), (((V_b9.other W10 (Ne.symm (Nat.ne_of_lt (Nat.lt_of_lt_of_le (((((((E_vr0.ext E2).wr W3).ext E4).keep p5_0).wr W6).ext E7).wr W8).lt (Nat.le_of_eq g9.symm))))).ext E11).other W12 (Ne.symm (Nat.ne_of_lt (Nat.lt_of_lt_of_le (((((((E_vr0.ext E2).wr W3).ext E4).keep p5_0).wr W6).ext E7).wr W8).lt (Nat.le_of_eq g9.symm))))), (V_b11.other W12 (Ne.symm (Nat.ne_of_lt (Nat.lt_of_lt_of_le (((((((((E_vr0.ext E2).wr W3).ext E4).keep p5_0).wr W6).ext E7).wr W8).ext E9).wr W10).lt (Nat.le_of_eq g11.symm))))), O11, (Nat.ne_of_lt (Nat.lt_of_lt_of_le (V_b7.other W8 (Ne.symm (Nat.ne_of_lt (Nat.lt_of_lt_of_le (((((E_vr0.ext E2).wr W3).ext E4).keep p5_0).wr W6).lt (Nat.le_of_eq g7.symm))))).lt (Nat.le_of_eq g9.symm))), (Nat.ne_of_lt (Nat.lt_of_lt_of_le (((V_b7.other W8 (Ne.symm (Nat.ne_of_lt (Nat.lt_of_lt_of_le (((((E_vr0.ext E2).wr W3).ext E4).keep p5_0).wr W6).lt (Nat.le_of_eq g7.symm))))).ext E9).other W10 (Ne.symm (Nat.ne_of_lt (Nat.lt_of_lt_of_le (((((E_vr0.ext E2).wr W3).ext E4).keep p5_0).wr W6).lt (Nat.le_of_eq g7.symm))))).lt (Nat.le_of_eq g11.symm))), (Nat.ne_of_lt (Nat.lt_of_lt_of_le (V_b9.other W10 (Ne.symm (Nat.ne_of_lt (Nat.lt_of_lt_of_le (((((((E_vr0.ext E2).wr W3).ext E4).keep p5_0).wr W6).ext E7).wr W8).lt (Nat.le_of_eq g9.symm))))).lt (Nat.le_of_eq g11.symm)))⟩
theorem d9_0 : decode prog_58_method_2_code 0 = .ok (.aload_n 0, 1) := by decide +kernel
theorem d9_1 : decode prog_58_method_2_code 1 = .ok (.aload_n 1, 1) := by decide +kernel
theorem d9_2 : decode prog_58_method_2_code 2 = .ok (.putfield 7, 3) := by decide +kernel
theorem d9_5 : decode prog_58_method_2_code 5 = .ok (.aload_n 0, 1) := by decide +kernel
theorem d9_6 : decode prog_58_method_2_code 6 = .ok (.iload_n 2, 1) := by decide +kernel
theorem d9_7 : decode prog_58_method_2_code 7 = .ok (.putfield 33, 3) := by decide +kernel
theorem wd_67 {Z : State} {a0 : Array Value} (hw : ∀ d ∈ tables_1, d.before a0 Z = true) : ((Jvm.Cond.fieldLink "com/example/careful_ledger/carefulledger/json/PlainLine" (33 : Nat) "com/example/careful_ledger/carefulledger/json/PlainLine" "at" "I")).before a0 Z = true := hw _ (List.mem_of_getElem? (i := 67) rfl)
theorem d9_10 : decode prog_58_method_2_code 10 = .ok (.aload_n 0, 1) := by decide +kernel
theorem d9_11 : decode prog_58_method_2_code 11 = .ok (.iload_n 3, 1) := by decide +kernel
theorem d9_12 : decode prog_58_method_2_code 12 = .ok (.putfield 37, 3) := by decide +kernel
theorem wd_69 {Z : State} {a0 : Array Value} (hw : ∀ d ∈ tables_1, d.before a0 Z = true) : ((Jvm.Cond.fieldLink "com/example/careful_ledger/carefulledger/json/PlainLine" (37 : Nat) "com/example/careful_ledger/carefulledger/json/PlainLine" "end" "I")).before a0 Z = true := hw _ (List.mem_of_getElem? (i := 69) rfl)
theorem sl_49 {Z : State} {a0 : Array Value} (hw : ∀ d ∈ tables_1, d.before a0 Z = true) : RoadKit.slotOf Z "com/example/careful_ledger/carefulledger/json/PlainLine" "end" "I" ≠ RoadKit.slotOf Z "com/example/careful_ledger/carefulledger/json/PlainLine" "at" "I" := slot_ne (Or.inl (wd_70 hw)) (Or.inl (wd_68 hw)) (by decide) (t := .int) (t' := .int) (by decide) (by decide)
theorem d9_15 : decode prog_58_method_2_code 15 = .ok (.return_, 1) := by decide +kernel
theorem sl_50 {Z : State} {a0 : Array Value} (hw : ∀ d ∈ tables_1, d.before a0 Z = true) : RoadKit.slotOf Z "com/example/careful_ledger/carefulledger/json/PlainLine" "bytes" "[B" ≠ RoadKit.slotOf Z "com/example/careful_ledger/carefulledger/json/PlainLine" "at" "I" := slot_ne (Or.inl (wd_39 hw)) (Or.inl (wd_68 hw)) (by decide) (t := (.array .byte)) (t' := .int) (by decide) (by decide)
theorem sl_51 {Z : State} {a0 : Array Value} (hw : ∀ d ∈ tables_1, d.before a0 Z = true) : RoadKit.slotOf Z "com/example/careful_ledger/carefulledger/json/PlainLine" "bytes" "[B" ≠ RoadKit.slotOf Z "com/example/careful_ledger/carefulledger/json/PlainLine" "end" "I" := slot_ne (Or.inl (wd_39 hw)) (Or.inl (wd_70 hw)) (by decide) (t := (.array .byte)) (t' := .int) (by decide) (by decide)
theorem sl_52 {Z : State} {a0 : Array Value} (hw : ∀ d ∈ tables_1, d.before a0 Z = true) : RoadKit.slotOf Z "com/example/careful_ledger/carefulledger/json/PlainLine" "at" "I" ≠ RoadKit.slotOf Z "com/example/careful_ledger/carefulledger/json/PlainLine" "end" "I" := slot_ne (Or.inl (wd_68 hw)) (Or.inl (wd_70 hw)) (by decide) (t := .int) (t' := .int) (by decide) (by decide)
theorem sl_53 {Z : State} {a0 : Array Value} (hw : ∀ d ∈ tables_1, d.before a0 Z = true) : RoadKit.slotOf Z "com/example/careful_ledger/carefulledger/json/PlainLine" "parts" "[B" ≠ RoadKit.slotOf Z "com/example/careful_ledger/carefulledger/json/PlainLine" "at" "I" := slot_ne (Or.inl (wd_54 hw)) (Or.inl (wd_68 hw)) (by decide) (t := (.array .byte)) (t' := .int) (by decide) (by decide)
theorem sl_54 {Z : State} {a0 : Array Value} (hw : ∀ d ∈ tables_1, d.before a0 Z = true) : RoadKit.slotOf Z "com/example/careful_ledger/carefulledger/json/PlainLine" "parts" "[B" ≠ RoadKit.slotOf Z "com/example/careful_ledger/carefulledger/json/PlainLine" "end" "I" := slot_ne (Or.inl (wd_54 hw)) (Or.inl (wd_70 hw)) (by decide) (t := (.array .byte)) (t' := .int) (by decide) (by decide)
theorem sl_55 {Z : State} {a0 : Array Value} (hw : ∀ d ∈ tables_1, d.before a0 Z = true) : RoadKit.slotOf Z "com/example/careful_ledger/carefulledger/json/PlainLine" "partEnds" "[I" ≠ RoadKit.slotOf Z "com/example/careful_ledger/carefulledger/json/PlainLine" "at" "I" := slot_ne (Or.inl (wd_57 hw)) (Or.inl (wd_68 hw)) (by decide) (t := (.array .int)) (t' := .int) (by decide) (by decide)
theorem sl_56 {Z : State} {a0 : Array Value} (hw : ∀ d ∈ tables_1, d.before a0 Z = true) : RoadKit.slotOf Z "com/example/careful_ledger/carefulledger/json/PlainLine" "partEnds" "[I" ≠ RoadKit.slotOf Z "com/example/careful_ledger/carefulledger/json/PlainLine" "end" "I" := slot_ne (Or.inl (wd_57 hw)) (Or.inl (wd_70 hw)) (by decide) (t := (.array .int)) (t' := .int) (by decide) (by decide)
theorem sl_57 {Z : State} {a0 : Array Value} (hw : ∀ d ∈ tables_1, d.before a0 Z = true) : RoadKit.slotOf Z "com/example/careful_ledger/carefulledger/json/PlainLine" "tags" "[Ljava/lang/Object;" ≠ RoadKit.slotOf Z "com/example/careful_ledger/carefulledger/json/PlainLine" "at" "I" := slot_ne (Or.inl (wd_61 hw)) (Or.inl (wd_68 hw)) (by decide) (t := (.array (.object "java/lang/Object"))) (t' := .int) (by decide) (by decide)
theorem sl_58 {Z : State} {a0 : Array Value} (hw : ∀ d ∈ tables_1, d.before a0 Z = true) : RoadKit.slotOf Z "com/example/careful_ledger/carefulledger/json/PlainLine" "tags" "[Ljava/lang/Object;" ≠ RoadKit.slotOf Z "com/example/careful_ledger/carefulledger/json/PlainLine" "end" "I" := slot_ne (Or.inl (wd_61 hw)) (Or.inl (wd_70 hw)) (by decide) (t := (.array (.object "java/lang/Object"))) (t' := .int) (by decide) (by decide)
theorem sl_59 {Z : State} {a0 : Array Value} (hw : ∀ d ∈ tables_1, d.before a0 Z = true) : RoadKit.slotOf Z "com/example/careful_ledger/carefulledger/json/PlainLine" "shapeReader" "Ljava/lang/Object;" ≠ RoadKit.slotOf Z "com/example/careful_ledger/carefulledger/json/PlainLine" "at" "I" := slot_ne (Or.inl (wd_77 hw)) (Or.inl (wd_68 hw)) (by decide) (t := (.object "java/lang/Object")) (t' := .int) (by decide) (by decide)
theorem sl_60 {Z : State} {a0 : Array Value} (hw : ∀ d ∈ tables_1, d.before a0 Z = true) : RoadKit.slotOf Z "com/example/careful_ledger/carefulledger/json/PlainLine" "shapeReader" "Ljava/lang/Object;" ≠ RoadKit.slotOf Z "com/example/careful_ledger/carefulledger/json/PlainLine" "end" "I" := slot_ne (Or.inl (wd_77 hw)) (Or.inl (wd_70 hw)) (by decide) (t := (.object "java/lang/Object")) (t' := .int) (by decide) (by decide)
theorem sl_61 {Z : State} {a0 : Array Value} (hw : ∀ d ∈ tables_1, d.before a0 Z = true) : RoadKit.slotOf Z "com/example/careful_ledger/carefulledger/json/PlainLine" "values" "I" ≠ RoadKit.slotOf Z "com/example/careful_ledger/carefulledger/json/PlainLine" "at" "I" := slot_ne (Or.inl (wd_79 hw)) (Or.inl (wd_68 hw)) (by decide) (t := .int) (t' := .int) (by decide) (by decide)
theorem sl_62 {Z : State} {a0 : Array Value} (hw : ∀ d ∈ tables_1, d.before a0 Z = true) : RoadKit.slotOf Z "com/example/careful_ledger/carefulledger/json/PlainLine" "values" "I" ≠ RoadKit.slotOf Z "com/example/careful_ledger/carefulledger/json/PlainLine" "end" "I" := slot_ne (Or.inl (wd_79 hw)) (Or.inl (wd_70 hw)) (by decide) (t := .int) (t' := .int) (by decide) (by decide)
theorem sl_63 {Z : State} {a0 : Array Value} (hw : ∀ d ∈ tables_1, d.before a0 Z = true) : RoadKit.slotOf Z "com/example/careful_ledger/carefulledger/json/PlainLine" "learning" "Z" ≠ RoadKit.slotOf Z "com/example/careful_ledger/carefulledger/json/PlainLine" "at" "I" := slot_ne (Or.inl (wd_81 hw)) (Or.inl (wd_68 hw)) (by decide) (t := .boolean) (t' := .int) (by decide) (by decide)
theorem sl_64 {Z : State} {a0 : Array Value} (hw : ∀ d ∈ tables_1, d.before a0 Z = true) : RoadKit.slotOf Z "com/example/careful_ledger/carefulledger/json/PlainLine" "learning" "Z" ≠ RoadKit.slotOf Z "com/example/careful_ledger/carefulledger/json/PlainLine" "end" "I" := slot_ne (Or.inl (wd_81 hw)) (Or.inl (wd_70 hw)) (by decide) (t := .boolean) (t' := .int) (by decide) (by decide)
theorem sl_65 {Z : State} {a0 : Array Value} (hw : ∀ d ∈ tables_1, d.before a0 Z = true) : RoadKit.slotOf Z "com/example/careful_ledger/carefulledger/json/PlainLine" "partStart" "I" ≠ RoadKit.slotOf Z "com/example/careful_ledger/carefulledger/json/PlainLine" "at" "I" := slot_ne (Or.inl (wd_83 hw)) (Or.inl (wd_68 hw)) (by decide) (t := .int) (t' := .int) (by decide) (by decide)
theorem sl_66 {Z : State} {a0 : Array Value} (hw : ∀ d ∈ tables_1, d.before a0 Z = true) : RoadKit.slotOf Z "com/example/careful_ledger/carefulledger/json/PlainLine" "partStart" "I" ≠ RoadKit.slotOf Z "com/example/careful_ledger/carefulledger/json/PlainLine" "end" "I" := slot_ne (Or.inl (wd_83 hw)) (Or.inl (wd_70 hw)) (by decide) (t := .int) (t' := .int) (by decide) (by decide)
theorem ef_9 (m : MethodId) (x0 : Addr) (x1 : Addr) (x2 : Int32) (x3 : Int32) : entryFrame m #[(.ref x0), (.ref x1), (.int x2), (.int x3)] 4 = mkF m 0 #[.val (.ref x0), .val (.ref x1), .val (.int x2), .val (.int x3)] [] := by first | (simp [entryFrame, mkF, argsToLocals, Value.category]; done) | rfl
def Q9 (Z : State) (vr0 : Addr) (vr1 : Addr) (vi2 : Int32) (vi3 : Int32) (u_bytes : Value) (u_at : Value) (u_end : Value) (u_parts : Value) (u_partEnds : Value) (u_tags : Value) (u_shapeReader : Value) (u_values : Value) (u_learning : Value) (u_partStart : Value) (h0 : Heap) (n0 : Nat) (v : Option Value) (h : Heap) (L : List Loc) : Prop := v = none ∧ Fr n0 L ∧ Keep h0 h [vr0] ∧ Fld Z h vr0 "com/example/careful_ledger/carefulledger/json/PlainLine" "bytes" "[B" (.ref vr1) ∧ Fld Z h vr0 "com/example/careful_ledger/carefulledger/json/PlainLine" "at" "I" (.int vi2) ∧ Fld Z h vr0 "com/example/careful_ledger/carefulledger/json/PlainLine" "end" "I" (.int vi3) ∧ Fld Z h vr0 "com/example/careful_ledger/carefulledger/json/PlainLine" "parts" "[B" u_parts ∧ Fld Z h vr0 "com/example/careful_ledger/carefulledger/json/PlainLine" "partEnds" "[I" u_partEnds ∧ Fld Z h vr0 "com/example/careful_ledger/carefulledger/json/PlainLine" "tags" "[Ljava/lang/Object;" u_tags ∧ Fld Z h vr0 "com/example/careful_ledger/carefulledger/json/PlainLine" "shapeReader" "Ljava/lang/Object;" u_shapeReader ∧ Fld Z h vr0 "com/example/careful_ledger/carefulledger/json/PlainLine" "values" "I" u_values ∧ Fld Z h vr0 "com/example/careful_ledger/carefulledger/json/PlainLine" "learning" "Z" u_learning ∧ Fld Z h vr0 "com/example/careful_ledger/carefulledger/json/PlainLine" "partStart" "I" u_partStart
set_option maxRecDepth 65536 in
set_option maxHeartbeats 40000000 in
theorem rm9 (l : Launch) (Z : State) (a0 : Array Value) (hw : ∀ d ∈ tables_1, d.before a0 Z = true) (ws : List Jvm.Cond) (vr0 : Addr) (vr1 : Addr) (vi2 : Int32) (vi3 : Int32) (u_bytes : Value) (u_at : Value) (u_end : Value) (u_parts : Value) (u_partEnds : Value) (u_tags : Value) (u_shapeReader : Value) (u_values : Value) (u_learning : Value) (u_partStart : Value) (h0 : Heap) (n0 : Nat) (Z0 : n0 ≤ h0.size) (E_vr0 : Exa Z h0 vr0 "com/example/careful_ledger/carefulledger/json/PlainLine") (F_bytes_vr0 : Fld Z h0 vr0 "com/example/careful_ledger/carefulledger/json/PlainLine" "bytes" "[B" u_bytes) (F_at_vr0 : Fld Z h0 vr0 "com/example/careful_ledger/carefulledger/json/PlainLine" "at" "I" u_at) (F_end_vr0 : Fld Z h0 vr0 "com/example/careful_ledger/carefulledger/json/PlainLine" "end" "I" u_end) (F_parts_vr0 : Fld Z h0 vr0 "com/example/careful_ledger/carefulledger/json/PlainLine" "parts" "[B" u_parts) (F_partEnds_vr0 : Fld Z h0 vr0 "com/example/careful_ledger/carefulledger/json/PlainLine" "partEnds" "[I" u_partEnds) (F_tags_vr0 : Fld Z h0 vr0 "com/example/careful_ledger/carefulledger/json/PlainLine" "tags" "[Ljava/lang/Object;" u_tags) (F_shapeReader_vr0 : Fld Z h0 vr0 "com/example/careful_ledger/carefulledger/json/PlainLine" "shapeReader" "Ljava/lang/Object;" u_shapeReader) (F_values_vr0 : Fld Z h0 vr0 "com/example/careful_ledger/carefulledger/json/PlainLine" "values" "I" u_values) (F_learning_vr0 : Fld Z h0 vr0 "com/example/careful_ledger/carefulledger/json/PlainLine" "learning" "Z" u_learning) (F_partStart_vr0 : Fld Z h0 vr0 "com/example/careful_ledger/carefulledger/json/PlainLine" "partStart" "I" u_partStart) (g_vr0 : n0 ≤ vr0) :
    MetFree l (⟨"com/example/careful_ledger/carefulledger/json/PlainLine", "reset", "([BII)V"⟩ : MethodName) (head1 (Jvm.Cond.code (⟨"com/example/careful_ledger/carefulledger/json/PlainLine", "reset", "([BII)V"⟩ : MethodName) prog_58_method_2_code 4 none :: ws) ({ frames := 0, cells := 0, slots := 0, locals := 0 } : Room)) (fun a U => a = #[(.ref vr0), (.ref vr1), (.int vi2), (.int vi3)] ∧ Z.Warmed39 U.vm ∧ U.heap = h0) (fun _ _ _ _ _ => True) (fun _ U o U' => ∃ v L, o = .returned v ∧ Q9 Z vr0 vr1 vi2 vi3 u_bytes u_at u_end u_parts u_partEnds u_tags u_shapeReader u_values u_learning u_partStart h0 n0 v U'.heap L ∧ FrameEnd U o U' L ({ frames := 0, cells := 0, slots := 0, locals := 0 } : Room).cells ({ frames := 0, cells := 0, slots := 0, locals := 0 } : Room).slots) := by
  refine MetFree.of_bodySF (plainFor_of_name pn_com_example_careful_ledger_carefulledger_json_PlainLine) hisR ?_
  intro p e s m args below meth c s₁ Bd hml0 hP hK
  obtain ⟨rfl, hZ, hh⟩ := hP
  have hx := Bd.exec
  have hby := Bd.bytes
  have hml : c.maxLocals = 4 := hml0
  have hown : s.vm.findClass "com/example/careful_ledger/carefulledger/json/PlainLine" = some m.cls := findClass_of_methodNamed Bd.named
  have hnm := (name_of_methodNamed Bd.named Bd.method).1
  have X0 : Stand p l e ({ frames := 0, cells := 0, slots := 0, locals := 0 } : Room) s m #[(.ref vr0), (.ref vr1), (.int vi2), (.int vi3)] below meth c s₁ [] 0 0 := Stand.of_body Bd
  have e0 : s₁.heap = h0 := by rw [← hh, Bd.state]; rfl
  have N0 := Fr.nil n0
  have pre0 : ∀ t, Steps p.tables e below (s₁.setTop (mkF m 0 #[.val (.ref vr0), .val (.ref vr1), .val (.int vi2), .val (.int vi3)] [])) t → Steps p.tables e below (s₁.setTop (entryFrame m #[(.ref vr0), (.ref vr1), (.int vi2), (.int vi3)] 4)) t := fun t k => castTop (ef_9 m vr0 vr1 vi2 vi3) k
  obtain ⟨T1, h1, X1, e1, W1, st1⟩ := putF X0 hx hZ hown (host := "") (Or.inl (wd_38 hw)) Via.refl e0 F_bytes_vr0 E_vr0 (Or.inl (wd_39 hw)) (wd_32 hw) (ty := (.array .byte)) (by decide) rfl rfl (g := (mkF m 2 #[.val (.ref vr0), .val (.ref vr1), .val (.int vi2), .val (.int vi3)] [(.ref vr1), (.ref vr0)])) rfl rfl (hb hby d9_2)
  have Fw1 := F_bytes_vr0.same W1
  have N1 := Fr.snoc X1 N0 g_vr0
  have K1 : Keep h0 h1 [vr0] := (Keep.refl h0 [vr0]).wr W1 (Or.inl (List.mem_of_getElem? (i := 0) rfl))
  obtain ⟨T2, h2, X2, e2, W2, st2⟩ := putF X1 hx hZ hown (host := "") (Or.inl (wd_67 hw)) Via.refl e1 (F_at_vr0.other W1 (Or.inr (sl_16 hw))) (E_vr0.wr W1) (Or.inl (wd_68 hw)) (wd_32 hw) (ty := .int) (by decide) rfl rfl (g := (mkF m 7 #[.val (.ref vr0), .val (.ref vr1), .val (.int vi2), .val (.int vi3)] [(.int vi2), (.ref vr0)])) rfl rfl (hb hby d9_7)
  have Fw2 := (F_at_vr0.other W1 (Or.inr (sl_16 hw))).same W2
  have N2 := Fr.snoc X2 N1 g_vr0
  have K2 : Keep h0 h2 [vr0] := K1.wr W2 (Or.inl (List.mem_of_getElem? (i := 0) rfl))
  obtain ⟨T3, h3, X3, e3, W3, st3⟩ := putF X2 hx hZ hown (host := "") (Or.inl (wd_69 hw)) Via.refl e2 ((F_end_vr0.other W1 (Or.inr (sl_21 hw))).other W2 (Or.inr (sl_49 hw))) ((E_vr0.wr W1).wr W2) (Or.inl (wd_70 hw)) (wd_32 hw) (ty := .int) (by decide) rfl rfl (g := (mkF m 12 #[.val (.ref vr0), .val (.ref vr1), .val (.int vi2), .val (.int vi3)] [(.int vi3), (.ref vr0)])) rfl rfl (hb hby d9_12)
  have Fw3 := ((F_end_vr0.other W1 (Or.inr (sl_21 hw))).other W2 (Or.inr (sl_49 hw))).same W3
  have N3 := Fr.snoc X3 N2 g_vr0
  have K3 : Keep h0 h3 [vr0] := K2.wr W3 (Or.inl (List.mem_of_getElem? (i := 0) rfl))
  obtain ⟨fs, hr, hrun, hended, hW, hsame⟩ := X3.leave (v := none) (fun _ => rfl)
  refine ⟨_, _, pre0 _ ?_, hrun, hended, _, _, rfl, ?_, ⟨_, rfl⟩, hW, hsame.mono (by decide) (by decide)⟩
  · show Steps p.tables e below (s₁.setTop (mkF m 0 #[.val (.ref vr0), .val (.ref vr1), .val (.int vi2), .val (.int vi3)] [])) _
    refine XS.aloadN X0.here hx rfl (hb hby d9_0) rfl rfl ?_
    refine XS.aloadN X0.here hx rfl (hb hby d9_1) rfl rfl ?_
    show Steps p.tables e below (s₁.setTop (mkF m 2 #[.val (.ref vr0), .val (.ref vr1), .val (.int vi2), .val (.int vi3)] [(.ref vr1), (.ref vr0)])) _
    refine st1 _ ?_
    refine XS.aloadN X1.here hx rfl (hb hby d9_5) rfl rfl ?_
    show Steps p.tables e below (T1.setTop (mkF m 6 #[.val (.ref vr0), .val (.ref vr1), .val (.int vi2), .val (.int vi3)] [(.ref vr0)])) _
    refine XS.iloadN X1.here hx rfl (hb hby d9_6) rfl ?_
    show Steps p.tables e below (T1.setTop (mkF m 7 #[.val (.ref vr0), .val (.ref vr1), .val (.int vi2), .val (.int vi3)] [(.int vi2), (.ref vr0)])) _
    refine st2 _ ?_
    refine XS.aloadN X2.here hx rfl (hb hby d9_10) rfl rfl ?_
    refine XS.iloadN X2.here hx rfl (hb hby d9_11) rfl ?_
    show Steps p.tables e below (T2.setTop (mkF m 12 #[.val (.ref vr0), .val (.ref vr1), .val (.int vi2), .val (.int vi3)] [(.int vi3), (.ref vr0)])) _
    refine st3 _ ?_
    exact X3.returnOut hx Bd.returns (hb hby d9_15) hr
  · show Q9 Z vr0 vr1 vi2 vi3 u_bytes u_at u_end u_parts u_partEnds u_tags u_shapeReader u_values u_learning u_partStart h0 n0 _ T3.heap _
    rw [e3]
    exact ⟨rfl, N3, K3, ((Fw1.other W2 (Or.inr (sl_50 hw))).other W3 (Or.inr (sl_51 hw))), (Fw2.other W3 (Or.inr (sl_52 hw))), Fw3, (((F_parts_vr0.other W1 (Or.inr (sl_3 hw))).other W2 (Or.inr (sl_53 hw))).other W3 (Or.inr (sl_54 hw))), (((F_partEnds_vr0.other W1 (Or.inr (sl_5 hw))).other W2 (Or.inr (sl_55 hw))).other W3 (Or.inr (sl_56 hw))), (((F_tags_vr0.other W1 (Or.inr (sl_8 hw))).other W2 (Or.inr (sl_57 hw))).other W3 (Or.inr (sl_58 hw))), (((F_shapeReader_vr0.other W1 (Or.inr (sl_29 hw))).other W2 (Or.inr (sl_59 hw))).other W3 (Or.inr (sl_60 hw))), (((F_values_vr0.other W1 (Or.inr (sl_34 hw))).other W2 (Or.inr (sl_61 hw))).other W3 (Or.inr (sl_62 hw))), (((F_learning_vr0.other W1 (Or.inr (sl_39 hw))).other W2 (Or.inr (sl_63 hw))).other W3 (Or.inr (sl_64 hw))), (((F_partStart_vr0.other W1 (Or.inr (sl_44 hw))).other W2 (Or.inr (sl_65 hw))).other W3 (Or.inr (sl_66 hw)))⟩
theorem d10_0 : decode prog_58_method_5_code 0 = .ok (.aload_n 0, 1) := by decide +kernel
theorem d10_1 : decode prog_58_method_5_code 1 = .ok (.aconst_null, 1) := by decide +kernel
theorem d10_2 : decode prog_58_method_5_code 2 = .ok (.putfield 40, 3) := by decide +kernel
theorem wd_76 {Z : State} {a0 : Array Value} (hw : ∀ d ∈ tables_1, d.before a0 Z = true) : ((Jvm.Cond.fieldLink "com/example/careful_ledger/carefulledger/json/PlainLine" (40 : Nat) "com/example/careful_ledger/carefulledger/json/PlainLine" "shapeReader" "Ljava/lang/Object;")).before a0 Z = true := hw _ (List.mem_of_getElem? (i := 76) rfl)
theorem d10_5 : decode prog_58_method_5_code 5 = .ok (.aload_n 0, 1) := by decide +kernel
theorem d10_6 : decode prog_58_method_5_code 6 = .ok (.iconst 0, 1) := by decide +kernel
theorem d10_7 : decode prog_58_method_5_code 7 = .ok (.putfield 44, 3) := by decide +kernel
theorem wd_78 {Z : State} {a0 : Array Value} (hw : ∀ d ∈ tables_1, d.before a0 Z = true) : ((Jvm.Cond.fieldLink "com/example/careful_ledger/carefulledger/json/PlainLine" (44 : Nat) "com/example/careful_ledger/carefulledger/json/PlainLine" "values" "I")).before a0 Z = true := hw _ (List.mem_of_getElem? (i := 78) rfl)
theorem sl_67 {Z : State} {a0 : Array Value} (hw : ∀ d ∈ tables_1, d.before a0 Z = true) : RoadKit.slotOf Z "com/example/careful_ledger/carefulledger/json/PlainLine" "values" "I" ≠ RoadKit.slotOf Z "com/example/careful_ledger/carefulledger/json/PlainLine" "shapeReader" "Ljava/lang/Object;" := slot_ne (Or.inl (wd_79 hw)) (Or.inl (wd_77 hw)) (by decide) (t := .int) (t' := (.object "java/lang/Object")) (by decide) (by decide)
theorem d10_10 : decode prog_58_method_5_code 10 = .ok (.aload_n 0, 1) := by decide +kernel
theorem d10_11 : decode prog_58_method_5_code 11 = .ok (.iconst 1, 1) := by decide +kernel
theorem d10_12 : decode prog_58_method_5_code 12 = .ok (.putfield 47, 3) := by decide +kernel
theorem wd_80 {Z : State} {a0 : Array Value} (hw : ∀ d ∈ tables_1, d.before a0 Z = true) : ((Jvm.Cond.fieldLink "com/example/careful_ledger/carefulledger/json/PlainLine" (47 : Nat) "com/example/careful_ledger/carefulledger/json/PlainLine" "learning" "Z")).before a0 Z = true := hw _ (List.mem_of_getElem? (i := 80) rfl)
theorem sl_68 {Z : State} {a0 : Array Value} (hw : ∀ d ∈ tables_1, d.before a0 Z = true) : RoadKit.slotOf Z "com/example/careful_ledger/carefulledger/json/PlainLine" "learning" "Z" ≠ RoadKit.slotOf Z "com/example/careful_ledger/carefulledger/json/PlainLine" "shapeReader" "Ljava/lang/Object;" := slot_ne (Or.inl (wd_81 hw)) (Or.inl (wd_77 hw)) (by decide) (t := .boolean) (t' := (.object "java/lang/Object")) (by decide) (by decide)
theorem sl_69 {Z : State} {a0 : Array Value} (hw : ∀ d ∈ tables_1, d.before a0 Z = true) : RoadKit.slotOf Z "com/example/careful_ledger/carefulledger/json/PlainLine" "learning" "Z" ≠ RoadKit.slotOf Z "com/example/careful_ledger/carefulledger/json/PlainLine" "values" "I" := slot_ne (Or.inl (wd_81 hw)) (Or.inl (wd_79 hw)) (by decide) (t := .boolean) (t' := .int) (by decide) (by decide)
theorem d10_15 : decode prog_58_method_5_code 15 = .ok (.aload_n 0, 1) := by decide +kernel
theorem d10_16 : decode prog_58_method_5_code 16 = .ok (.aload_n 0, 1) := by decide +kernel
theorem d10_17 : decode prog_58_method_5_code 17 = .ok (.getfield 33, 3) := by decide +kernel
theorem sl_70 {Z : State} {a0 : Array Value} (hw : ∀ d ∈ tables_1, d.before a0 Z = true) : RoadKit.slotOf Z "com/example/careful_ledger/carefulledger/json/PlainLine" "at" "I" ≠ RoadKit.slotOf Z "com/example/careful_ledger/carefulledger/json/PlainLine" "shapeReader" "Ljava/lang/Object;" := slot_ne (Or.inl (wd_68 hw)) (Or.inl (wd_77 hw)) (by decide) (t := .int) (t' := (.object "java/lang/Object")) (by decide) (by decide)
theorem sl_71 {Z : State} {a0 : Array Value} (hw : ∀ d ∈ tables_1, d.before a0 Z = true) : RoadKit.slotOf Z "com/example/careful_ledger/carefulledger/json/PlainLine" "at" "I" ≠ RoadKit.slotOf Z "com/example/careful_ledger/carefulledger/json/PlainLine" "values" "I" := slot_ne (Or.inl (wd_68 hw)) (Or.inl (wd_79 hw)) (by decide) (t := .int) (t' := .int) (by decide) (by decide)
theorem sl_72 {Z : State} {a0 : Array Value} (hw : ∀ d ∈ tables_1, d.before a0 Z = true) : RoadKit.slotOf Z "com/example/careful_ledger/carefulledger/json/PlainLine" "at" "I" ≠ RoadKit.slotOf Z "com/example/careful_ledger/carefulledger/json/PlainLine" "learning" "Z" := slot_ne (Or.inl (wd_68 hw)) (Or.inl (wd_81 hw)) (by decide) (t := .int) (t' := .boolean) (by decide) (by decide)
theorem d10_20 : decode prog_58_method_5_code 20 = .ok (.putfield 51, 3) := by decide +kernel
theorem wd_82 {Z : State} {a0 : Array Value} (hw : ∀ d ∈ tables_1, d.before a0 Z = true) : ((Jvm.Cond.fieldLink "com/example/careful_ledger/carefulledger/json/PlainLine" (51 : Nat) "com/example/careful_ledger/carefulledger/json/PlainLine" "partStart" "I")).before a0 Z = true := hw _ (List.mem_of_getElem? (i := 82) rfl)
theorem sl_73 {Z : State} {a0 : Array Value} (hw : ∀ d ∈ tables_1, d.before a0 Z = true) : RoadKit.slotOf Z "com/example/careful_ledger/carefulledger/json/PlainLine" "partStart" "I" ≠ RoadKit.slotOf Z "com/example/careful_ledger/carefulledger/json/PlainLine" "shapeReader" "Ljava/lang/Object;" := slot_ne (Or.inl (wd_83 hw)) (Or.inl (wd_77 hw)) (by decide) (t := .int) (t' := (.object "java/lang/Object")) (by decide) (by decide)
theorem sl_74 {Z : State} {a0 : Array Value} (hw : ∀ d ∈ tables_1, d.before a0 Z = true) : RoadKit.slotOf Z "com/example/careful_ledger/carefulledger/json/PlainLine" "partStart" "I" ≠ RoadKit.slotOf Z "com/example/careful_ledger/carefulledger/json/PlainLine" "values" "I" := slot_ne (Or.inl (wd_83 hw)) (Or.inl (wd_79 hw)) (by decide) (t := .int) (t' := .int) (by decide) (by decide)
theorem sl_75 {Z : State} {a0 : Array Value} (hw : ∀ d ∈ tables_1, d.before a0 Z = true) : RoadKit.slotOf Z "com/example/careful_ledger/carefulledger/json/PlainLine" "partStart" "I" ≠ RoadKit.slotOf Z "com/example/careful_ledger/carefulledger/json/PlainLine" "learning" "Z" := slot_ne (Or.inl (wd_83 hw)) (Or.inl (wd_81 hw)) (by decide) (t := .int) (t' := .boolean) (by decide) (by decide)
theorem d10_23 : decode prog_58_method_5_code 23 = .ok (.return_, 1) := by decide +kernel
theorem sl_76 {Z : State} {a0 : Array Value} (hw : ∀ d ∈ tables_1, d.before a0 Z = true) : RoadKit.slotOf Z "com/example/careful_ledger/carefulledger/json/PlainLine" "bytes" "[B" ≠ RoadKit.slotOf Z "com/example/careful_ledger/carefulledger/json/PlainLine" "shapeReader" "Ljava/lang/Object;" := slot_ne (Or.inl (wd_39 hw)) (Or.inl (wd_77 hw)) (by decide) (t := (.array .byte)) (t' := (.object "java/lang/Object")) (by decide) (by decide)
theorem sl_77 {Z : State} {a0 : Array Value} (hw : ∀ d ∈ tables_1, d.before a0 Z = true) : RoadKit.slotOf Z "com/example/careful_ledger/carefulledger/json/PlainLine" "bytes" "[B" ≠ RoadKit.slotOf Z "com/example/careful_ledger/carefulledger/json/PlainLine" "values" "I" := slot_ne (Or.inl (wd_39 hw)) (Or.inl (wd_79 hw)) (by decide) (t := (.array .byte)) (t' := .int) (by decide) (by decide)
theorem sl_78 {Z : State} {a0 : Array Value} (hw : ∀ d ∈ tables_1, d.before a0 Z = true) : RoadKit.slotOf Z "com/example/careful_ledger/carefulledger/json/PlainLine" "bytes" "[B" ≠ RoadKit.slotOf Z "com/example/careful_ledger/carefulledger/json/PlainLine" "learning" "Z" := slot_ne (Or.inl (wd_39 hw)) (Or.inl (wd_81 hw)) (by decide) (t := (.array .byte)) (t' := .boolean) (by decide) (by decide)
theorem sl_79 {Z : State} {a0 : Array Value} (hw : ∀ d ∈ tables_1, d.before a0 Z = true) : RoadKit.slotOf Z "com/example/careful_ledger/carefulledger/json/PlainLine" "bytes" "[B" ≠ RoadKit.slotOf Z "com/example/careful_ledger/carefulledger/json/PlainLine" "partStart" "I" := slot_ne (Or.inl (wd_39 hw)) (Or.inl (wd_83 hw)) (by decide) (t := (.array .byte)) (t' := .int) (by decide) (by decide)
theorem sl_80 {Z : State} {a0 : Array Value} (hw : ∀ d ∈ tables_1, d.before a0 Z = true) : RoadKit.slotOf Z "com/example/careful_ledger/carefulledger/json/PlainLine" "at" "I" ≠ RoadKit.slotOf Z "com/example/careful_ledger/carefulledger/json/PlainLine" "partStart" "I" := slot_ne (Or.inl (wd_68 hw)) (Or.inl (wd_83 hw)) (by decide) (t := .int) (t' := .int) (by decide) (by decide)
theorem sl_81 {Z : State} {a0 : Array Value} (hw : ∀ d ∈ tables_1, d.before a0 Z = true) : RoadKit.slotOf Z "com/example/careful_ledger/carefulledger/json/PlainLine" "end" "I" ≠ RoadKit.slotOf Z "com/example/careful_ledger/carefulledger/json/PlainLine" "shapeReader" "Ljava/lang/Object;" := slot_ne (Or.inl (wd_70 hw)) (Or.inl (wd_77 hw)) (by decide) (t := .int) (t' := (.object "java/lang/Object")) (by decide) (by decide)
theorem sl_82 {Z : State} {a0 : Array Value} (hw : ∀ d ∈ tables_1, d.before a0 Z = true) : RoadKit.slotOf Z "com/example/careful_ledger/carefulledger/json/PlainLine" "end" "I" ≠ RoadKit.slotOf Z "com/example/careful_ledger/carefulledger/json/PlainLine" "values" "I" := slot_ne (Or.inl (wd_70 hw)) (Or.inl (wd_79 hw)) (by decide) (t := .int) (t' := .int) (by decide) (by decide)
theorem sl_83 {Z : State} {a0 : Array Value} (hw : ∀ d ∈ tables_1, d.before a0 Z = true) : RoadKit.slotOf Z "com/example/careful_ledger/carefulledger/json/PlainLine" "end" "I" ≠ RoadKit.slotOf Z "com/example/careful_ledger/carefulledger/json/PlainLine" "learning" "Z" := slot_ne (Or.inl (wd_70 hw)) (Or.inl (wd_81 hw)) (by decide) (t := .int) (t' := .boolean) (by decide) (by decide)
theorem sl_84 {Z : State} {a0 : Array Value} (hw : ∀ d ∈ tables_1, d.before a0 Z = true) : RoadKit.slotOf Z "com/example/careful_ledger/carefulledger/json/PlainLine" "end" "I" ≠ RoadKit.slotOf Z "com/example/careful_ledger/carefulledger/json/PlainLine" "partStart" "I" := slot_ne (Or.inl (wd_70 hw)) (Or.inl (wd_83 hw)) (by decide) (t := .int) (t' := .int) (by decide) (by decide)
theorem sl_85 {Z : State} {a0 : Array Value} (hw : ∀ d ∈ tables_1, d.before a0 Z = true) : RoadKit.slotOf Z "com/example/careful_ledger/carefulledger/json/PlainLine" "parts" "[B" ≠ RoadKit.slotOf Z "com/example/careful_ledger/carefulledger/json/PlainLine" "shapeReader" "Ljava/lang/Object;" := slot_ne (Or.inl (wd_54 hw)) (Or.inl (wd_77 hw)) (by decide) (t := (.array .byte)) (t' := (.object "java/lang/Object")) (by decide) (by decide)
theorem sl_86 {Z : State} {a0 : Array Value} (hw : ∀ d ∈ tables_1, d.before a0 Z = true) : RoadKit.slotOf Z "com/example/careful_ledger/carefulledger/json/PlainLine" "parts" "[B" ≠ RoadKit.slotOf Z "com/example/careful_ledger/carefulledger/json/PlainLine" "values" "I" := slot_ne (Or.inl (wd_54 hw)) (Or.inl (wd_79 hw)) (by decide) (t := (.array .byte)) (t' := .int) (by decide) (by decide)
theorem sl_87 {Z : State} {a0 : Array Value} (hw : ∀ d ∈ tables_1, d.before a0 Z = true) : RoadKit.slotOf Z "com/example/careful_ledger/carefulledger/json/PlainLine" "parts" "[B" ≠ RoadKit.slotOf Z "com/example/careful_ledger/carefulledger/json/PlainLine" "learning" "Z" := slot_ne (Or.inl (wd_54 hw)) (Or.inl (wd_81 hw)) (by decide) (t := (.array .byte)) (t' := .boolean) (by decide) (by decide)
theorem sl_88 {Z : State} {a0 : Array Value} (hw : ∀ d ∈ tables_1, d.before a0 Z = true) : RoadKit.slotOf Z "com/example/careful_ledger/carefulledger/json/PlainLine" "parts" "[B" ≠ RoadKit.slotOf Z "com/example/careful_ledger/carefulledger/json/PlainLine" "partStart" "I" := slot_ne (Or.inl (wd_54 hw)) (Or.inl (wd_83 hw)) (by decide) (t := (.array .byte)) (t' := .int) (by decide) (by decide)
theorem sl_89 {Z : State} {a0 : Array Value} (hw : ∀ d ∈ tables_1, d.before a0 Z = true) : RoadKit.slotOf Z "com/example/careful_ledger/carefulledger/json/PlainLine" "partEnds" "[I" ≠ RoadKit.slotOf Z "com/example/careful_ledger/carefulledger/json/PlainLine" "shapeReader" "Ljava/lang/Object;" := slot_ne (Or.inl (wd_57 hw)) (Or.inl (wd_77 hw)) (by decide) (t := (.array .int)) (t' := (.object "java/lang/Object")) (by decide) (by decide)
theorem sl_90 {Z : State} {a0 : Array Value} (hw : ∀ d ∈ tables_1, d.before a0 Z = true) : RoadKit.slotOf Z "com/example/careful_ledger/carefulledger/json/PlainLine" "partEnds" "[I" ≠ RoadKit.slotOf Z "com/example/careful_ledger/carefulledger/json/PlainLine" "values" "I" := slot_ne (Or.inl (wd_57 hw)) (Or.inl (wd_79 hw)) (by decide) (t := (.array .int)) (t' := .int) (by decide) (by decide)
theorem sl_91 {Z : State} {a0 : Array Value} (hw : ∀ d ∈ tables_1, d.before a0 Z = true) : RoadKit.slotOf Z "com/example/careful_ledger/carefulledger/json/PlainLine" "partEnds" "[I" ≠ RoadKit.slotOf Z "com/example/careful_ledger/carefulledger/json/PlainLine" "learning" "Z" := slot_ne (Or.inl (wd_57 hw)) (Or.inl (wd_81 hw)) (by decide) (t := (.array .int)) (t' := .boolean) (by decide) (by decide)
theorem sl_92 {Z : State} {a0 : Array Value} (hw : ∀ d ∈ tables_1, d.before a0 Z = true) : RoadKit.slotOf Z "com/example/careful_ledger/carefulledger/json/PlainLine" "partEnds" "[I" ≠ RoadKit.slotOf Z "com/example/careful_ledger/carefulledger/json/PlainLine" "partStart" "I" := slot_ne (Or.inl (wd_57 hw)) (Or.inl (wd_83 hw)) (by decide) (t := (.array .int)) (t' := .int) (by decide) (by decide)
theorem sl_93 {Z : State} {a0 : Array Value} (hw : ∀ d ∈ tables_1, d.before a0 Z = true) : RoadKit.slotOf Z "com/example/careful_ledger/carefulledger/json/PlainLine" "tags" "[Ljava/lang/Object;" ≠ RoadKit.slotOf Z "com/example/careful_ledger/carefulledger/json/PlainLine" "shapeReader" "Ljava/lang/Object;" := slot_ne (Or.inl (wd_61 hw)) (Or.inl (wd_77 hw)) (by decide) (t := (.array (.object "java/lang/Object"))) (t' := (.object "java/lang/Object")) (by decide) (by decide)
theorem sl_94 {Z : State} {a0 : Array Value} (hw : ∀ d ∈ tables_1, d.before a0 Z = true) : RoadKit.slotOf Z "com/example/careful_ledger/carefulledger/json/PlainLine" "tags" "[Ljava/lang/Object;" ≠ RoadKit.slotOf Z "com/example/careful_ledger/carefulledger/json/PlainLine" "values" "I" := slot_ne (Or.inl (wd_61 hw)) (Or.inl (wd_79 hw)) (by decide) (t := (.array (.object "java/lang/Object"))) (t' := .int) (by decide) (by decide)
theorem sl_95 {Z : State} {a0 : Array Value} (hw : ∀ d ∈ tables_1, d.before a0 Z = true) : RoadKit.slotOf Z "com/example/careful_ledger/carefulledger/json/PlainLine" "tags" "[Ljava/lang/Object;" ≠ RoadKit.slotOf Z "com/example/careful_ledger/carefulledger/json/PlainLine" "learning" "Z" := slot_ne (Or.inl (wd_61 hw)) (Or.inl (wd_81 hw)) (by decide) (t := (.array (.object "java/lang/Object"))) (t' := .boolean) (by decide) (by decide)
theorem sl_96 {Z : State} {a0 : Array Value} (hw : ∀ d ∈ tables_1, d.before a0 Z = true) : RoadKit.slotOf Z "com/example/careful_ledger/carefulledger/json/PlainLine" "tags" "[Ljava/lang/Object;" ≠ RoadKit.slotOf Z "com/example/careful_ledger/carefulledger/json/PlainLine" "partStart" "I" := slot_ne (Or.inl (wd_61 hw)) (Or.inl (wd_83 hw)) (by decide) (t := (.array (.object "java/lang/Object"))) (t' := .int) (by decide) (by decide)
theorem sl_97 {Z : State} {a0 : Array Value} (hw : ∀ d ∈ tables_1, d.before a0 Z = true) : RoadKit.slotOf Z "com/example/careful_ledger/carefulledger/json/PlainLine" "shapeReader" "Ljava/lang/Object;" ≠ RoadKit.slotOf Z "com/example/careful_ledger/carefulledger/json/PlainLine" "values" "I" := slot_ne (Or.inl (wd_77 hw)) (Or.inl (wd_79 hw)) (by decide) (t := (.object "java/lang/Object")) (t' := .int) (by decide) (by decide)
theorem sl_98 {Z : State} {a0 : Array Value} (hw : ∀ d ∈ tables_1, d.before a0 Z = true) : RoadKit.slotOf Z "com/example/careful_ledger/carefulledger/json/PlainLine" "shapeReader" "Ljava/lang/Object;" ≠ RoadKit.slotOf Z "com/example/careful_ledger/carefulledger/json/PlainLine" "learning" "Z" := slot_ne (Or.inl (wd_77 hw)) (Or.inl (wd_81 hw)) (by decide) (t := (.object "java/lang/Object")) (t' := .boolean) (by decide) (by decide)
theorem sl_99 {Z : State} {a0 : Array Value} (hw : ∀ d ∈ tables_1, d.before a0 Z = true) : RoadKit.slotOf Z "com/example/careful_ledger/carefulledger/json/PlainLine" "shapeReader" "Ljava/lang/Object;" ≠ RoadKit.slotOf Z "com/example/careful_ledger/carefulledger/json/PlainLine" "partStart" "I" := slot_ne (Or.inl (wd_77 hw)) (Or.inl (wd_83 hw)) (by decide) (t := (.object "java/lang/Object")) (t' := .int) (by decide) (by decide)
theorem sl_100 {Z : State} {a0 : Array Value} (hw : ∀ d ∈ tables_1, d.before a0 Z = true) : RoadKit.slotOf Z "com/example/careful_ledger/carefulledger/json/PlainLine" "values" "I" ≠ RoadKit.slotOf Z "com/example/careful_ledger/carefulledger/json/PlainLine" "learning" "Z" := slot_ne (Or.inl (wd_79 hw)) (Or.inl (wd_81 hw)) (by decide) (t := .int) (t' := .boolean) (by decide) (by decide)
theorem sl_101 {Z : State} {a0 : Array Value} (hw : ∀ d ∈ tables_1, d.before a0 Z = true) : RoadKit.slotOf Z "com/example/careful_ledger/carefulledger/json/PlainLine" "values" "I" ≠ RoadKit.slotOf Z "com/example/careful_ledger/carefulledger/json/PlainLine" "partStart" "I" := slot_ne (Or.inl (wd_79 hw)) (Or.inl (wd_83 hw)) (by decide) (t := .int) (t' := .int) (by decide) (by decide)
theorem sl_102 {Z : State} {a0 : Array Value} (hw : ∀ d ∈ tables_1, d.before a0 Z = true) : RoadKit.slotOf Z "com/example/careful_ledger/carefulledger/json/PlainLine" "learning" "Z" ≠ RoadKit.slotOf Z "com/example/careful_ledger/carefulledger/json/PlainLine" "partStart" "I" := slot_ne (Or.inl (wd_81 hw)) (Or.inl (wd_83 hw)) (by decide) (t := .boolean) (t' := .int) (by decide) (by decide)
theorem ef_10 (m : MethodId) (x0 : Addr) : entryFrame m #[(.ref x0)] 1 = mkF m 0 #[.val (.ref x0)] [] := by first | (simp [entryFrame, mkF, argsToLocals, Value.category]; done) | rfl
def Q10 (Z : State) (vr0 : Addr) (u_bytes : Value) (w_at : Int32) (u_end : Value) (u_parts : Value) (u_partEnds : Value) (u_tags : Value) (u_shapeReader : Value) (u_values : Value) (u_learning : Value) (u_partStart : Value) (h0 : Heap) (n0 : Nat) (v : Option Value) (h : Heap) (L : List Loc) : Prop := v = none ∧ Fr n0 L ∧ Keep h0 h [vr0] ∧ Fld Z h vr0 "com/example/careful_ledger/carefulledger/json/PlainLine" "bytes" "[B" u_bytes ∧ Fld Z h vr0 "com/example/careful_ledger/carefulledger/json/PlainLine" "at" "I" (.int w_at) ∧ Fld Z h vr0 "com/example/careful_ledger/carefulledger/json/PlainLine" "end" "I" u_end ∧ Fld Z h vr0 "com/example/careful_ledger/carefulledger/json/PlainLine" "parts" "[B" u_parts ∧ Fld Z h vr0 "com/example/careful_ledger/carefulledger/json/PlainLine" "partEnds" "[I" u_partEnds ∧ Fld Z h vr0 "com/example/careful_ledger/carefulledger/json/PlainLine" "tags" "[Ljava/lang/Object;" u_tags ∧ Fld Z h vr0 "com/example/careful_ledger/carefulledger/json/PlainLine" "shapeReader" "Ljava/lang/Object;" .null ∧ Fld Z h vr0 "com/example/careful_ledger/carefulledger/json/PlainLine" "values" "I" (.int (0 : Int32)) ∧ Fld Z h vr0 "com/example/careful_ledger/carefulledger/json/PlainLine" "learning" "Z" (.int (1 : Int32)) ∧ Fld Z h vr0 "com/example/careful_ledger/carefulledger/json/PlainLine" "partStart" "I" (.int w_at)
set_option maxRecDepth 65536 in
set_option maxHeartbeats 40000000 in
theorem rm10 (l : Launch) (Z : State) (a0 : Array Value) (hw : ∀ d ∈ tables_1, d.before a0 Z = true) (ws : List Jvm.Cond) (vr0 : Addr) (u_bytes : Value) (w_at : Int32) (u_end : Value) (u_parts : Value) (u_partEnds : Value) (u_tags : Value) (u_shapeReader : Value) (u_values : Value) (u_learning : Value) (u_partStart : Value) (h0 : Heap) (n0 : Nat) (Z0 : n0 ≤ h0.size) (E_vr0 : Exa Z h0 vr0 "com/example/careful_ledger/carefulledger/json/PlainLine") (F_bytes_vr0 : Fld Z h0 vr0 "com/example/careful_ledger/carefulledger/json/PlainLine" "bytes" "[B" u_bytes) (F_at_vr0 : Fld Z h0 vr0 "com/example/careful_ledger/carefulledger/json/PlainLine" "at" "I" (.int w_at)) (F_end_vr0 : Fld Z h0 vr0 "com/example/careful_ledger/carefulledger/json/PlainLine" "end" "I" u_end) (F_parts_vr0 : Fld Z h0 vr0 "com/example/careful_ledger/carefulledger/json/PlainLine" "parts" "[B" u_parts) (F_partEnds_vr0 : Fld Z h0 vr0 "com/example/careful_ledger/carefulledger/json/PlainLine" "partEnds" "[I" u_partEnds) (F_tags_vr0 : Fld Z h0 vr0 "com/example/careful_ledger/carefulledger/json/PlainLine" "tags" "[Ljava/lang/Object;" u_tags) (F_shapeReader_vr0 : Fld Z h0 vr0 "com/example/careful_ledger/carefulledger/json/PlainLine" "shapeReader" "Ljava/lang/Object;" u_shapeReader) (F_values_vr0 : Fld Z h0 vr0 "com/example/careful_ledger/carefulledger/json/PlainLine" "values" "I" u_values) (F_learning_vr0 : Fld Z h0 vr0 "com/example/careful_ledger/carefulledger/json/PlainLine" "learning" "Z" u_learning) (F_partStart_vr0 : Fld Z h0 vr0 "com/example/careful_ledger/carefulledger/json/PlainLine" "partStart" "I" u_partStart) (g_vr0 : n0 ≤ vr0) :
    MetFree l (⟨"com/example/careful_ledger/carefulledger/json/PlainLine", "beginShape", "()V"⟩ : MethodName) (head1 (Jvm.Cond.code (⟨"com/example/careful_ledger/carefulledger/json/PlainLine", "beginShape", "()V"⟩ : MethodName) prog_58_method_5_code 1 none :: ws) ({ frames := 0, cells := 0, slots := 0, locals := 0 } : Room)) (fun a U => a = #[(.ref vr0)] ∧ Z.Warmed39 U.vm ∧ U.heap = h0) (fun _ _ _ _ _ => True) (fun _ U o U' => ∃ v L, o = .returned v ∧ Q10 Z vr0 u_bytes w_at u_end u_parts u_partEnds u_tags u_shapeReader u_values u_learning u_partStart h0 n0 v U'.heap L ∧ FrameEnd U o U' L ({ frames := 0, cells := 0, slots := 0, locals := 0 } : Room).cells ({ frames := 0, cells := 0, slots := 0, locals := 0 } : Room).slots) := by
  refine MetFree.of_bodySF (plainFor_of_name pn_com_example_careful_ledger_carefulledger_json_PlainLine) hisR ?_
  intro p e s m args below meth c s₁ Bd hml0 hP hK
  obtain ⟨rfl, hZ, hh⟩ := hP
  have hx := Bd.exec
  have hby := Bd.bytes
  have hml : c.maxLocals = 1 := hml0
  have hown : s.vm.findClass "com/example/careful_ledger/carefulledger/json/PlainLine" = some m.cls := findClass_of_methodNamed Bd.named
  have hnm := (name_of_methodNamed Bd.named Bd.method).1
  have X0 : Stand p l e ({ frames := 0, cells := 0, slots := 0, locals := 0 } : Room) s m #[(.ref vr0)] below meth c s₁ [] 0 0 := Stand.of_body Bd
  have e0 : s₁.heap = h0 := by rw [← hh, Bd.state]; rfl
  have N0 := Fr.nil n0
  have pre0 : ∀ t, Steps p.tables e below (s₁.setTop (mkF m 0 #[.val (.ref vr0)] [])) t → Steps p.tables e below (s₁.setTop (entryFrame m #[(.ref vr0)] 1)) t := fun t k => castTop (ef_10 m vr0) k
  obtain ⟨T1, h1, X1, e1, W1, st1⟩ := putF X0 hx hZ hown (host := "") (Or.inl (wd_76 hw)) Via.refl e0 F_shapeReader_vr0 E_vr0 (Or.inl (wd_77 hw)) (wd_32 hw) (ty := (.object "java/lang/Object")) (by decide) rfl rfl (g := (mkF m 2 #[.val (.ref vr0)] [.null, (.ref vr0)])) rfl rfl (hb hby d10_2)
  have Fw1 := F_shapeReader_vr0.same W1
  have N1 := Fr.snoc X1 N0 g_vr0
  have K1 : Keep h0 h1 [vr0] := (Keep.refl h0 [vr0]).wr W1 (Or.inl (List.mem_of_getElem? (i := 0) rfl))
  obtain ⟨T2, h2, X2, e2, W2, st2⟩ := putF X1 hx hZ hown (host := "") (Or.inl (wd_78 hw)) Via.refl e1 (F_values_vr0.other W1 (Or.inr (sl_67 hw))) (E_vr0.wr W1) (Or.inl (wd_79 hw)) (wd_32 hw) (ty := .int) (by decide) rfl rfl (g := (mkF m 7 #[.val (.ref vr0)] [(.int (0 : Int32)), (.ref vr0)])) rfl rfl (hb hby d10_7)
  have Fw2 := (F_values_vr0.other W1 (Or.inr (sl_67 hw))).same W2
  have N2 := Fr.snoc X2 N1 g_vr0
  have K2 : Keep h0 h2 [vr0] := K1.wr W2 (Or.inl (List.mem_of_getElem? (i := 0) rfl))
  obtain ⟨T3, h3, X3, e3, W3, st3⟩ := putFN X2 hx hZ hown (wd_80 hw) Via.refl e2 ((F_learning_vr0.other W1 (Or.inr (sl_68 hw))).other W2 (Or.inr (sl_69 hw))) ((E_vr0.wr W1).wr W2) (Or.inl (wd_81 hw)) (wd_32 hw) (ty := .boolean) (v := (.int (1 : Int32))) (v' := (.int (1 : Int32))) (by decide) rfl (by decide) (g := (mkF m 12 #[.val (.ref vr0)] [(.int (1 : Int32)), (.ref vr0)])) rfl rfl (hb hby d10_12)
  have Fw3 := ((F_learning_vr0.other W1 (Or.inr (sl_68 hw))).other W2 (Or.inr (sl_69 hw))).same W3
  have N3 := Fr.snoc X3 N2 g_vr0
  have K3 : Keep h0 h3 [vr0] := K2.wr W3 (Or.inl (List.mem_of_getElem? (i := 0) rfl))
  obtain ⟨T4, X4, e4, st4⟩ := getF X3 hx hZ hown (host := "") (Or.inl (wd_67 hw)) Via.refl e3 (((F_at_vr0.other W1 (Or.inr (sl_70 hw))).other W2 (Or.inr (sl_71 hw))).other W3 (Or.inr (sl_72 hw))) (g := (mkF m 17 #[.val (.ref vr0)] [(.ref vr0), (.ref vr0)])) rfl rfl (hb hby d10_17)
  obtain ⟨T5, h5, X5, e5, W5, st5⟩ := putF X4 hx hZ hown (host := "") (Or.inl (wd_82 hw)) Via.refl e4 (((F_partStart_vr0.other W1 (Or.inr (sl_73 hw))).other W2 (Or.inr (sl_74 hw))).other W3 (Or.inr (sl_75 hw))) (((E_vr0.wr W1).wr W2).wr W3) (Or.inl (wd_83 hw)) (wd_32 hw) (ty := .int) (by decide) rfl rfl (g := (mkF m 20 #[.val (.ref vr0)] [(.int w_at), (.ref vr0)])) rfl rfl (hb hby d10_20)
  have Fw5 := (((F_partStart_vr0.other W1 (Or.inr (sl_73 hw))).other W2 (Or.inr (sl_74 hw))).other W3 (Or.inr (sl_75 hw))).same W5
  have N5 := Fr.snoc X5 N3 g_vr0
  have K5 : Keep h0 h5 [vr0] := K3.wr W5 (Or.inl (List.mem_of_getElem? (i := 0) rfl))
  obtain ⟨fs, hr, hrun, hended, hW, hsame⟩ := X5.leave (v := none) (fun _ => rfl)
  refine ⟨_, _, pre0 _ ?_, hrun, hended, _, _, rfl, ?_, ⟨_, rfl⟩, hW, hsame.mono (by decide) (by decide)⟩
  · show Steps p.tables e below (s₁.setTop (mkF m 0 #[.val (.ref vr0)] [])) _
    refine XS.aloadN X0.here hx rfl (hb hby d10_0) rfl rfl ?_
    refine XS.aconstNull X0.here hx rfl (hb hby d10_1) ?_
    show Steps p.tables e below (s₁.setTop (mkF m 2 #[.val (.ref vr0)] [.null, (.ref vr0)])) _
    refine st1 _ ?_
    refine XS.aloadN X1.here hx rfl (hb hby d10_5) rfl rfl ?_
    show Steps p.tables e below (T1.setTop (mkF m 6 #[.val (.ref vr0)] [(.ref vr0)])) _
    refine XS.iconst X1.here hx rfl (hb hby d10_6) ?_
    show Steps p.tables e below (T1.setTop (mkF m 7 #[.val (.ref vr0)] [(.int (0 : Int32)), (.ref vr0)])) _
    refine st2 _ ?_
    refine XS.aloadN X2.here hx rfl (hb hby d10_10) rfl rfl ?_
    refine XS.iconst X2.here hx rfl (hb hby d10_11) ?_
    show Steps p.tables e below (T2.setTop (mkF m 12 #[.val (.ref vr0)] [(.int (1 : Int32)), (.ref vr0)])) _
    refine st3 _ ?_
    refine XS.aloadN X3.here hx rfl (hb hby d10_15) rfl rfl ?_
    refine XS.aloadN X3.here hx rfl (hb hby d10_16) rfl rfl ?_
    show Steps p.tables e below (T3.setTop (mkF m 17 #[.val (.ref vr0)] [(.ref vr0), (.ref vr0)])) _
    refine st4 _ ?_
    show Steps p.tables e below (T4.setTop (mkF m 20 #[.val (.ref vr0)] [(.int w_at), (.ref vr0)])) _
    refine st5 _ ?_
    exact X5.returnOut hx Bd.returns (hb hby d10_23) hr
  · show Q10 Z vr0 u_bytes w_at u_end u_parts u_partEnds u_tags u_shapeReader u_values u_learning u_partStart h0 n0 _ T5.heap _
    rw [e5]
    exact ⟨rfl, N5, K5, ((((F_bytes_vr0.other W1 (Or.inr (sl_76 hw))).other W2 (Or.inr (sl_77 hw))).other W3 (Or.inr (sl_78 hw))).other W5 (Or.inr (sl_79 hw))), ((((F_at_vr0.other W1 (Or.inr (sl_70 hw))).other W2 (Or.inr (sl_71 hw))).other W3 (Or.inr (sl_72 hw))).other W5 (Or.inr (sl_80 hw))), ((((F_end_vr0.other W1 (Or.inr (sl_81 hw))).other W2 (Or.inr (sl_82 hw))).other W3 (Or.inr (sl_83 hw))).other W5 (Or.inr (sl_84 hw))), ((((F_parts_vr0.other W1 (Or.inr (sl_85 hw))).other W2 (Or.inr (sl_86 hw))).other W3 (Or.inr (sl_87 hw))).other W5 (Or.inr (sl_88 hw))), ((((F_partEnds_vr0.other W1 (Or.inr (sl_89 hw))).other W2 (Or.inr (sl_90 hw))).other W3 (Or.inr (sl_91 hw))).other W5 (Or.inr (sl_92 hw))), ((((F_tags_vr0.other W1 (Or.inr (sl_93 hw))).other W2 (Or.inr (sl_94 hw))).other W3 (Or.inr (sl_95 hw))).other W5 (Or.inr (sl_96 hw))), (((Fw1.other W2 (Or.inr (sl_97 hw))).other W3 (Or.inr (sl_98 hw))).other W5 (Or.inr (sl_99 hw))), ((Fw2.other W3 (Or.inr (sl_100 hw))).other W5 (Or.inr (sl_101 hw))), (Fw3.other W5 (Or.inr (sl_102 hw))), Fw5⟩
theorem d11_0 : decode prog_58_method_4_code 0 = .ok (.aload_n 0, 1) := by decide +kernel
theorem d11_1 : decode prog_58_method_4_code 1 = .ok (.iload_n 1, 1) := by decide +kernel
theorem d11_2 : decode prog_58_method_4_code 2 = .ok (.putfield 33, 3) := by decide +kernel
theorem d11_5 : decode prog_58_method_4_code 5 = .ok (.return_, 1) := by decide +kernel
theorem ef_11 (m : MethodId) (x0 : Addr) (x1 : Int32) : entryFrame m #[(.ref x0), (.int x1)] 2 = mkF m 0 #[.val (.ref x0), .val (.int x1)] [] := by first | (simp [entryFrame, mkF, argsToLocals, Value.category]; done) | rfl
def Q11 (Z : State) (vr0 : Addr) (vi1 : Int32) (u_bytes : Value) (u_at : Value) (u_end : Value) (u_parts : Value) (u_partEnds : Value) (u_tags : Value) (u_shapeReader : Value) (u_values : Value) (u_learning : Value) (u_partStart : Value) (h0 : Heap) (n0 : Nat) (v : Option Value) (h : Heap) (L : List Loc) : Prop := v = none ∧ Fr n0 L ∧ Keep h0 h [vr0] ∧ Fld Z h vr0 "com/example/careful_ledger/carefulledger/json/PlainLine" "bytes" "[B" u_bytes ∧ Fld Z h vr0 "com/example/careful_ledger/carefulledger/json/PlainLine" "at" "I" (.int vi1) ∧ Fld Z h vr0 "com/example/careful_ledger/carefulledger/json/PlainLine" "end" "I" u_end ∧ Fld Z h vr0 "com/example/careful_ledger/carefulledger/json/PlainLine" "parts" "[B" u_parts ∧ Fld Z h vr0 "com/example/careful_ledger/carefulledger/json/PlainLine" "partEnds" "[I" u_partEnds ∧ Fld Z h vr0 "com/example/careful_ledger/carefulledger/json/PlainLine" "tags" "[Ljava/lang/Object;" u_tags ∧ Fld Z h vr0 "com/example/careful_ledger/carefulledger/json/PlainLine" "shapeReader" "Ljava/lang/Object;" u_shapeReader ∧ Fld Z h vr0 "com/example/careful_ledger/carefulledger/json/PlainLine" "values" "I" u_values ∧ Fld Z h vr0 "com/example/careful_ledger/carefulledger/json/PlainLine" "learning" "Z" u_learning ∧ Fld Z h vr0 "com/example/careful_ledger/carefulledger/json/PlainLine" "partStart" "I" u_partStart
set_option maxRecDepth 65536 in
set_option maxHeartbeats 40000000 in
theorem rm11 (l : Launch) (Z : State) (a0 : Array Value) (hw : ∀ d ∈ tables_1, d.before a0 Z = true) (ws : List Jvm.Cond) (vr0 : Addr) (vi1 : Int32) (u_bytes : Value) (u_at : Value) (u_end : Value) (u_parts : Value) (u_partEnds : Value) (u_tags : Value) (u_shapeReader : Value) (u_values : Value) (u_learning : Value) (u_partStart : Value) (h0 : Heap) (n0 : Nat) (Z0 : n0 ≤ h0.size) (E_vr0 : Exa Z h0 vr0 "com/example/careful_ledger/carefulledger/json/PlainLine") (F_bytes_vr0 : Fld Z h0 vr0 "com/example/careful_ledger/carefulledger/json/PlainLine" "bytes" "[B" u_bytes) (F_at_vr0 : Fld Z h0 vr0 "com/example/careful_ledger/carefulledger/json/PlainLine" "at" "I" u_at) (F_end_vr0 : Fld Z h0 vr0 "com/example/careful_ledger/carefulledger/json/PlainLine" "end" "I" u_end) (F_parts_vr0 : Fld Z h0 vr0 "com/example/careful_ledger/carefulledger/json/PlainLine" "parts" "[B" u_parts) (F_partEnds_vr0 : Fld Z h0 vr0 "com/example/careful_ledger/carefulledger/json/PlainLine" "partEnds" "[I" u_partEnds) (F_tags_vr0 : Fld Z h0 vr0 "com/example/careful_ledger/carefulledger/json/PlainLine" "tags" "[Ljava/lang/Object;" u_tags) (F_shapeReader_vr0 : Fld Z h0 vr0 "com/example/careful_ledger/carefulledger/json/PlainLine" "shapeReader" "Ljava/lang/Object;" u_shapeReader) (F_values_vr0 : Fld Z h0 vr0 "com/example/careful_ledger/carefulledger/json/PlainLine" "values" "I" u_values) (F_learning_vr0 : Fld Z h0 vr0 "com/example/careful_ledger/carefulledger/json/PlainLine" "learning" "Z" u_learning) (F_partStart_vr0 : Fld Z h0 vr0 "com/example/careful_ledger/carefulledger/json/PlainLine" "partStart" "I" u_partStart) (g_vr0 : n0 ≤ vr0) :
    MetFree l (⟨"com/example/careful_ledger/carefulledger/json/PlainLine", "moveTo", "(I)V"⟩ : MethodName) (head1 (Jvm.Cond.code (⟨"com/example/careful_ledger/carefulledger/json/PlainLine", "moveTo", "(I)V"⟩ : MethodName) prog_58_method_4_code 2 none :: ws) ({ frames := 0, cells := 0, slots := 0, locals := 0 } : Room)) (fun a U => a = #[(.ref vr0), (.int vi1)] ∧ Z.Warmed39 U.vm ∧ U.heap = h0) (fun _ _ _ _ _ => True) (fun _ U o U' => ∃ v L, o = .returned v ∧ Q11 Z vr0 vi1 u_bytes u_at u_end u_parts u_partEnds u_tags u_shapeReader u_values u_learning u_partStart h0 n0 v U'.heap L ∧ FrameEnd U o U' L ({ frames := 0, cells := 0, slots := 0, locals := 0 } : Room).cells ({ frames := 0, cells := 0, slots := 0, locals := 0 } : Room).slots) := by
  refine MetFree.of_bodySF (plainFor_of_name pn_com_example_careful_ledger_carefulledger_json_PlainLine) hisR ?_
  intro p e s m args below meth c s₁ Bd hml0 hP hK
  obtain ⟨rfl, hZ, hh⟩ := hP
  have hx := Bd.exec
  have hby := Bd.bytes
  have hml : c.maxLocals = 2 := hml0
  have hown : s.vm.findClass "com/example/careful_ledger/carefulledger/json/PlainLine" = some m.cls := findClass_of_methodNamed Bd.named
  have hnm := (name_of_methodNamed Bd.named Bd.method).1
  have X0 : Stand p l e ({ frames := 0, cells := 0, slots := 0, locals := 0 } : Room) s m #[(.ref vr0), (.int vi1)] below meth c s₁ [] 0 0 := Stand.of_body Bd
  have e0 : s₁.heap = h0 := by rw [← hh, Bd.state]; rfl
  have N0 := Fr.nil n0
  have pre0 : ∀ t, Steps p.tables e below (s₁.setTop (mkF m 0 #[.val (.ref vr0), .val (.int vi1)] [])) t → Steps p.tables e below (s₁.setTop (entryFrame m #[(.ref vr0), (.int vi1)] 2)) t := fun t k => castTop (ef_11 m vr0 vi1) k
  obtain ⟨T1, h1, X1, e1, W1, st1⟩ := putF X0 hx hZ hown (host := "") (Or.inl (wd_67 hw)) Via.refl e0 F_at_vr0 E_vr0 (Or.inl (wd_68 hw)) (wd_32 hw) (ty := .int) (by decide) rfl rfl (g := (mkF m 2 #[.val (.ref vr0), .val (.int vi1)] [(.int vi1), (.ref vr0)])) rfl rfl (hb hby d11_2)
  have Fw1 := F_at_vr0.same W1
  have N1 := Fr.snoc X1 N0 g_vr0
  have K1 : Keep h0 h1 [vr0] := (Keep.refl h0 [vr0]).wr W1 (Or.inl (List.mem_of_getElem? (i := 0) rfl))
  obtain ⟨fs, hr, hrun, hended, hW, hsame⟩ := X1.leave (v := none) (fun _ => rfl)
  refine ⟨_, _, pre0 _ ?_, hrun, hended, _, _, rfl, ?_, ⟨_, rfl⟩, hW, hsame.mono (by decide) (by decide)⟩
  · show Steps p.tables e below (s₁.setTop (mkF m 0 #[.val (.ref vr0), .val (.int vi1)] [])) _
    refine XS.aloadN X0.here hx rfl (hb hby d11_0) rfl rfl ?_
    refine XS.iloadN X0.here hx rfl (hb hby d11_1) rfl ?_
    show Steps p.tables e below (s₁.setTop (mkF m 2 #[.val (.ref vr0), .val (.int vi1)] [(.int vi1), (.ref vr0)])) _
    refine st1 _ ?_
    exact X1.returnOut hx Bd.returns (hb hby d11_5) hr
  · show Q11 Z vr0 vi1 u_bytes u_at u_end u_parts u_partEnds u_tags u_shapeReader u_values u_learning u_partStart h0 n0 _ T1.heap _
    rw [e1]
    exact ⟨rfl, N1, K1, (F_bytes_vr0.other W1 (Or.inr (sl_50 hw))), Fw1, (F_end_vr0.other W1 (Or.inr (sl_49 hw))), (F_parts_vr0.other W1 (Or.inr (sl_53 hw))), (F_partEnds_vr0.other W1 (Or.inr (sl_55 hw))), (F_tags_vr0.other W1 (Or.inr (sl_57 hw))), (F_shapeReader_vr0.other W1 (Or.inr (sl_59 hw))), (F_values_vr0.other W1 (Or.inr (sl_61 hw))), (F_learning_vr0.other W1 (Or.inr (sl_63 hw))), (F_partStart_vr0.other W1 (Or.inr (sl_65 hw)))⟩
theorem d19_0 : decode prog_58_method_7_code 0 = .ok (.aload_n 0, 1) := by decide +kernel
theorem d19_1 : decode prog_58_method_7_code 1 = .ok (.aload_n 0, 1) := by decide +kernel
theorem d19_2 : decode prog_58_method_7_code 2 = .ok (.getfield 33, 3) := by decide +kernel
theorem d19_5 : decode prog_58_method_7_code 5 = .ok (.putfield 51, 3) := by decide +kernel
theorem d19_8 : decode prog_58_method_7_code 8 = .ok (.return_, 1) := by decide +kernel
theorem ef_19 (m : MethodId) (x0 : Addr) : entryFrame m #[(.ref x0)] 1 = mkF m 0 #[.val (.ref x0)] [] := by first | (simp [entryFrame, mkF, argsToLocals, Value.category]; done) | rfl
def Q19 (Z : State) (vr0 : Addr) (u_bytes : Value) (w_at : Int32) (u_end : Value) (u_parts : Value) (u_partEnds : Value) (u_tags : Value) (u_shapeReader : Value) (u_values : Value) (u_learning : Value) (u_partStart : Value) (h0 : Heap) (n0 : Nat) (v : Option Value) (h : Heap) (L : List Loc) : Prop := v = none ∧ Fr n0 L ∧ Keep h0 h [vr0] ∧ Fld Z h vr0 "com/example/careful_ledger/carefulledger/json/PlainLine" "bytes" "[B" u_bytes ∧ Fld Z h vr0 "com/example/careful_ledger/carefulledger/json/PlainLine" "at" "I" (.int w_at) ∧ Fld Z h vr0 "com/example/careful_ledger/carefulledger/json/PlainLine" "end" "I" u_end ∧ Fld Z h vr0 "com/example/careful_ledger/carefulledger/json/PlainLine" "parts" "[B" u_parts ∧ Fld Z h vr0 "com/example/careful_ledger/carefulledger/json/PlainLine" "partEnds" "[I" u_partEnds ∧ Fld Z h vr0 "com/example/careful_ledger/carefulledger/json/PlainLine" "tags" "[Ljava/lang/Object;" u_tags ∧ Fld Z h vr0 "com/example/careful_ledger/carefulledger/json/PlainLine" "shapeReader" "Ljava/lang/Object;" u_shapeReader ∧ Fld Z h vr0 "com/example/careful_ledger/carefulledger/json/PlainLine" "values" "I" u_values ∧ Fld Z h vr0 "com/example/careful_ledger/carefulledger/json/PlainLine" "learning" "Z" u_learning ∧ Fld Z h vr0 "com/example/careful_ledger/carefulledger/json/PlainLine" "partStart" "I" (.int w_at)
set_option maxRecDepth 65536 in
set_option maxHeartbeats 40000000 in
theorem rm19 (l : Launch) (Z : State) (a0 : Array Value) (hw : ∀ d ∈ tables_1, d.before a0 Z = true) (ws : List Jvm.Cond) (vr0 : Addr) (u_bytes : Value) (w_at : Int32) (u_end : Value) (u_parts : Value) (u_partEnds : Value) (u_tags : Value) (u_shapeReader : Value) (u_values : Value) (u_learning : Value) (u_partStart : Value) (h0 : Heap) (n0 : Nat) (Z0 : n0 ≤ h0.size) (E_vr0 : Exa Z h0 vr0 "com/example/careful_ledger/carefulledger/json/PlainLine") (F_bytes_vr0 : Fld Z h0 vr0 "com/example/careful_ledger/carefulledger/json/PlainLine" "bytes" "[B" u_bytes) (F_at_vr0 : Fld Z h0 vr0 "com/example/careful_ledger/carefulledger/json/PlainLine" "at" "I" (.int w_at)) (F_end_vr0 : Fld Z h0 vr0 "com/example/careful_ledger/carefulledger/json/PlainLine" "end" "I" u_end) (F_parts_vr0 : Fld Z h0 vr0 "com/example/careful_ledger/carefulledger/json/PlainLine" "parts" "[B" u_parts) (F_partEnds_vr0 : Fld Z h0 vr0 "com/example/careful_ledger/carefulledger/json/PlainLine" "partEnds" "[I" u_partEnds) (F_tags_vr0 : Fld Z h0 vr0 "com/example/careful_ledger/carefulledger/json/PlainLine" "tags" "[Ljava/lang/Object;" u_tags) (F_shapeReader_vr0 : Fld Z h0 vr0 "com/example/careful_ledger/carefulledger/json/PlainLine" "shapeReader" "Ljava/lang/Object;" u_shapeReader) (F_values_vr0 : Fld Z h0 vr0 "com/example/careful_ledger/carefulledger/json/PlainLine" "values" "I" u_values) (F_learning_vr0 : Fld Z h0 vr0 "com/example/careful_ledger/carefulledger/json/PlainLine" "learning" "Z" u_learning) (F_partStart_vr0 : Fld Z h0 vr0 "com/example/careful_ledger/carefulledger/json/PlainLine" "partStart" "I" u_partStart) (g_vr0 : n0 ≤ vr0) :
    MetFree l (⟨"com/example/careful_ledger/carefulledger/json/PlainLine", "valueRead", "()V"⟩ : MethodName) (head1 (Jvm.Cond.code (⟨"com/example/careful_ledger/carefulledger/json/PlainLine", "valueRead", "()V"⟩ : MethodName) prog_58_method_7_code 1 none :: ws) ({ frames := 0, cells := 0, slots := 0, locals := 0 } : Room)) (fun a U => a = #[(.ref vr0)] ∧ Z.Warmed39 U.vm ∧ U.heap = h0) (fun _ _ _ _ _ => True) (fun _ U o U' => ∃ v L, o = .returned v ∧ Q19 Z vr0 u_bytes w_at u_end u_parts u_partEnds u_tags u_shapeReader u_values u_learning u_partStart h0 n0 v U'.heap L ∧ FrameEnd U o U' L ({ frames := 0, cells := 0, slots := 0, locals := 0 } : Room).cells ({ frames := 0, cells := 0, slots := 0, locals := 0 } : Room).slots) := by
  refine MetFree.of_bodySF (plainFor_of_name pn_com_example_careful_ledger_carefulledger_json_PlainLine) hisR ?_
  intro p e s m args below meth c s₁ Bd hml0 hP hK
  obtain ⟨rfl, hZ, hh⟩ := hP
  have hx := Bd.exec
  have hby := Bd.bytes
  have hml : c.maxLocals = 1 := hml0
  have hown : s.vm.findClass "com/example/careful_ledger/carefulledger/json/PlainLine" = some m.cls := findClass_of_methodNamed Bd.named
  have hnm := (name_of_methodNamed Bd.named Bd.method).1
  have X0 : Stand p l e ({ frames := 0, cells := 0, slots := 0, locals := 0 } : Room) s m #[(.ref vr0)] below meth c s₁ [] 0 0 := Stand.of_body Bd
  have e0 : s₁.heap = h0 := by rw [← hh, Bd.state]; rfl
  have N0 := Fr.nil n0
  have pre0 : ∀ t, Steps p.tables e below (s₁.setTop (mkF m 0 #[.val (.ref vr0)] [])) t → Steps p.tables e below (s₁.setTop (entryFrame m #[(.ref vr0)] 1)) t := fun t k => castTop (ef_19 m vr0) k
  obtain ⟨T1, X1, e1, st1⟩ := getF X0 hx hZ hown (host := "") (Or.inl (wd_67 hw)) Via.refl e0 F_at_vr0 (g := (mkF m 2 #[.val (.ref vr0)] [(.ref vr0), (.ref vr0)])) rfl rfl (hb hby d19_2)
  obtain ⟨T2, h2, X2, e2, W2, st2⟩ := putF X1 hx hZ hown (host := "") (Or.inl (wd_82 hw)) Via.refl e1 F_partStart_vr0 E_vr0 (Or.inl (wd_83 hw)) (wd_32 hw) (ty := .int) (by decide) rfl rfl (g := (mkF m 5 #[.val (.ref vr0)] [(.int w_at), (.ref vr0)])) rfl rfl (hb hby d19_5)
  have Fw2 := F_partStart_vr0.same W2
  have N2 := Fr.snoc X2 N0 g_vr0
  have K2 : Keep h0 h2 [vr0] := (Keep.refl h0 [vr0]).wr W2 (Or.inl (List.mem_of_getElem? (i := 0) rfl))
  obtain ⟨fs, hr, hrun, hended, hW, hsame⟩ := X2.leave (v := none) (fun _ => rfl)
  refine ⟨_, _, pre0 _ ?_, hrun, hended, _, _, rfl, ?_, ⟨_, rfl⟩, hW, hsame.mono (by decide) (by decide)⟩
  · show Steps p.tables e below (s₁.setTop (mkF m 0 #[.val (.ref vr0)] [])) _
    refine XS.aloadN X0.here hx rfl (hb hby d19_0) rfl rfl ?_
    refine XS.aloadN X0.here hx rfl (hb hby d19_1) rfl rfl ?_
    show Steps p.tables e below (s₁.setTop (mkF m 2 #[.val (.ref vr0)] [(.ref vr0), (.ref vr0)])) _
    refine st1 _ ?_
    show Steps p.tables e below (T1.setTop (mkF m 5 #[.val (.ref vr0)] [(.int w_at), (.ref vr0)])) _
    refine st2 _ ?_
    show Steps p.tables e below (T2.setTop (mkF m 8 #[.val (.ref vr0)] [])) _
    exact X2.returnOut hx Bd.returns (hb hby d19_8) hr
  · show Q19 Z vr0 u_bytes w_at u_end u_parts u_partEnds u_tags u_shapeReader u_values u_learning u_partStart h0 n0 _ T2.heap _
    rw [e2]
    exact ⟨rfl, N2, K2, (F_bytes_vr0.other W2 (Or.inr (sl_79 hw))), (F_at_vr0.other W2 (Or.inr (sl_80 hw))), (F_end_vr0.other W2 (Or.inr (sl_84 hw))), (F_parts_vr0.other W2 (Or.inr (sl_88 hw))), (F_partEnds_vr0.other W2 (Or.inr (sl_92 hw))), (F_tags_vr0.other W2 (Or.inr (sl_96 hw))), (F_shapeReader_vr0.other W2 (Or.inr (sl_99 hw))), (F_values_vr0.other W2 (Or.inr (sl_101 hw))), (F_learning_vr0.other W2 (Or.inr (sl_102 hw))), Fw2⟩
def own_max (a b : Int32) : Int32 := if a < b then b else a
def own_min (a b : Int32) : Int32 := if b < a then b else a
theorem d16_0 : decode jdk_29_method_65_code 0 = .ok (.iload_n 0, 1) := by decide +kernel
theorem d16_1 : decode jdk_29_method_65_code 1 = .ok (.iload_n 1, 1) := by decide +kernel
theorem d16_2 : decode jdk_29_method_65_code 2 = .ok (.if_icmp .lt 7, 3) := by decide +kernel
theorem d16_9 : decode jdk_29_method_65_code 9 = .ok (.iload_n 1, 1) := by decide +kernel
theorem d16_10 : decode jdk_29_method_65_code 10 = .ok (.ireturn, 1) := by decide +kernel
theorem ef_16_maxt (m : MethodId) (x0 : Int32) (x1 : Int32) : entryFrame m #[(.int x0), (.int x1)] 2 = mkF m 0 #[.val (.int x0), .val (.int x1)] [] := by first | (simp [entryFrame, mkF, argsToLocals, Value.category]; done) | rfl
def Q16_maxt (Z : State) (vi0 : Int32) (vi1 : Int32) (h0 : Heap) (n0 : Nat) (v : Option Value) (h : Heap) (L : List Loc) : Prop := v = some (.int (own_max vi0 vi1)) ∧ Fr n0 L ∧ h = h0
set_option maxRecDepth 65536 in
set_option maxHeartbeats 40000000 in
theorem rm16_maxt (l : Launch) (Z : State) (a0 : Array Value) (hw : ∀ d ∈ tables_1, d.before a0 Z = true) (ws : List Jvm.Cond) (vi0 : Int32) (vi1 : Int32) (h0 : Heap) (n0 : Nat) (Z0 : n0 ≤ h0.size) (hc2 : vi0 < vi1) :
    MetFree l (⟨"java/lang/Math", "max", "(II)I"⟩ : MethodName) (head1 (Jvm.Cond.code (⟨"java/lang/Math", "max", "(II)I"⟩ : MethodName) jdk_29_method_65_code 2 (some .int) :: ws) ({ frames := 0, cells := 0, slots := 0, locals := 0 } : Room)) (fun a U => a = #[(.int vi0), (.int vi1)] ∧ Z.Warmed39 U.vm ∧ U.heap = h0) (fun _ _ _ _ _ => True) (fun _ U o U' => ∃ v L, o = .returned v ∧ Q16_maxt Z vi0 vi1 h0 n0 v U'.heap L ∧ FrameEnd U o U' L ({ frames := 0, cells := 0, slots := 0, locals := 0 } : Room).cells ({ frames := 0, cells := 0, slots := 0, locals := 0 } : Room).slots) := by
  refine MetFree.of_bodySF (Jvm.Free.JP.mathPlain rfl (by decide +kernel)) hisR ?_
  intro p e s m args below meth c s₁ Bd hml0 hP hK
  obtain ⟨rfl, hZ, hh⟩ := hP
  have hx := Bd.exec
  have hby := Bd.bytes
  have hml : c.maxLocals = 2 := hml0
  have hown : s.vm.findClass "java/lang/Math" = some m.cls := findClass_of_methodNamed Bd.named
  have hnm := (name_of_methodNamed Bd.named Bd.method).1
  have X0 : Stand p l e ({ frames := 0, cells := 0, slots := 0, locals := 0 } : Room) s m #[(.int vi0), (.int vi1)] below meth c s₁ [] 0 0 := Stand.of_body Bd
  have e0 : s₁.heap = h0 := by rw [← hh, Bd.state]; rfl
  have N0 := Fr.nil n0
  have pre0 : ∀ t, Steps p.tables e below (s₁.setTop (mkF m 0 #[.val (.int vi0), .val (.int vi1)] [])) t → Steps p.tables e below (s₁.setTop (entryFrame m #[(.int vi0), (.int vi1)] 2)) t := fun t k => castTop (ef_16_maxt m vi0 vi1) k
  obtain ⟨fs, hr, hrun, hended, hW, hsame⟩ := X0.leave (v := some (.int vi1)) (fun h => by rw [Bd.returns] at h; cases h)
  refine ⟨_, _, pre0 _ ?_, hrun, hended, _, _, rfl, ?_, ⟨_, rfl⟩, hW, hsame.mono (by decide) (by decide)⟩
  · show Steps p.tables e below (s₁.setTop (mkF m 0 #[.val (.int vi0), .val (.int vi1)] [])) _
    refine XS.iloadN X0.here hx rfl (hb hby d16_0) rfl ?_
    refine XS.iloadN X0.here hx rfl (hb hby d16_1) rfl ?_
    show Steps p.tables e below (s₁.setTop (mkF m 2 #[.val (.int vi0), .val (.int vi1)] [(.int vi1), (.int vi0)])) _
    refine XS.icmpYes X0.here hx rfl (pc0 := 2) (pc' := 9) rfl (hb hby d16_2) rfl (tlt hc2).1 (by decide) (by decide) ?_
    refine XS.iloadN X0.here hx rfl (hb hby d16_9) rfl ?_
    show Steps p.tables e below (s₁.setTop (mkF m 10 #[.val (.int vi0), .val (.int vi1)] [(.int vi1)])) _
    exact retI X0 hx Bd.returns (hb hby d16_10) hr
  · show Q16_maxt Z vi0 vi1 h0 n0 _ s₁.heap _
    rw [e0]
    exact ⟨(congrArg (fun z => some (Value.int z)) (if_pos hc2).symm), N0, rfl⟩
theorem d16_5 : decode jdk_29_method_65_code 5 = .ok (.iload_n 0, 1) := by decide +kernel
theorem d16_6 : decode jdk_29_method_65_code 6 = .ok (.goto 4, 3) := by decide +kernel
theorem ef_16_maxf (m : MethodId) (x0 : Int32) (x1 : Int32) : entryFrame m #[(.int x0), (.int x1)] 2 = mkF m 0 #[.val (.int x0), .val (.int x1)] [] := by first | (simp [entryFrame, mkF, argsToLocals, Value.category]; done) | rfl
def Q16_maxf (Z : State) (vi0 : Int32) (vi1 : Int32) (h0 : Heap) (n0 : Nat) (v : Option Value) (h : Heap) (L : List Loc) : Prop := v = some (.int (own_max vi0 vi1)) ∧ Fr n0 L ∧ h = h0
set_option maxRecDepth 65536 in
set_option maxHeartbeats 40000000 in
theorem rm16_maxf (l : Launch) (Z : State) (a0 : Array Value) (hw : ∀ d ∈ tables_1, d.before a0 Z = true) (ws : List Jvm.Cond) (vi0 : Int32) (vi1 : Int32) (h0 : Heap) (n0 : Nat) (Z0 : n0 ≤ h0.size) (hc2 : ¬ (vi0 < vi1)) :
    MetFree l (⟨"java/lang/Math", "max", "(II)I"⟩ : MethodName) (head1 (Jvm.Cond.code (⟨"java/lang/Math", "max", "(II)I"⟩ : MethodName) jdk_29_method_65_code 2 (some .int) :: ws) ({ frames := 0, cells := 0, slots := 0, locals := 0 } : Room)) (fun a U => a = #[(.int vi0), (.int vi1)] ∧ Z.Warmed39 U.vm ∧ U.heap = h0) (fun _ _ _ _ _ => True) (fun _ U o U' => ∃ v L, o = .returned v ∧ Q16_maxf Z vi0 vi1 h0 n0 v U'.heap L ∧ FrameEnd U o U' L ({ frames := 0, cells := 0, slots := 0, locals := 0 } : Room).cells ({ frames := 0, cells := 0, slots := 0, locals := 0 } : Room).slots) := by
  refine MetFree.of_bodySF (Jvm.Free.JP.mathPlain rfl (by decide +kernel)) hisR ?_
  intro p e s m args below meth c s₁ Bd hml0 hP hK
  obtain ⟨rfl, hZ, hh⟩ := hP
  have hx := Bd.exec
  have hby := Bd.bytes
  have hml : c.maxLocals = 2 := hml0
  have hown : s.vm.findClass "java/lang/Math" = some m.cls := findClass_of_methodNamed Bd.named
  have hnm := (name_of_methodNamed Bd.named Bd.method).1
  have X0 : Stand p l e ({ frames := 0, cells := 0, slots := 0, locals := 0 } : Room) s m #[(.int vi0), (.int vi1)] below meth c s₁ [] 0 0 := Stand.of_body Bd
  have e0 : s₁.heap = h0 := by rw [← hh, Bd.state]; rfl
  have N0 := Fr.nil n0
  have pre0 : ∀ t, Steps p.tables e below (s₁.setTop (mkF m 0 #[.val (.int vi0), .val (.int vi1)] [])) t → Steps p.tables e below (s₁.setTop (entryFrame m #[(.int vi0), (.int vi1)] 2)) t := fun t k => castTop (ef_16_maxf m vi0 vi1) k
  obtain ⟨fs, hr, hrun, hended, hW, hsame⟩ := X0.leave (v := some (.int vi0)) (fun h => by rw [Bd.returns] at h; cases h)
  refine ⟨_, _, pre0 _ ?_, hrun, hended, _, _, rfl, ?_, ⟨_, rfl⟩, hW, hsame.mono (by decide) (by decide)⟩
  · show Steps p.tables e below (s₁.setTop (mkF m 0 #[.val (.int vi0), .val (.int vi1)] [])) _
    refine XS.iloadN X0.here hx rfl (hb hby d16_0) rfl ?_
    refine XS.iloadN X0.here hx rfl (hb hby d16_1) rfl ?_
    show Steps p.tables e below (s₁.setTop (mkF m 2 #[.val (.int vi0), .val (.int vi1)] [(.int vi1), (.int vi0)])) _
    refine XS.icmpNo X0.here hx rfl (hb hby d16_2) rfl (flt hc2).1 ?_
    refine XS.iloadN X0.here hx rfl (hb hby d16_5) rfl ?_
    show Steps p.tables e below (s₁.setTop (mkF m 6 #[.val (.int vi0), .val (.int vi1)] [(.int vi0)])) _
    refine XS.goto X0.here hx rfl (pc0 := 6) (pc' := 10) rfl (hb hby d16_6) (by decide) (by decide) ?_
    exact retI X0 hx Bd.returns (hb hby d16_10) hr
  · show Q16_maxf Z vi0 vi1 h0 n0 _ s₁.heap _
    rw [e0]
    exact ⟨(congrArg (fun z => some (Value.int z)) (if_neg hc2).symm), N0, rfl⟩
def Q_max (Z : State) (vi0 : Int32) (vi1 : Int32) (h0 : Heap) (n0 : Nat) (v : Option Value) (h : Heap) (L : List Loc) : Prop := v = some (.int (own_max vi0 vi1)) ∧ Fr n0 L ∧ h = h0
set_option maxRecDepth 65536 in
set_option maxHeartbeats 4000000 in
theorem rm_max (l : Launch) (Z : State) (a0 : Array Value) (hw : ∀ d ∈ tables_1, d.before a0 Z = true) (ws : List Jvm.Cond) (vi0 : Int32) (vi1 : Int32) (h0 : Heap) (n0 : Nat) (Z0 : n0 ≤ h0.size)  :
    MetFree l (⟨"java/lang/Math", "max", "(II)I"⟩ : MethodName) (head1 (Jvm.Cond.code (⟨"java/lang/Math", "max", "(II)I"⟩ : MethodName) jdk_29_method_65_code 2 (some .int) :: ws) ({ frames := 0, cells := 0, slots := 0, locals := 0 } : Room)) (fun a U => a = #[(.int vi0), (.int vi1)] ∧ Z.Warmed39 U.vm ∧ U.heap = h0) (fun _ _ _ _ _ => True) (fun _ U o U' => ∃ v L, o = .returned v ∧ Q_max Z vi0 vi1 h0 n0 v U'.heap L ∧ FrameEnd U o U' L ({ frames := 0, cells := 0, slots := 0, locals := 0 } : Room).cells ({ frames := 0, cells := 0, slots := 0, locals := 0 } : Room).slots) := by
  by_cases hc2 : vi0 < vi1
  · exact rm16_maxt l Z a0 hw ws vi0 vi1 h0 n0 Z0 hc2
  · exact rm16_maxf l Z a0 hw ws vi0 vi1 h0 n0 Z0 hc2
theorem d17_0 : decode jdk_29_method_69_code 0 = .ok (.iload_n 0, 1) := by decide +kernel
theorem d17_1 : decode jdk_29_method_69_code 1 = .ok (.iload_n 1, 1) := by decide +kernel
theorem d17_2 : decode jdk_29_method_69_code 2 = .ok (.if_icmp .gt 7, 3) := by decide +kernel
theorem d17_9 : decode jdk_29_method_69_code 9 = .ok (.iload_n 1, 1) := by decide +kernel
theorem d17_10 : decode jdk_29_method_69_code 10 = .ok (.ireturn, 1) := by decide +kernel
theorem ef_17_mint (m : MethodId) (x0 : Int32) (x1 : Int32) : entryFrame m #[(.int x0), (.int x1)] 2 = mkF m 0 #[.val (.int x0), .val (.int x1)] [] := by first | (simp [entryFrame, mkF, argsToLocals, Value.category]; done) | rfl
def Q17_mint (Z : State) (vi0 : Int32) (vi1 : Int32) (h0 : Heap) (n0 : Nat) (v : Option Value) (h : Heap) (L : List Loc) : Prop := v = some (.int (own_min vi0 vi1)) ∧ Fr n0 L ∧ h = h0
set_option maxRecDepth 65536 in
set_option maxHeartbeats 40000000 in
theorem rm17_mint (l : Launch) (Z : State) (a0 : Array Value) (hw : ∀ d ∈ tables_1, d.before a0 Z = true) (ws : List Jvm.Cond) (vi0 : Int32) (vi1 : Int32) (h0 : Heap) (n0 : Nat) (Z0 : n0 ≤ h0.size) (hc2 : vi1 < vi0) :
    MetFree l (⟨"java/lang/Math", "min", "(II)I"⟩ : MethodName) (head1 (Jvm.Cond.code (⟨"java/lang/Math", "min", "(II)I"⟩ : MethodName) jdk_29_method_69_code 2 (some .int) :: ws) ({ frames := 0, cells := 0, slots := 0, locals := 0 } : Room)) (fun a U => a = #[(.int vi0), (.int vi1)] ∧ Z.Warmed39 U.vm ∧ U.heap = h0) (fun _ _ _ _ _ => True) (fun _ U o U' => ∃ v L, o = .returned v ∧ Q17_mint Z vi0 vi1 h0 n0 v U'.heap L ∧ FrameEnd U o U' L ({ frames := 0, cells := 0, slots := 0, locals := 0 } : Room).cells ({ frames := 0, cells := 0, slots := 0, locals := 0 } : Room).slots) := by
  refine MetFree.of_bodySF (Jvm.Free.JP.mathPlain rfl (by decide +kernel)) hisR ?_
  intro p e s m args below meth c s₁ Bd hml0 hP hK
  obtain ⟨rfl, hZ, hh⟩ := hP
  have hx := Bd.exec
  have hby := Bd.bytes
  have hml : c.maxLocals = 2 := hml0
  have hown : s.vm.findClass "java/lang/Math" = some m.cls := findClass_of_methodNamed Bd.named
  have hnm := (name_of_methodNamed Bd.named Bd.method).1
  have X0 : Stand p l e ({ frames := 0, cells := 0, slots := 0, locals := 0 } : Room) s m #[(.int vi0), (.int vi1)] below meth c s₁ [] 0 0 := Stand.of_body Bd
  have e0 : s₁.heap = h0 := by rw [← hh, Bd.state]; rfl
  have N0 := Fr.nil n0
  have pre0 : ∀ t, Steps p.tables e below (s₁.setTop (mkF m 0 #[.val (.int vi0), .val (.int vi1)] [])) t → Steps p.tables e below (s₁.setTop (entryFrame m #[(.int vi0), (.int vi1)] 2)) t := fun t k => castTop (ef_17_mint m vi0 vi1) k
  obtain ⟨fs, hr, hrun, hended, hW, hsame⟩ := X0.leave (v := some (.int vi1)) (fun h => by rw [Bd.returns] at h; cases h)
  refine ⟨_, _, pre0 _ ?_, hrun, hended, _, _, rfl, ?_, ⟨_, rfl⟩, hW, hsame.mono (by decide) (by decide)⟩
  · show Steps p.tables e below (s₁.setTop (mkF m 0 #[.val (.int vi0), .val (.int vi1)] [])) _
    refine XS.iloadN X0.here hx rfl (hb hby d17_0) rfl ?_
    refine XS.iloadN X0.here hx rfl (hb hby d17_1) rfl ?_
    show Steps p.tables e below (s₁.setTop (mkF m 2 #[.val (.int vi0), .val (.int vi1)] [(.int vi1), (.int vi0)])) _
    refine XS.icmpYes X0.here hx rfl (pc0 := 2) (pc' := 9) rfl (hb hby d17_2) rfl (tlt hc2).2.2.1 (by decide) (by decide) ?_
    refine XS.iloadN X0.here hx rfl (hb hby d17_9) rfl ?_
    show Steps p.tables e below (s₁.setTop (mkF m 10 #[.val (.int vi0), .val (.int vi1)] [(.int vi1)])) _
    exact retI X0 hx Bd.returns (hb hby d17_10) hr
  · show Q17_mint Z vi0 vi1 h0 n0 _ s₁.heap _
    rw [e0]
    exact ⟨(congrArg (fun z => some (Value.int z)) (if_pos hc2).symm), N0, rfl⟩
theorem d17_5 : decode jdk_29_method_69_code 5 = .ok (.iload_n 0, 1) := by decide +kernel
theorem d17_6 : decode jdk_29_method_69_code 6 = .ok (.goto 4, 3) := by decide +kernel
theorem ef_17_minf (m : MethodId) (x0 : Int32) (x1 : Int32) : entryFrame m #[(.int x0), (.int x1)] 2 = mkF m 0 #[.val (.int x0), .val (.int x1)] [] := by first | (simp [entryFrame, mkF, argsToLocals, Value.category]; done) | rfl
def Q17_minf (Z : State) (vi0 : Int32) (vi1 : Int32) (h0 : Heap) (n0 : Nat) (v : Option Value) (h : Heap) (L : List Loc) : Prop := v = some (.int (own_min vi0 vi1)) ∧ Fr n0 L ∧ h = h0
set_option maxRecDepth 65536 in
set_option maxHeartbeats 40000000 in
theorem rm17_minf (l : Launch) (Z : State) (a0 : Array Value) (hw : ∀ d ∈ tables_1, d.before a0 Z = true) (ws : List Jvm.Cond) (vi0 : Int32) (vi1 : Int32) (h0 : Heap) (n0 : Nat) (Z0 : n0 ≤ h0.size) (hc2 : ¬ (vi1 < vi0)) :
    MetFree l (⟨"java/lang/Math", "min", "(II)I"⟩ : MethodName) (head1 (Jvm.Cond.code (⟨"java/lang/Math", "min", "(II)I"⟩ : MethodName) jdk_29_method_69_code 2 (some .int) :: ws) ({ frames := 0, cells := 0, slots := 0, locals := 0 } : Room)) (fun a U => a = #[(.int vi0), (.int vi1)] ∧ Z.Warmed39 U.vm ∧ U.heap = h0) (fun _ _ _ _ _ => True) (fun _ U o U' => ∃ v L, o = .returned v ∧ Q17_minf Z vi0 vi1 h0 n0 v U'.heap L ∧ FrameEnd U o U' L ({ frames := 0, cells := 0, slots := 0, locals := 0 } : Room).cells ({ frames := 0, cells := 0, slots := 0, locals := 0 } : Room).slots) := by
  refine MetFree.of_bodySF (Jvm.Free.JP.mathPlain rfl (by decide +kernel)) hisR ?_
  intro p e s m args below meth c s₁ Bd hml0 hP hK
  obtain ⟨rfl, hZ, hh⟩ := hP
  have hx := Bd.exec
  have hby := Bd.bytes
  have hml : c.maxLocals = 2 := hml0
  have hown : s.vm.findClass "java/lang/Math" = some m.cls := findClass_of_methodNamed Bd.named
  have hnm := (name_of_methodNamed Bd.named Bd.method).1
  have X0 : Stand p l e ({ frames := 0, cells := 0, slots := 0, locals := 0 } : Room) s m #[(.int vi0), (.int vi1)] below meth c s₁ [] 0 0 := Stand.of_body Bd
  have e0 : s₁.heap = h0 := by rw [← hh, Bd.state]; rfl
  have N0 := Fr.nil n0
  have pre0 : ∀ t, Steps p.tables e below (s₁.setTop (mkF m 0 #[.val (.int vi0), .val (.int vi1)] [])) t → Steps p.tables e below (s₁.setTop (entryFrame m #[(.int vi0), (.int vi1)] 2)) t := fun t k => castTop (ef_17_minf m vi0 vi1) k
  obtain ⟨fs, hr, hrun, hended, hW, hsame⟩ := X0.leave (v := some (.int vi0)) (fun h => by rw [Bd.returns] at h; cases h)
  refine ⟨_, _, pre0 _ ?_, hrun, hended, _, _, rfl, ?_, ⟨_, rfl⟩, hW, hsame.mono (by decide) (by decide)⟩
  · show Steps p.tables e below (s₁.setTop (mkF m 0 #[.val (.int vi0), .val (.int vi1)] [])) _
    refine XS.iloadN X0.here hx rfl (hb hby d17_0) rfl ?_
    refine XS.iloadN X0.here hx rfl (hb hby d17_1) rfl ?_
    show Steps p.tables e below (s₁.setTop (mkF m 2 #[.val (.int vi0), .val (.int vi1)] [(.int vi1), (.int vi0)])) _
    refine XS.icmpNo X0.here hx rfl (hb hby d17_2) rfl (flt hc2).2.2.1 ?_
    refine XS.iloadN X0.here hx rfl (hb hby d17_5) rfl ?_
    show Steps p.tables e below (s₁.setTop (mkF m 6 #[.val (.int vi0), .val (.int vi1)] [(.int vi0)])) _
    refine XS.goto X0.here hx rfl (pc0 := 6) (pc' := 10) rfl (hb hby d17_6) (by decide) (by decide) ?_
    exact retI X0 hx Bd.returns (hb hby d17_10) hr
  · show Q17_minf Z vi0 vi1 h0 n0 _ s₁.heap _
    rw [e0]
    exact ⟨(congrArg (fun z => some (Value.int z)) (if_neg hc2).symm), N0, rfl⟩
def Q_min (Z : State) (vi0 : Int32) (vi1 : Int32) (h0 : Heap) (n0 : Nat) (v : Option Value) (h : Heap) (L : List Loc) : Prop := v = some (.int (own_min vi0 vi1)) ∧ Fr n0 L ∧ h = h0
set_option maxRecDepth 65536 in
set_option maxHeartbeats 4000000 in
theorem rm_min (l : Launch) (Z : State) (a0 : Array Value) (hw : ∀ d ∈ tables_1, d.before a0 Z = true) (ws : List Jvm.Cond) (vi0 : Int32) (vi1 : Int32) (h0 : Heap) (n0 : Nat) (Z0 : n0 ≤ h0.size)  :
    MetFree l (⟨"java/lang/Math", "min", "(II)I"⟩ : MethodName) (head1 (Jvm.Cond.code (⟨"java/lang/Math", "min", "(II)I"⟩ : MethodName) jdk_29_method_69_code 2 (some .int) :: ws) ({ frames := 0, cells := 0, slots := 0, locals := 0 } : Room)) (fun a U => a = #[(.int vi0), (.int vi1)] ∧ Z.Warmed39 U.vm ∧ U.heap = h0) (fun _ _ _ _ _ => True) (fun _ U o U' => ∃ v L, o = .returned v ∧ Q_min Z vi0 vi1 h0 n0 v U'.heap L ∧ FrameEnd U o U' L ({ frames := 0, cells := 0, slots := 0, locals := 0 } : Room).cells ({ frames := 0, cells := 0, slots := 0, locals := 0 } : Room).slots) := by
  by_cases hc2 : vi1 < vi0
  · exact rm17_mint l Z a0 hw ws vi0 vi1 h0 n0 Z0 hc2
  · exact rm17_minf l Z a0 hw ws vi0 vi1 h0 n0 Z0 hc2
theorem own_len {vd us : List Value} {d n : Nat} (h : us.length = n) (hl : d + n ≤ vd.length) : (vd.take d ++ us ++ vd.drop (d + n)).length = vd.length := by
  simp only [List.length_append, List.length_take, List.length_drop, h]
  omega
theorem own_ul {vs : List Value} {dv : Value} {k n : Nat} : ((List.range n).map fun i => vs.getD (k + i) dv).length = n := by simp
theorem own_clamp {x y : Int32} (h0 : ¬ x < 0) (h : ¬ y < x) : x.toNatClampNeg ≤ y.toNatClampNeg := by
  rw [Int32.lt_iff_toInt_lt] at h h0
  simp only [Int32.toNatClampNeg]
  omega
theorem own_minle (a b : Int32) : ¬ (a < own_min a b) ∧ ¬ (b < own_min a b) := by
  unfold own_min
  simp only [Int32.lt_iff_toInt_lt]
  split <;> omega
theorem own_min0 {a b : Int32} (ha : ¬ a < 0) (hb : ¬ b < 0) : ¬ (own_min a b < 0) := by
  unfold own_min
  split <;> assumption
theorem d18_0 : decode jdk_65_method_121_code 0 = .ok (.iload_n 1, 1) := by decide +kernel
theorem d18_1 : decode jdk_65_method_121_code 1 = .ok (.aload_n 0, 1) := by decide +kernel
theorem d18_2 : decode jdk_65_method_121_code 2 = .ok (.arraylength, 1) := by decide +kernel
theorem d18_3 : decode jdk_65_method_121_code 3 = .ok (.if_icmp .ne 11, 3) := by decide +kernel
theorem d18_14 : decode jdk_65_method_121_code 14 = .ok (.iload_n 1, 1) := by decide +kernel
theorem d18_15 : decode jdk_65_method_121_code 15 = .ok (.newarray .byte, 2) := by decide +kernel
theorem d18_17 : decode jdk_65_method_121_code 17 = .ok (.astore_n 2, 1) := by decide +kernel
theorem d18_18 : decode jdk_65_method_121_code 18 = .ok (.aload_n 0, 1) := by decide +kernel
theorem d18_19 : decode jdk_65_method_121_code 19 = .ok (.iconst 0, 1) := by decide +kernel
theorem d18_20 : decode jdk_65_method_121_code 20 = .ok (.aload_n 2, 1) := by decide +kernel
theorem d18_21 : decode jdk_65_method_121_code 21 = .ok (.iconst 0, 1) := by decide +kernel
theorem d18_22 : decode jdk_65_method_121_code 22 = .ok (.aload_n 0, 1) := by decide +kernel
theorem d18_23 : decode jdk_65_method_121_code 23 = .ok (.arraylength, 1) := by decide +kernel
theorem d18_24 : decode jdk_65_method_121_code 24 = .ok (.iload_n 1, 1) := by decide +kernel
theorem d18_25 : decode jdk_65_method_121_code 25 = .ok (.invokestatic 304, 3) := by decide +kernel
theorem wd_123 {Z : State} {a0 : Array Value} (hw : ∀ d ∈ tables_1, d.before a0 Z = true) : ((Jvm.Cond.methodLink "java/util/Arrays" (304 : Nat) ({ cls := "java/lang/Math", name := "min", desc := "(II)I" } : Jvm.MethodName))).before a0 Z = true := hw _ (List.mem_of_getElem? (i := 123) rfl)
theorem wd_118 {Z : State} {a0 : Array Value} (hw : ∀ d ∈ tables_1, d.before a0 Z = true) : ((Jvm.Cond.code ({ cls := "java/lang/Math", name := "min", desc := "(II)I" } : Jvm.MethodName) jdk_29_method_69_code (2 : Nat) (Option.some Jvm.ClassFile.FieldType.int))).before a0 Z = true := hw _ (List.mem_of_getElem? (i := 118) rfl)
theorem wd_114 {Z : State} {a0 : Array Value} (hw : ∀ d ∈ tables_1, d.before a0 Z = true) : ((Jvm.Cond.initialized "java/lang/Math")).before a0 Z = true := hw _ (List.mem_of_getElem? (i := 114) rfl)
theorem pd_11 : parseMethodDescriptor "(II)I" = some ⟨[.int, .int], some .int⟩ := by decide +kernel
theorem wd_117 {Z : State} {a0 : Array Value} (hw : ∀ d ∈ tables_1, d.before a0 Z = true) : ((Jvm.Cond.static ({ cls := "java/lang/Math", name := "min", desc := "(II)I" } : Jvm.MethodName))).before a0 Z = true := hw _ (List.mem_of_getElem? (i := 117) rfl)
theorem d18_28 : decode jdk_65_method_121_code 28 = .ok (.invokestatic 150, 3) := by decide +kernel
theorem wd_124 {Z : State} {a0 : Array Value} (hw : ∀ d ∈ tables_1, d.before a0 Z = true) : ((Jvm.Cond.methodLink "java/util/Arrays" (150 : Nat) ({ cls := "java/lang/System", name := "arraycopy", desc := "(Ljava/lang/Object;ILjava/lang/Object;II)V" } : Jvm.MethodName))).before a0 Z = true := hw _ (List.mem_of_getElem? (i := 124) rfl)
theorem wd_101 {Z : State} {a0 : Array Value} (hw : ∀ d ∈ tables_1, d.before a0 Z = true) : ((Jvm.Cond.native ({ cls := "java/lang/System", name := "arraycopy", desc := "(Ljava/lang/Object;ILjava/lang/Object;II)V" } : Jvm.MethodName))).before a0 Z = true := hw _ (List.mem_of_getElem? (i := 101) rfl)
theorem wd_99 {Z : State} {a0 : Array Value} (hw : ∀ d ∈ tables_1, d.before a0 Z = true) : ((Jvm.Cond.static ({ cls := "java/lang/System", name := "arraycopy", desc := "(Ljava/lang/Object;ILjava/lang/Object;II)V" } : Jvm.MethodName))).before a0 Z = true := hw _ (List.mem_of_getElem? (i := 99) rfl)
theorem wd_100 {Z : State} {a0 : Array Value} (hw : ∀ d ∈ tables_1, d.before a0 Z = true) : ((Jvm.Cond.initialized "java/lang/System")).before a0 Z = true := hw _ (List.mem_of_getElem? (i := 100) rfl)
theorem d18_31 : decode jdk_65_method_121_code 31 = .ok (.aload_n 2, 1) := by decide +kernel
theorem d18_32 : decode jdk_65_method_121_code 32 = .ok (.areturn, 1) := by decide +kernel
theorem pn_java_util_Arrays : plainName "java/util/Arrays" = true := by first | (simp [plainName, overriddenIn]; done) | decide +kernel
theorem ef_18 (m : MethodId) (x0 : Addr) (x1 : Int32) : entryFrame m #[(.ref x0), (.int x1)] 3 = mkF m 0 #[.val (.ref x0), .val (.int x1), .unset] [] := by first | (simp [entryFrame, mkF, argsToLocals, Value.category]; done) | rfl
def Q18 (Z : State) (vr0 : Addr) (vi1 : Int32) (pn : Int32) (kP : ClassId) (vP : List Value) (h0 : Heap) (n0 : Nat) (v : Option Value) (h : Heap) (L : List Loc) : Prop := ∃ t : Addr, ∃ kt : ClassId, ∃ vt : List Value, v = some (.ref t) ∧ Fr n0 L ∧ Keep h0 h [] ∧ h0.size ≤ t ∧ Arv Z h t kt .byte vi1 vt (.int (0 : Int32)) ∧ vt.length = vi1.toNatClampNeg
set_option maxRecDepth 65536 in
set_option maxHeartbeats 40000000 in
theorem rm18 (l : Launch) (Z : State) (a0 : Array Value) (hw : ∀ d ∈ tables_1, d.before a0 Z = true) (ws : List Jvm.Cond) (vr0 : Addr) (vi1 : Int32) (pn : Int32) (kP : ClassId) (vP : List Value) (h0 : Heap) (n0 : Nat) (Z0 : n0 ≤ h0.size) (V_vr0 : Arv Z h0 vr0 kP .byte pn vP (.int (0 : Int32))) (Np : ¬ pn < 0) (hL0 : ¬ vi1 < 0) (hLc : vi1.toNatClampNeg ≤ 4096) (hc3 : ¬ (vi1 = pn)) :
    MetFree l (⟨"java/util/Arrays", "copyOf", "([BI)[B"⟩ : MethodName) (head1 (Jvm.Cond.code (⟨"java/util/Arrays", "copyOf", "([BI)[B"⟩ : MethodName) jdk_65_method_121_code 3 (some (.array .byte)) :: ws) ({ frames := 1, cells := 1, slots := 4096, locals := 18 } : Room)) (fun a U => a = #[(.ref vr0), (.int vi1)] ∧ Z.Warmed39 U.vm ∧ U.heap = h0) (fun _ _ _ _ _ => True) (fun _ U o U' => ∃ v L, o = .returned v ∧ Q18 Z vr0 vi1 pn kP vP h0 n0 v U'.heap L ∧ FrameEnd U o U' L ({ frames := 1, cells := 1, slots := 4096, locals := 18 } : Room).cells ({ frames := 1, cells := 1, slots := 4096, locals := 18 } : Room).slots) := by
  refine MetFree.of_bodySF (plainFor_of_name pn_java_util_Arrays) hisR ?_
  intro p e s m args below meth c s₁ Bd hml0 hP hK
  obtain ⟨rfl, hZ, hh⟩ := hP
  have hx := Bd.exec
  have hby := Bd.bytes
  have hml : c.maxLocals = 3 := hml0
  have hown : s.vm.findClass "java/util/Arrays" = some m.cls := findClass_of_methodNamed Bd.named
  have hnm := (name_of_methodNamed Bd.named Bd.method).1
  have X0 : Stand p l e ({ frames := 1, cells := 1, slots := 4096, locals := 18 } : Room) s m #[(.ref vr0), (.int vi1)] below meth c s₁ [] 0 0 := Stand.of_body Bd
  have e0 : s₁.heap = h0 := by rw [← hh, Bd.state]; rfl
  have N0 := Fr.nil n0
  have pre0 : ∀ t, Steps p.tables e below (s₁.setTop (mkF m 0 #[.val (.ref vr0), .val (.int vi1), .unset] [])) t → Steps p.tables e below (s₁.setTop (entryFrame m #[(.ref vr0), (.int vi1)] 3)) t := fun t k => castTop (ef_18 m vr0 vi1) k
  obtain ⟨cl1, Ar1, -, Sz1, Ng1, -, -⟩ := (id V_vr0)
  obtain ⟨T2, h2, k2, X2, e2, E2, A2, st2⟩ := newP X0 hx hZ (aty := .byte) (wd_20 hw) e0 (g := (mkF m 15 #[.val (.ref vr0), .val (.int vi1), .unset] [(.int vi1)])) rfl (hb hby d18_15) rfl hL0 (cap := 4096) hLc (by decide) (by decide) (by decide)
  obtain ⟨b2, g2⟩ : ∃ z, z = h0.size := ⟨_, rfl⟩
  rw [← g2] at A2 st2
  have g_b2 : n0 ≤ b2 := Nat.le_trans Z0 (Nat.le_of_eq g2.symm)
  have sz_b2 : h0.size ≤ b2 := Nat.le_trans (Keep.refl h0 []).1 (Nat.le_of_eq g2.symm)
  have K2 : Keep h0 h2 [] := (Keep.refl h0 []).ext E2
  have V_b2 : Arv Z h2 b2 k2 .byte vi1 (List.replicate vi1.toNatClampNeg (.int (0 : Int32))) (.int (0 : Int32)) := (Arv.new A2 hL0).pad (pad_rep [] (.int (0 : Int32)) vi1.toNatClampNeg)
  obtain ⟨cl3, Ar3, -, Sz3, Ng3, -, -⟩ := (id (V_vr0.ext E2))
  obtain ⟨_, _, ⟨T4, L4, k4, n4⟩, -, X4, ⟨Lc4, hQ4, l4, y4, z4⟩, st4⟩ := Jvm.LawKit.callS X2 hx (y := (⟨"java/lang/Math", "min", "(II)I"⟩ : MethodName)) hown (mvT hZ (wd_123 hw)) (mvT hZ (wd_117 hw)) (mvT hZ (wd_114 hw)) (mvT hZ (wd_118 hw)) (by decide) (backOf (W := 4) (rm_min l Z a0 hw [] pn vi1 h2 n0 (Nat.le_trans Z0 E2.1) ) hZ (wd_118 hw) (wd_114 hw) (by decide) (by decide)) (g := (mkF m 25 #[.val (.ref vr0), .val (.int vi1), .val (.ref b2)] [(.int vi1), (.int pn), (.int (0 : Int32)), (.ref b2), (.int (0 : Int32)), (.ref vr0)])) rfl (by rw [hml]; rfl) (argsL := [(.int pn), (.int vi1)]) (rest := [(.int (0 : Int32)), (.ref b2), (.int (0 : Int32)), (.ref vr0)]) (lenOf pd_11 rfl) rfl (by show 2 * 0 + _ ≤ _; exact Nat.le_of_eq rfl) (hb hby d18_25) (fun _ _ => ⟨rfl, e2, (by decide : 1 + 0 ≤ _), (by decide : 4096 + 0 ≤ _)⟩)
  dsimp only [Pt.U, Pt.locs, Pt.cells, Pt.slots] at X4 l4 y4 z4 st4 hQ4
  subst l4 y4 z4
  obtain ⟨rfl, N4q, p4_0⟩ := hQ4
  have N4 := Fr.app N0 N4q
  have e4 : T4.heap = h2 := p4_0
  have hm5 := own_minle pn vi1
  have hm05 : ¬ ((own_min pn vi1) < 0) := own_min0 Np hL0
  have hmA5 : ((own_min pn vi1)).toNatClampNeg ≤ pn.toNatClampNeg := own_clamp hm05 hm5.1
  have hmB5 : ((own_min pn vi1)).toNatClampNeg ≤ vi1.toNatClampNeg := own_clamp hm05 hm5.2
  have hz5 : (0 : Int32).toNatClampNeg = 0 := rfl
  obtain ⟨T5, h5, L5, X5, e5, N5, p5_0, V5, st5⟩ := cpA X4 hx hZ hown (wd_124 hw) (wd_101 hw) (wd_99 hw) (wd_100 hw) e4 (V_vr0.ext E2) V_b2 (Or.inl ⟨rfl, rfl⟩) (by decide) (by decide) hm05 (by rw [hz5]; omega) (by rw [hz5]; omega) (us := _) rfl (by rw [hz5, List.length_replicate]; omega) N4 g_b2 (g := (mkF m 28 #[.val (.ref vr0), .val (.int vi1), .val (.ref b2)] [(.int (own_min pn vi1)), (.int (0 : Int32)), (.ref b2), (.int (0 : Int32)), (.ref vr0)])) rfl (by rw [hml]; rfl) rfl (hb hby d18_28) (by decide) (W := 0) (by show 2 * 0 + _ ≤ _; exact Nat.le_of_eq rfl) (by decide)
  have K5 : Keep h0 h5 [] := K2.trans p5_0 (allS (Or.inr sz_b2) all0)
  obtain ⟨fs, hr, hrun, hended, hW, hsame⟩ := X5.leave (v := some (.ref b2)) (fun h => by rw [Bd.returns] at h; cases h)
  refine ⟨_, _, pre0 _ ?_, hrun, hended, _, _, rfl, ?_, ⟨_, rfl⟩, hW, hsame.mono (by decide) (by decide)⟩
  · show Steps p.tables e below (s₁.setTop (mkF m 0 #[.val (.ref vr0), .val (.int vi1), .unset] [])) _
    refine XS.iloadN X0.here hx rfl (hb hby d18_0) rfl ?_
    refine XS.aloadN X0.here hx rfl (hb hby d18_1) rfl rfl ?_
    show Steps p.tables e below (s₁.setTop (mkF m 2 #[.val (.ref vr0), .val (.int vi1), .unset] [(.ref vr0), (.int vi1)])) _
    refine X0.arraylength hx (by rw [e0]; exact Ar1.1) (State.isArrayOf_alike hZ.alike Ar1.2.1) (g := (mkF m 2 #[.val (.ref vr0), .val (.int vi1), .unset] [(.ref vr0), (.int vi1)])) rfl rfl (hb hby d18_2) _ ?_
    rw [len_of Sz1 Ng1]
    show Steps p.tables e below (s₁.setTop (mkF m 3 #[.val (.ref vr0), .val (.int vi1), .unset] [(.int pn), (.int vi1)])) _
    refine XS.icmpYes X0.here hx rfl (pc0 := 3) (pc' := 14) rfl (hb hby d18_3) rfl (feq hc3).2 (by decide) (by decide) ?_
    show Steps p.tables e below (s₁.setTop (mkF m 14 #[.val (.ref vr0), .val (.int vi1), .unset] [])) _
    refine XS.iloadN X0.here hx rfl (hb hby d18_14) rfl ?_
    show Steps p.tables e below (s₁.setTop (mkF m 15 #[.val (.ref vr0), .val (.int vi1), .unset] [(.int vi1)])) _
    refine st2 _ ?_
    refine XS.astoreN X2.here hx rfl (hb hby d18_17) rfl rfl (l' := #[.val (.ref vr0), .val (.int vi1), .val (.ref b2)]) rfl ?_
    refine XS.aloadN X2.here hx rfl (hb hby d18_18) rfl rfl ?_
    show Steps p.tables e below (T2.setTop (mkF m 19 #[.val (.ref vr0), .val (.int vi1), .val (.ref b2)] [(.ref vr0)])) _
    refine XS.iconst X2.here hx rfl (hb hby d18_19) ?_
    refine XS.aloadN X2.here hx rfl (hb hby d18_20) rfl rfl ?_
    refine XS.iconst X2.here hx rfl (hb hby d18_21) ?_
    refine XS.aloadN X2.here hx rfl (hb hby d18_22) rfl rfl ?_
    show Steps p.tables e below (T2.setTop (mkF m 23 #[.val (.ref vr0), .val (.int vi1), .val (.ref b2)] [(.ref vr0), (.int (0 : Int32)), (.ref b2), (.int (0 : Int32)), (.ref vr0)])) _
    refine X2.arraylength hx (by rw [e2]; exact Ar3.1) (State.isArrayOf_alike hZ.alike Ar3.2.1) (g := (mkF m 23 #[.val (.ref vr0), .val (.int vi1), .val (.ref b2)] [(.ref vr0), (.int (0 : Int32)), (.ref b2), (.int (0 : Int32)), (.ref vr0)])) rfl rfl (hb hby d18_23) _ ?_
    rw [len_of Sz3 Ng3]
    refine XS.iloadN X2.here hx rfl (hb hby d18_24) rfl ?_
    show Steps p.tables e below (T2.setTop (mkF m 25 #[.val (.ref vr0), .val (.int vi1), .val (.ref b2)] [(.int vi1), (.int pn), (.int (0 : Int32)), (.ref b2), (.int (0 : Int32)), (.ref vr0)])) _
    refine st4 _ ?_
    show Steps p.tables e below (T4.setTop (mkF m 28 #[.val (.ref vr0), .val (.int vi1), .val (.ref b2)] [(.int (own_min pn vi1)), (.int (0 : Int32)), (.ref b2), (.int (0 : Int32)), (.ref vr0)])) _
    refine st5 _ ?_
    show Steps p.tables e below (T5.setTop (mkF m 31 #[.val (.ref vr0), .val (.int vi1), .val (.ref b2)] [])) _
    refine XS.aloadN X5.here hx rfl (hb hby d18_31) rfl rfl ?_
    jvm_step X5.here [X5.here.top, hx, (hb hby d18_32), X5.method', Bd.returns, Value.isRef, FieldType.isReference]
    first | (intro acts; rw [hr _ acts rfl rfl rfl]) | rw [hr _ _ rfl rfl rfl]
    exact Steps.refl _
  · show Q18 Z vr0 vi1 pn kP vP h0 n0 _ T5.heap _
    rw [e5]
    exact ⟨b2, k2, (((List.replicate vi1.toNatClampNeg (.int (0 : Int32)))).take ((0 : Int32)).toNatClampNeg ++ ((List.range ((own_min pn vi1)).toNatClampNeg).map fun i => (vP).getD (((0 : Int32)).toNatClampNeg + i) (.int (0 : Int32))) ++ ((List.replicate vi1.toNatClampNeg (.int (0 : Int32)))).drop (((0 : Int32)).toNatClampNeg + ((own_min pn vi1)).toNatClampNeg)), rfl, N5, K5, sz_b2, V5, ((own_len own_ul (by rw [hz5, List.length_replicate]; omega)).trans List.length_replicate)⟩
theorem own_L {pn T : Int32} (h1 : ¬ pn < (64 : Int32)) (h2 : ¬ (4096 : Int32) < pn) (h3 : pn < T) (h4 : ¬ ((4096 : Int32) < T)) : ¬ pn < 0 ∧ ¬ ((own_min (own_max T ((2 : Int32) * pn)) (4096 : Int32)) < 0) ∧ (own_min (own_max T ((2 : Int32) * pn)) (4096 : Int32)).toNatClampNeg ≤ 4096 ∧ ¬ ((own_min (own_max T ((2 : Int32) * pn)) (4096 : Int32)) = pn) ∧ ¬ ((own_min (own_max T ((2 : Int32) * pn)) (4096 : Int32)) < T) ∧ ¬ ((own_min (own_max T ((2 : Int32) * pn)) (4096 : Int32)) < (64 : Int32)) ∧ ¬ ((4096 : Int32) < (own_min (own_max T ((2 : Int32) * pn)) (4096 : Int32))) := by
  have m := c_imul (2 : Int32) pn
  have r := rng32 ((2 : Int32) * pn)
  have l0 : (0 : Int32).toInt = 0 := by decide
  have l2 : (2 : Int32).toInt = 2 := by decide
  have l64 : (64 : Int32).toInt = 64 := by decide
  have l4 : (4096 : Int32).toInt = 4096 := by decide
  rw [l2] at m
  generalize ((2 : Int32) * pn) = d at m r ⊢
  unfold own_min own_max
  simp only [Int32.lt_iff_toInt_lt, Int32.toNatClampNeg, ← Int32.toInt_inj, l0, l64, l4] at h1 h2 h3 h4 ⊢
  split <;> (try split) <;> (try simp only [l4] at *) <;> omega
theorem d13_0 : decode prog_58_method_12_code 0 = .ok (.aload_n 0, 1) := by decide +kernel
theorem d13_1 : decode prog_58_method_12_code 1 = .ok (.getfield 47, 3) := by decide +kernel
theorem d13_4 : decode prog_58_method_12_code 4 = .ok (.ifCond .eq 24, 3) := by decide +kernel
theorem d13_7 : decode prog_58_method_12_code 7 = .ok (.aload_n 0, 1) := by decide +kernel
theorem d13_8 : decode prog_58_method_12_code 8 = .ok (.getfield 44, 3) := by decide +kernel
theorem d13_11 : decode prog_58_method_12_code 11 = .ok (.ifCond .le 17, 3) := by decide +kernel
theorem d13_28 : decode prog_58_method_12_code 28 = .ok (.iconst 0, 1) := by decide +kernel
theorem d13_29 : decode prog_58_method_12_code 29 = .ok (.istore_n 1, 1) := by decide +kernel
theorem d13_30 : decode prog_58_method_12_code 30 = .ok (.aload_n 0, 1) := by decide +kernel
theorem d13_31 : decode prog_58_method_12_code 31 = .ok (.getfield 33, 3) := by decide +kernel
theorem d13_34 : decode prog_58_method_12_code 34 = .ok (.aload_n 0, 1) := by decide +kernel
theorem d13_35 : decode prog_58_method_12_code 35 = .ok (.getfield 51, 3) := by decide +kernel
theorem d13_38 : decode prog_58_method_12_code 38 = .ok (.isub, 1) := by decide +kernel
theorem d13_39 : decode prog_58_method_12_code 39 = .ok (.istore_n 2, 1) := by decide +kernel
theorem d13_40 : decode prog_58_method_12_code 40 = .ok (.aload_n 0, 1) := by decide +kernel
theorem d13_41 : decode prog_58_method_12_code 41 = .ok (.aload_n 0, 1) := by decide +kernel
theorem d13_42 : decode prog_58_method_12_code 42 = .ok (.getfield 47, 3) := by decide +kernel
theorem d13_45 : decode prog_58_method_12_code 45 = .ok (.ifCond .eq 16, 3) := by decide +kernel
theorem d13_48 : decode prog_58_method_12_code 48 = .ok (.iload_n 1, 1) := by decide +kernel
theorem d13_49 : decode prog_58_method_12_code 49 = .ok (.iload_n 2, 1) := by decide +kernel
theorem d13_50 : decode prog_58_method_12_code 50 = .ok (.iadd, 1) := by decide +kernel
theorem d13_51 : decode prog_58_method_12_code 51 = .ok (.sipush 4096, 3) := by decide +kernel
theorem d13_54 : decode prog_58_method_12_code 54 = .ok (.if_icmp .gt 7, 3) := by decide +kernel
theorem d13_57 : decode prog_58_method_12_code 57 = .ok (.iconst 1, 1) := by decide +kernel
theorem d13_58 : decode prog_58_method_12_code 58 = .ok (.goto 4, 3) := by decide +kernel
theorem d13_62 : decode prog_58_method_12_code 62 = .ok (.putfield 47, 3) := by decide +kernel
theorem d13_65 : decode prog_58_method_12_code 65 = .ok (.aload_n 0, 1) := by decide +kernel
theorem d13_66 : decode prog_58_method_12_code 66 = .ok (.getfield 47, 3) := by decide +kernel
theorem d13_69 : decode prog_58_method_12_code 69 = .ok (.ifCond .eq 102, 3) := by decide +kernel
theorem d13_72 : decode prog_58_method_12_code 72 = .ok (.iload_n 1, 1) := by decide +kernel
theorem d13_73 : decode prog_58_method_12_code 73 = .ok (.iload_n 2, 1) := by decide +kernel
theorem d13_74 : decode prog_58_method_12_code 74 = .ok (.iadd, 1) := by decide +kernel
theorem d13_75 : decode prog_58_method_12_code 75 = .ok (.aload_n 0, 1) := by decide +kernel
theorem d13_76 : decode prog_58_method_12_code 76 = .ok (.getfield 22, 3) := by decide +kernel
theorem d13_79 : decode prog_58_method_12_code 79 = .ok (.arraylength, 1) := by decide +kernel
theorem d13_80 : decode prog_58_method_12_code 80 = .ok (.if_icmp .le 33, 3) := by decide +kernel
theorem d13_83 : decode prog_58_method_12_code 83 = .ok (.aload_n 0, 1) := by decide +kernel
theorem d13_84 : decode prog_58_method_12_code 84 = .ok (.aload_n 0, 1) := by decide +kernel
theorem d13_85 : decode prog_58_method_12_code 85 = .ok (.getfield 22, 3) := by decide +kernel
theorem d13_88 : decode prog_58_method_12_code 88 = .ok (.iload_n 1, 1) := by decide +kernel
theorem d13_89 : decode prog_58_method_12_code 89 = .ok (.iload_n 2, 1) := by decide +kernel
theorem d13_90 : decode prog_58_method_12_code 90 = .ok (.iadd, 1) := by decide +kernel
theorem d13_91 : decode prog_58_method_12_code 91 = .ok (.iconst 2, 1) := by decide +kernel
theorem d13_92 : decode prog_58_method_12_code 92 = .ok (.aload_n 0, 1) := by decide +kernel
theorem d13_93 : decode prog_58_method_12_code 93 = .ok (.getfield 22, 3) := by decide +kernel
theorem d13_96 : decode prog_58_method_12_code 96 = .ok (.arraylength, 1) := by decide +kernel
theorem d13_97 : decode prog_58_method_12_code 97 = .ok (.imul, 1) := by decide +kernel
theorem d13_98 : decode prog_58_method_12_code 98 = .ok (.invokestatic 67, 3) := by decide +kernel
theorem wd_112 {Z : State} {a0 : Array Value} (hw : ∀ d ∈ tables_1, d.before a0 Z = true) : ((Jvm.Cond.methodLink "com/example/careful_ledger/carefulledger/json/PlainLine" (67 : Nat) ({ cls := "java/lang/Math", name := "max", desc := "(II)I" } : Jvm.MethodName))).before a0 Z = true := hw _ (List.mem_of_getElem? (i := 112) rfl)
theorem wd_115 {Z : State} {a0 : Array Value} (hw : ∀ d ∈ tables_1, d.before a0 Z = true) : ((Jvm.Cond.code ({ cls := "java/lang/Math", name := "max", desc := "(II)I" } : Jvm.MethodName) jdk_29_method_65_code (2 : Nat) (Option.some Jvm.ClassFile.FieldType.int))).before a0 Z = true := hw _ (List.mem_of_getElem? (i := 115) rfl)
theorem wd_113 {Z : State} {a0 : Array Value} (hw : ∀ d ∈ tables_1, d.before a0 Z = true) : ((Jvm.Cond.static ({ cls := "java/lang/Math", name := "max", desc := "(II)I" } : Jvm.MethodName))).before a0 Z = true := hw _ (List.mem_of_getElem? (i := 113) rfl)
theorem d13_101 : decode prog_58_method_12_code 101 = .ok (.sipush 4096, 3) := by decide +kernel
theorem d13_104 : decode prog_58_method_12_code 104 = .ok (.invokestatic 73, 3) := by decide +kernel
theorem wd_116 {Z : State} {a0 : Array Value} (hw : ∀ d ∈ tables_1, d.before a0 Z = true) : ((Jvm.Cond.methodLink "com/example/careful_ledger/carefulledger/json/PlainLine" (73 : Nat) ({ cls := "java/lang/Math", name := "min", desc := "(II)I" } : Jvm.MethodName))).before a0 Z = true := hw _ (List.mem_of_getElem? (i := 116) rfl)
theorem d13_107 : decode prog_58_method_12_code 107 = .ok (.invokestatic 76, 3) := by decide +kernel
theorem wd_119 {Z : State} {a0 : Array Value} (hw : ∀ d ∈ tables_1, d.before a0 Z = true) : ((Jvm.Cond.methodLink "com/example/careful_ledger/carefulledger/json/PlainLine" (76 : Nat) ({ cls := "java/util/Arrays", name := "copyOf", desc := "([BI)[B" } : Jvm.MethodName))).before a0 Z = true := hw _ (List.mem_of_getElem? (i := 119) rfl)
theorem wd_122 {Z : State} {a0 : Array Value} (hw : ∀ d ∈ tables_1, d.before a0 Z = true) : ((Jvm.Cond.code ({ cls := "java/util/Arrays", name := "copyOf", desc := "([BI)[B" } : Jvm.MethodName) jdk_65_method_121_code (3 : Nat) (Option.some (Jvm.ClassFile.FieldType.array Jvm.ClassFile.FieldType.byte)))).before a0 Z = true := hw _ (List.mem_of_getElem? (i := 122) rfl)
theorem wd_121 {Z : State} {a0 : Array Value} (hw : ∀ d ∈ tables_1, d.before a0 Z = true) : ((Jvm.Cond.initialized "java/util/Arrays")).before a0 Z = true := hw _ (List.mem_of_getElem? (i := 121) rfl)
theorem pd_12 : parseMethodDescriptor "([BI)[B" = some ⟨[(.array .byte), .int], some (.array .byte)⟩ := by decide +kernel
theorem wd_120 {Z : State} {a0 : Array Value} (hw : ∀ d ∈ tables_1, d.before a0 Z = true) : ((Jvm.Cond.static ({ cls := "java/util/Arrays", name := "copyOf", desc := "([BI)[B" } : Jvm.MethodName))).before a0 Z = true := hw _ (List.mem_of_getElem? (i := 120) rfl)
theorem d13_110 : decode prog_58_method_12_code 110 = .ok (.putfield 22, 3) := by decide +kernel
theorem d13_113 : decode prog_58_method_12_code 113 = .ok (.aload_n 0, 1) := by decide +kernel
theorem d13_114 : decode prog_58_method_12_code 114 = .ok (.getfield 44, 3) := by decide +kernel
theorem d13_117 : decode prog_58_method_12_code 117 = .ok (.aload_n 0, 1) := by decide +kernel
theorem d13_118 : decode prog_58_method_12_code 118 = .ok (.getfield 25, 3) := by decide +kernel
theorem d13_121 : decode prog_58_method_12_code 121 = .ok (.arraylength, 1) := by decide +kernel
theorem d13_122 : decode prog_58_method_12_code 122 = .ok (.if_icmp .ne 20, 3) := by decide +kernel
theorem d13_142 : decode prog_58_method_12_code 142 = .ok (.aload_n 0, 1) := by decide +kernel
theorem d13_143 : decode prog_58_method_12_code 143 = .ok (.getfield 7, 3) := by decide +kernel
theorem d13_146 : decode prog_58_method_12_code 146 = .ok (.aload_n 0, 1) := by decide +kernel
theorem d13_147 : decode prog_58_method_12_code 147 = .ok (.getfield 51, 3) := by decide +kernel
theorem d13_150 : decode prog_58_method_12_code 150 = .ok (.aload_n 0, 1) := by decide +kernel
theorem d13_151 : decode prog_58_method_12_code 151 = .ok (.getfield 22, 3) := by decide +kernel
theorem d13_154 : decode prog_58_method_12_code 154 = .ok (.iload_n 1, 1) := by decide +kernel
theorem d13_155 : decode prog_58_method_12_code 155 = .ok (.iload_n 2, 1) := by decide +kernel
theorem d13_156 : decode prog_58_method_12_code 156 = .ok (.invokestatic 82, 3) := by decide +kernel
theorem wd_98 {Z : State} {a0 : Array Value} (hw : ∀ d ∈ tables_1, d.before a0 Z = true) : ((Jvm.Cond.methodLink "com/example/careful_ledger/carefulledger/json/PlainLine" (82 : Nat) ({ cls := "java/lang/System", name := "arraycopy", desc := "(Ljava/lang/Object;ILjava/lang/Object;II)V" } : Jvm.MethodName))).before a0 Z = true := hw _ (List.mem_of_getElem? (i := 98) rfl)
theorem d13_159 : decode prog_58_method_12_code 159 = .ok (.aload_n 0, 1) := by decide +kernel
theorem d13_160 : decode prog_58_method_12_code 160 = .ok (.getfield 25, 3) := by decide +kernel
theorem d13_163 : decode prog_58_method_12_code 163 = .ok (.aload_n 0, 1) := by decide +kernel
theorem d13_164 : decode prog_58_method_12_code 164 = .ok (.getfield 44, 3) := by decide +kernel
theorem d13_167 : decode prog_58_method_12_code 167 = .ok (.iload_n 1, 1) := by decide +kernel
theorem d13_168 : decode prog_58_method_12_code 168 = .ok (.iload_n 2, 1) := by decide +kernel
theorem d13_169 : decode prog_58_method_12_code 169 = .ok (.iadd, 1) := by decide +kernel
theorem d13_170 : decode prog_58_method_12_code 170 = .ok (.iastore, 1) := by decide +kernel
theorem d13_171 : decode prog_58_method_12_code 171 = .ok (.return_, 1) := by decide +kernel
theorem ef_13_e0f (m : MethodId) (x0 : Addr) : entryFrame m #[(.ref x0)] 3 = mkF m 0 #[.val (.ref x0), .unset, .unset] [] := by first | (simp [entryFrame, mkF, argsToLocals, Value.category]; done) | rfl
def Q13_e0f (Z : State) (vr0 : Addr) (B : Addr) (w_at : Int32) (u_end : Value) (P : Addr) (EN : Addr) (TG : Addr) (u_shapeReader : Value) (w_ps : Int32) (kE : ClassId) (pn : Int32) (kP : ClassId) (vP : List Value) (kB : ClassId) (vB : List Value) (kT : ClassId) (en0 : Int32) (en1 : Int32) (en2 : Int32) (tg0 : Value) (tg1 : Value) (h0 : Heap) (n0 : Nat) (v : Option Value) (h : Heap) (L : List Loc) : Prop := ∃ p2 : Addr, ∃ k2 : ClassId, ∃ n2 : Int32, ∃ v2 : List Value, v = none ∧ Fr n0 L ∧ Keep h0 h [vr0, P, EN] ∧ Fld Z h vr0 "com/example/careful_ledger/carefulledger/json/PlainLine" "bytes" "[B" (.ref B) ∧ Fld Z h vr0 "com/example/careful_ledger/carefulledger/json/PlainLine" "at" "I" (.int w_at) ∧ Fld Z h vr0 "com/example/careful_ledger/carefulledger/json/PlainLine" "end" "I" u_end ∧ Fld Z h vr0 "com/example/careful_ledger/carefulledger/json/PlainLine" "parts" "[B" (.ref p2) ∧ Fld Z h vr0 "com/example/careful_ledger/carefulledger/json/PlainLine" "partEnds" "[I" (.ref EN) ∧ Fld Z h vr0 "com/example/careful_ledger/carefulledger/json/PlainLine" "tags" "[Ljava/lang/Object;" (.ref TG) ∧ Fld Z h vr0 "com/example/careful_ledger/carefulledger/json/PlainLine" "shapeReader" "Ljava/lang/Object;" u_shapeReader ∧ Fld Z h vr0 "com/example/careful_ledger/carefulledger/json/PlainLine" "values" "I" (.int (0 : Int32)) ∧ Fld Z h vr0 "com/example/careful_ledger/carefulledger/json/PlainLine" "learning" "Z" (.int (1 : Int32)) ∧ Fld Z h vr0 "com/example/careful_ledger/carefulledger/json/PlainLine" "partStart" "I" (.int w_ps) ∧ Arv Z h EN kE .int (16 : Int32) [(.int ((0 : Int32) + (w_at - w_ps))), (.int en1), (.int en2)] (.int (0 : Int32)) ∧ Arv Z h p2 k2 .byte n2 v2 (.int (0 : Int32)) ∧ v2.length = n2.toNatClampNeg ∧ ¬ n2 < (64 : Int32) ∧ ¬ (4096 : Int32) < n2 ∧ n0 ≤ p2 ∧ (P = p2 ∨ h0.size ≤ p2) ∧ p2 ≠ vr0 ∧ p2 ≠ EN ∧ p2 ≠ B ∧ p2 ≠ TG
set_option maxRecDepth 65536 in
set_option maxHeartbeats 40000000 in
theorem rm13_e0f (l : Launch) (Z : State) (a0 : Array Value) (hw : ∀ d ∈ tables_1, d.before a0 Z = true) (ws : List Jvm.Cond) (vr0 : Addr) (B : Addr) (w_at : Int32) (u_end : Value) (P : Addr) (EN : Addr) (TG : Addr) (u_shapeReader : Value) (w_ps : Int32) (kE : ClassId) (pn : Int32) (kP : ClassId) (vP : List Value) (kB : ClassId) (vB : List Value) (kT : ClassId) (en0 : Int32) (en1 : Int32) (en2 : Int32) (tg0 : Value) (tg1 : Value) (h0 : Heap) (n0 : Nat) (Z0 : n0 ≤ h0.size) (E_vr0 : Exa Z h0 vr0 "com/example/careful_ledger/carefulledger/json/PlainLine") (F_bytes_vr0 : Fld Z h0 vr0 "com/example/careful_ledger/carefulledger/json/PlainLine" "bytes" "[B" (.ref B)) (F_at_vr0 : Fld Z h0 vr0 "com/example/careful_ledger/carefulledger/json/PlainLine" "at" "I" (.int w_at)) (F_end_vr0 : Fld Z h0 vr0 "com/example/careful_ledger/carefulledger/json/PlainLine" "end" "I" u_end) (F_parts_vr0 : Fld Z h0 vr0 "com/example/careful_ledger/carefulledger/json/PlainLine" "parts" "[B" (.ref P)) (F_partEnds_vr0 : Fld Z h0 vr0 "com/example/careful_ledger/carefulledger/json/PlainLine" "partEnds" "[I" (.ref EN)) (F_tags_vr0 : Fld Z h0 vr0 "com/example/careful_ledger/carefulledger/json/PlainLine" "tags" "[Ljava/lang/Object;" (.ref TG)) (F_shapeReader_vr0 : Fld Z h0 vr0 "com/example/careful_ledger/carefulledger/json/PlainLine" "shapeReader" "Ljava/lang/Object;" u_shapeReader) (F_values_vr0 : Fld Z h0 vr0 "com/example/careful_ledger/carefulledger/json/PlainLine" "values" "I" (.int (0 : Int32))) (F_learning_vr0 : Fld Z h0 vr0 "com/example/careful_ledger/carefulledger/json/PlainLine" "learning" "Z" (.int (1 : Int32))) (F_partStart_vr0 : Fld Z h0 vr0 "com/example/careful_ledger/carefulledger/json/PlainLine" "partStart" "I" (.int w_ps)) (V_EN : Arv Z h0 EN kE .int (16 : Int32) [(.int en0), (.int en1), (.int en2)] (.int (0 : Int32))) (V_P : Arv Z h0 P kP .byte pn vP (.int (0 : Int32))) (V_B : Arv Z h0 B kB .byte (6144 : Int32) vB (.int (0 : Int32))) (V_TG : Arv Z h0 TG kT (.object "java/lang/Object") (16 : Int32) [tg0, tg1] .null) (hvP : vP.length = pn.toNatClampNeg) (hp1 : ¬ pn < (64 : Int32)) (hp2 : ¬ (4096 : Int32) < pn) (g_vr0 : n0 ≤ vr0) (g_P : n0 ≤ P) (g_EN : n0 ≤ EN) (g_TG : n0 ≤ TG) (ne_P_vr0 : P ≠ vr0) (ne_EN_vr0 : EN ≠ vr0) (ne_TG_vr0 : TG ≠ vr0) (ne_B_vr0 : B ≠ vr0) (ne_P_EN : P ≠ EN) (ne_P_TG : P ≠ TG) (ne_P_B : P ≠ B) (ne_EN_TG : EN ≠ TG) (ne_EN_B : EN ≠ B) (ne_TG_B : TG ≠ B) (OvT : Ovr Z kT "java/lang/Object") (lq1 : ¬ w_ps < 0) (lq2 : ¬ (0 : Int32) < 0) (lq3 : ¬ (w_at - w_ps) < 0) (lq4 : w_ps.toNatClampNeg + (w_at - w_ps).toNatClampNeg ≤ (6144 : Int32).toNatClampNeg) (lq5 : (0 : Int32).toNatClampNeg + (w_at - w_ps).toNatClampNeg ≤ ((0 : Int32) + (w_at - w_ps)).toNatClampNeg) (lq6 : ¬ ((0 : Int32) + (w_at - w_ps)) < 0) (hc54 : ¬ ((4096 : Int32) < ((0 : Int32) + (w_at - w_ps)))) (hc80 : pn < ((0 : Int32) + (w_at - w_ps))) :
    MetFree l (⟨"com/example/careful_ledger/carefulledger/json/PlainLine", "endPart", "()V"⟩ : MethodName) (head1 (Jvm.Cond.code (⟨"com/example/careful_ledger/carefulledger/json/PlainLine", "endPart", "()V"⟩ : MethodName) prog_58_method_12_code 3 none :: ws) ({ frames := 2, cells := 1, slots := 4096, locals := 33 } : Room)) (fun a U => a = #[(.ref vr0)] ∧ Z.Warmed39 U.vm ∧ U.heap = h0) (fun _ _ _ _ _ => True) (fun _ U o U' => ∃ v L, o = .returned v ∧ Q13_e0f Z vr0 B w_at u_end P EN TG u_shapeReader w_ps kE pn kP vP kB vB kT en0 en1 en2 tg0 tg1 h0 n0 v U'.heap L ∧ FrameEnd U o U' L ({ frames := 2, cells := 1, slots := 4096, locals := 33 } : Room).cells ({ frames := 2, cells := 1, slots := 4096, locals := 33 } : Room).slots) := by
  refine MetFree.of_bodySF (plainFor_of_name pn_com_example_careful_ledger_carefulledger_json_PlainLine) hisR ?_
  intro p e s m args below meth c s₁ Bd hml0 hP hK
  obtain ⟨rfl, hZ, hh⟩ := hP
  have hx := Bd.exec
  have hby := Bd.bytes
  have hml : c.maxLocals = 3 := hml0
  have hown : s.vm.findClass "com/example/careful_ledger/carefulledger/json/PlainLine" = some m.cls := findClass_of_methodNamed Bd.named
  have hnm := (name_of_methodNamed Bd.named Bd.method).1
  have X0 : Stand p l e ({ frames := 2, cells := 1, slots := 4096, locals := 33 } : Room) s m #[(.ref vr0)] below meth c s₁ [] 0 0 := Stand.of_body Bd
  have e0 : s₁.heap = h0 := by rw [← hh, Bd.state]; rfl
  have N0 := Fr.nil n0
  have pre0 : ∀ t, Steps p.tables e below (s₁.setTop (mkF m 0 #[.val (.ref vr0), .unset, .unset] [])) t → Steps p.tables e below (s₁.setTop (entryFrame m #[(.ref vr0)] 3)) t := fun t k => castTop (ef_13_e0f m vr0) k
  obtain ⟨T1, X1, e1, st1⟩ := getF X0 hx hZ hown (host := "") (Or.inl (wd_80 hw)) Via.refl e0 F_learning_vr0 (g := (mkF m 1 #[.val (.ref vr0), .unset, .unset] [(.ref vr0)])) rfl rfl (hb hby d13_1)
  obtain ⟨T2, X2, e2, st2⟩ := getF X1 hx hZ hown (host := "") (Or.inl (wd_78 hw)) Via.refl e1 F_values_vr0 (g := (mkF m 8 #[.val (.ref vr0), .unset, .unset] [(.ref vr0)])) rfl rfl (hb hby d13_8)
  obtain ⟨T3, X3, e3, st3⟩ := getF X2 hx hZ hown (host := "") (Or.inl (wd_67 hw)) Via.refl e2 F_at_vr0 (g := (mkF m 31 #[.val (.ref vr0), .val (.int (0 : Int32)), .unset] [(.ref vr0)])) rfl rfl (hb hby d13_31)
  obtain ⟨T4, X4, e4, st4⟩ := getF X3 hx hZ hown (host := "") (Or.inl (wd_82 hw)) Via.refl e3 F_partStart_vr0 (g := (mkF m 35 #[.val (.ref vr0), .val (.int (0 : Int32)), .unset] [(.ref vr0), (.int w_at)])) rfl rfl (hb hby d13_35)
  obtain ⟨T5, X5, e5, st5⟩ := getF X4 hx hZ hown (host := "") (Or.inl (wd_80 hw)) Via.refl e4 F_learning_vr0 (g := (mkF m 42 #[.val (.ref vr0), .val (.int (0 : Int32)), .val (.int (w_at - w_ps))] [(.ref vr0), (.ref vr0)])) rfl rfl (hb hby d13_42)
  obtain ⟨T6, h6, X6, e6, W6, st6⟩ := putFN X5 hx hZ hown (wd_80 hw) Via.refl e5 F_learning_vr0 E_vr0 (Or.inl (wd_81 hw)) (wd_32 hw) (ty := .boolean) (v := (.int (1 : Int32))) (v' := (.int (1 : Int32))) (by decide) rfl (by decide) (g := (mkF m 62 #[.val (.ref vr0), .val (.int (0 : Int32)), .val (.int (w_at - w_ps))] [(.int (1 : Int32)), (.ref vr0)])) rfl rfl (hb hby d13_62)
  have Fw6 := F_learning_vr0.same W6
  have N6 := Fr.snoc X6 N0 g_vr0
  have K6 : Keep h0 h6 [vr0, P, EN] := (Keep.refl h0 [vr0, P, EN]).wr W6 (Or.inl (List.mem_of_getElem? (i := 0) rfl))
  obtain ⟨T7, X7, e7, st7⟩ := getF X6 hx hZ hown (host := "") (Or.inl (wd_80 hw)) Via.refl e6 Fw6 (g := (mkF m 66 #[.val (.ref vr0), .val (.int (0 : Int32)), .val (.int (w_at - w_ps))] [(.ref vr0)])) rfl rfl (hb hby d13_66)
  obtain ⟨T8, X8, e8, st8⟩ := getF X7 hx hZ hown (host := "") (Or.inl (wd_53 hw)) Via.refl e7 (F_parts_vr0.other W6 (Or.inr (sl_87 hw))) (g := (mkF m 76 #[.val (.ref vr0), .val (.int (0 : Int32)), .val (.int (w_at - w_ps))] [(.ref vr0), (.int ((0 : Int32) + (w_at - w_ps)))])) rfl rfl (hb hby d13_76)
  obtain ⟨cl9, Ar9, -, Sz9, Ng9, -, -⟩ := (id (V_P.other W6 ne_P_vr0))
  obtain ⟨T10, X10, e10, st10⟩ := getF X8 hx hZ hown (host := "") (Or.inl (wd_53 hw)) Via.refl e8 (F_parts_vr0.other W6 (Or.inr (sl_87 hw))) (g := (mkF m 85 #[.val (.ref vr0), .val (.int (0 : Int32)), .val (.int (w_at - w_ps))] [(.ref vr0), (.ref vr0)])) rfl rfl (hb hby d13_85)
  obtain ⟨T11, X11, e11, st11⟩ := getF X10 hx hZ hown (host := "") (Or.inl (wd_53 hw)) Via.refl e10 (F_parts_vr0.other W6 (Or.inr (sl_87 hw))) (g := (mkF m 93 #[.val (.ref vr0), .val (.int (0 : Int32)), .val (.int (w_at - w_ps))] [(.ref vr0), (.int (2 : Int32)), (.int ((0 : Int32) + (w_at - w_ps))), (.ref P), (.ref vr0)])) rfl rfl (hb hby d13_93)
  obtain ⟨cl12, Ar12, -, Sz12, Ng12, -, -⟩ := (id (V_P.other W6 ne_P_vr0))
  obtain ⟨_, _, ⟨T13, L13, k13, n13⟩, -, X13, ⟨Lc13, hQ13, l13, y13, z13⟩, st13⟩ := Jvm.LawKit.callS X11 hx (y := (⟨"java/lang/Math", "max", "(II)I"⟩ : MethodName)) hown (mvT hZ (wd_112 hw)) (mvT hZ (wd_113 hw)) (mvT hZ (wd_114 hw)) (mvT hZ (wd_115 hw)) (by decide) (backOf (W := 2) (rm_max l Z a0 hw [] ((0 : Int32) + (w_at - w_ps)) ((2 : Int32) * pn) h6 n0 (Nat.le_trans Z0 (Keep.of_wr W6).1) ) hZ (wd_115 hw) (wd_114 hw) (by decide) (by decide)) (g := (mkF m 98 #[.val (.ref vr0), .val (.int (0 : Int32)), .val (.int (w_at - w_ps))] [(.int ((2 : Int32) * pn)), (.int ((0 : Int32) + (w_at - w_ps))), (.ref P), (.ref vr0)])) rfl (by rw [hml]; rfl) (argsL := [(.int ((0 : Int32) + (w_at - w_ps))), (.int ((2 : Int32) * pn))]) (rest := [(.ref P), (.ref vr0)]) (lenOf pd_11 rfl) rfl (by show 2 * 0 + _ ≤ _; exact Nat.le_of_eq rfl) (hb hby d13_98) (fun _ _ => ⟨rfl, e11, (by decide : 0 + 0 ≤ _), (by decide : 0 + 0 ≤ _)⟩)
  dsimp only [Pt.U, Pt.locs, Pt.cells, Pt.slots] at X13 l13 y13 z13 st13 hQ13
  subst l13 y13 z13
  obtain ⟨rfl, N13q, p13_0⟩ := hQ13
  have N13 := Fr.app N6 N13q
  have e13 : T13.heap = h6 := p13_0
  obtain ⟨_, _, ⟨T14, L14, k14, n14⟩, -, X14, ⟨Lc14, hQ14, l14, y14, z14⟩, st14⟩ := Jvm.LawKit.callS X13 hx (y := (⟨"java/lang/Math", "min", "(II)I"⟩ : MethodName)) hown (mvT hZ (wd_116 hw)) (mvT hZ (wd_117 hw)) (mvT hZ (wd_114 hw)) (mvT hZ (wd_118 hw)) (by decide) (backOf (W := 2) (rm_min l Z a0 hw [] (own_max ((0 : Int32) + (w_at - w_ps)) ((2 : Int32) * pn)) (4096 : Int32) h6 n0 (Nat.le_trans Z0 (Keep.of_wr W6).1) ) hZ (wd_118 hw) (wd_114 hw) (by decide) (by decide)) (g := (mkF m 104 #[.val (.ref vr0), .val (.int (0 : Int32)), .val (.int (w_at - w_ps))] [(.int (4096 : Int32)), (.int (own_max ((0 : Int32) + (w_at - w_ps)) ((2 : Int32) * pn))), (.ref P), (.ref vr0)])) rfl (by rw [hml]; rfl) (argsL := [(.int (own_max ((0 : Int32) + (w_at - w_ps)) ((2 : Int32) * pn))), (.int (4096 : Int32))]) (rest := [(.ref P), (.ref vr0)]) (lenOf pd_11 rfl) rfl (by show 2 * 0 + _ ≤ _; exact Nat.le_of_eq rfl) (hb hby d13_104) (fun _ _ => ⟨rfl, e13, (by decide : 0 + 0 ≤ _), (by decide : 0 + 0 ≤ _)⟩)
  dsimp only [Pt.U, Pt.locs, Pt.cells, Pt.slots] at X14 l14 y14 z14 st14 hQ14
  subst l14 y14 z14
  obtain ⟨rfl, N14q, p14_0⟩ := hQ14
  have N14 := Fr.app N13 N14q
  have e14 : T14.heap = h6 := p14_0
  obtain ⟨_, _, ⟨T15, L15, k15, n15⟩, -, X15, ⟨Lc15, hQ15, l15, y15, z15⟩, st15⟩ := Jvm.LawKit.callS X14 hx (y := (⟨"java/util/Arrays", "copyOf", "([BI)[B"⟩ : MethodName)) hown (mvT hZ (wd_119 hw)) (mvT hZ (wd_120 hw)) (mvT hZ (wd_121 hw)) (mvT hZ (wd_122 hw)) (by decide) (backOf (W := 1) (rm18 l Z a0 hw [] P (own_min (own_max ((0 : Int32) + (w_at - w_ps)) ((2 : Int32) * pn)) (4096 : Int32)) pn kP vP h6 n0 (Nat.le_trans Z0 (Keep.of_wr W6).1) (V_P.other W6 ne_P_vr0) (own_L hp1 hp2 hc80 hc54).1 (own_L hp1 hp2 hc80 hc54).2.1 (own_L hp1 hp2 hc80 hc54).2.2.1 (own_L hp1 hp2 hc80 hc54).2.2.2.1) hZ (wd_122 hw) (wd_121 hw) (by decide) (by decide)) (g := (mkF m 107 #[.val (.ref vr0), .val (.int (0 : Int32)), .val (.int (w_at - w_ps))] [(.int (own_min (own_max ((0 : Int32) + (w_at - w_ps)) ((2 : Int32) * pn)) (4096 : Int32))), (.ref P), (.ref vr0)])) rfl (by rw [hml]; rfl) (argsL := [(.ref P), (.int (own_min (own_max ((0 : Int32) + (w_at - w_ps)) ((2 : Int32) * pn)) (4096 : Int32)))]) (rest := [(.ref vr0)]) (lenOf pd_12 rfl) rfl (by show 2 * 0 + _ ≤ _; exact Nat.le_of_eq rfl) (hb hby d13_107) (fun _ _ => ⟨rfl, e14, (by decide : 0 + 1 ≤ _), (by decide : 0 + 4096 ≤ _)⟩)
  dsimp only [Pt.U, Pt.locs, Pt.cells, Pt.slots] at X15 l15 y15 z15 st15 hQ15
  subst l15 y15 z15
  obtain ⟨t15, kt15, vt15, rfl, N15q, p15_0, p15_1, p15_2, p15_3⟩ := hQ15
  have N15 := Fr.app N14 N15q
  have g_t15 : n0 ≤ t15 := Nat.le_trans (Nat.le_trans Z0 (Keep.of_wr W6).1) p15_1
  have sz_t15 : h0.size ≤ t15 := Nat.le_trans K6.1 p15_1
  have K15 : Keep h0 T15.heap [vr0, P, EN] := K6.trans p15_0 all0
  obtain ⟨T16, h16, X16, e16, W16, st16⟩ := putF X15 hx hZ hown (host := "") (Or.inl (wd_53 hw)) Via.refl rfl ((F_parts_vr0.other W6 (Or.inr (sl_87 hw))).keep p15_0 nin0) ((E_vr0.wr W6).keep p15_0) (Or.inl (wd_54 hw)) (wd_32 hw) (ty := (.array .byte)) (by decide) rfl rfl (g := (mkF m 110 #[.val (.ref vr0), .val (.int (0 : Int32)), .val (.int (w_at - w_ps))] [(.ref t15), (.ref vr0)])) rfl rfl (hb hby d13_110)
  have Fw16 := ((F_parts_vr0.other W6 (Or.inr (sl_87 hw))).keep p15_0 nin0).same W16
  have N16 := Fr.snoc X16 N15 g_vr0
  have K16 : Keep h0 h16 [vr0, P, EN] := K15.wr W16 (Or.inl (List.mem_of_getElem? (i := 0) rfl))
  obtain ⟨T17, X17, e17, st17⟩ := getF X16 hx hZ hown (host := "") (Or.inl (wd_78 hw)) Via.refl e16 (((F_values_vr0.other W6 (Or.inr (sl_100 hw))).keep p15_0 nin0).other W16 (Or.inr (sl_36 hw))) (g := (mkF m 114 #[.val (.ref vr0), .val (.int (0 : Int32)), .val (.int (w_at - w_ps))] [(.ref vr0)])) rfl rfl (hb hby d13_114)
  obtain ⟨T18, X18, e18, st18⟩ := getF X17 hx hZ hown (host := "") (Or.inl (wd_56 hw)) Via.refl e17 (((F_partEnds_vr0.other W6 (Or.inr (sl_91 hw))).keep p15_0 nin0).other W16 (Or.inr (sl_7 hw))) (g := (mkF m 118 #[.val (.ref vr0), .val (.int (0 : Int32)), .val (.int (w_at - w_ps))] [(.ref vr0), (.int (0 : Int32))])) rfl rfl (hb hby d13_118)
  obtain ⟨cl19, Ar19, -, Sz19, Ng19, -, -⟩ := (id (((V_EN.other W6 ne_EN_vr0).keep p15_0 nin0).other W16 ne_EN_vr0))
  obtain ⟨T20, X20, e20, st20⟩ := getF X18 hx hZ hown (host := "") (Or.inl (wd_38 hw)) Via.refl e18 (((F_bytes_vr0.other W6 (Or.inr (sl_78 hw))).keep p15_0 nin0).other W16 (Or.inr (sl_13 hw))) (g := (mkF m 143 #[.val (.ref vr0), .val (.int (0 : Int32)), .val (.int (w_at - w_ps))] [(.ref vr0)])) rfl rfl (hb hby d13_143)
  obtain ⟨T21, X21, e21, st21⟩ := getF X20 hx hZ hown (host := "") (Or.inl (wd_82 hw)) Via.refl e20 (((F_partStart_vr0.other W6 (Or.inr (sl_75 hw))).keep p15_0 nin0).other W16 (Or.inr (sl_46 hw))) (g := (mkF m 147 #[.val (.ref vr0), .val (.int (0 : Int32)), .val (.int (w_at - w_ps))] [(.ref vr0), (.ref B)])) rfl rfl (hb hby d13_147)
  obtain ⟨T22, X22, e22, st22⟩ := getF X21 hx hZ hown (host := "") (Or.inl (wd_53 hw)) Via.refl e21 Fw16 (g := (mkF m 151 #[.val (.ref vr0), .val (.int (0 : Int32)), .val (.int (w_at - w_ps))] [(.ref vr0), (.int w_ps), (.ref B)])) rfl rfl (hb hby d13_151)
  have hl23 : ((0 : Int32)).toNatClampNeg + ((w_at - w_ps)).toNatClampNeg ≤ (vt15).length := by rw [p15_3]; exact (Nat.le_trans lq5 (own_clamp lq6 (own_L hp1 hp2 hc80 hc54).2.2.2.2.1))
  obtain ⟨T23, h23, L23, X23, e23, N23, p23_0, V23, st23⟩ := cpA X22 hx hZ hown (wd_98 hw) (wd_101 hw) (wd_99 hw) (wd_100 hw) e22 (((V_B.other W6 ne_B_vr0).keep p15_0 nin0).other W16 ne_B_vr0) (p15_2.other W16 (Ne.symm (Nat.ne_of_lt (Nat.lt_of_lt_of_le (E_vr0.wr W6).lt p15_1)))) (Or.inl ⟨rfl, rfl⟩) lq1 lq2 lq3 lq4 (Nat.le_trans lq5 (own_clamp lq6 (own_L hp1 hp2 hc80 hc54).2.2.2.2.1)) (us := _) rfl hl23 N16 g_t15 (g := (mkF m 156 #[.val (.ref vr0), .val (.int (0 : Int32)), .val (.int (w_at - w_ps))] [(.int (w_at - w_ps)), (.int (0 : Int32)), (.ref t15), (.int w_ps), (.ref B)])) rfl (by rw [hml]; rfl) rfl (hb hby d13_156) (by decide) (W := 0) (by show 2 * 0 + _ ≤ _; exact Nat.le_of_eq rfl) (by decide)
  have K23 : Keep h0 h23 [vr0, P, EN] := K16.trans p23_0 (allS (Or.inr sz_t15) all0)
  obtain ⟨T24, X24, e24, st24⟩ := getF X23 hx hZ hown (host := "") (Or.inl (wd_56 hw)) Via.refl e23 ((((F_partEnds_vr0.other W6 (Or.inr (sl_91 hw))).keep p15_0 nin0).other W16 (Or.inr (sl_7 hw))).keep p23_0 (ninS (Nat.ne_of_lt (Nat.lt_of_lt_of_le (E_vr0.wr W6).lt p15_1)) nin0)) (g := (mkF m 160 #[.val (.ref vr0), .val (.int (0 : Int32)), .val (.int (w_at - w_ps))] [(.ref vr0)])) rfl rfl (hb hby d13_160)
  obtain ⟨T25, X25, e25, st25⟩ := getF X24 hx hZ hown (host := "") (Or.inl (wd_78 hw)) Via.refl e24 ((((F_values_vr0.other W6 (Or.inr (sl_100 hw))).keep p15_0 nin0).other W16 (Or.inr (sl_36 hw))).keep p23_0 (ninS (Nat.ne_of_lt (Nat.lt_of_lt_of_le (E_vr0.wr W6).lt p15_1)) nin0)) (g := (mkF m 164 #[.val (.ref vr0), .val (.int (0 : Int32)), .val (.int (w_at - w_ps))] [(.ref vr0), (.ref EN)])) rfl rfl (hb hby d13_164)
  obtain ⟨cl26, Ar26, q26, Sz26, Ng26, Hh26, Gg26⟩ := (id ((((V_EN.other W6 ne_EN_vr0).keep p15_0 nin0).other W16 ne_EN_vr0).keep p23_0 (ninS (Nat.ne_of_lt (Nat.lt_of_lt_of_le (V_EN.other W6 ne_EN_vr0).lt p15_1)) nin0)))
  have hin26 : ¬ ((0 : Int32) < 0 ∨ cl26.slots.size ≤ ((0 : Int32)).toNatClampNeg) := inb_of Sz26 ⟨by decide, by decide⟩
  obtain ⟨T26, h26, X26, e26, W26, st26⟩ := stI X25 hx hZ e25 Ar26 (j := (0 : Int32)) hin26 (g := (mkF m 170 #[.val (.ref vr0), .val (.int (0 : Int32)), .val (.int (w_at - w_ps))] [(.int ((0 : Int32) + (w_at - w_ps))), (.int (0 : Int32)), (.ref EN)])) rfl rfl (hb hby d13_170)
  have V_EN_26 : Arv Z h26 EN kE .int (16 : Int32) [(.int ((0 : Int32) + (w_at - w_ps))), (.int en1), (.int en2)] (.int (0 : Int32)) := Arv.set Ar26 q26 Sz26 Ng26 Hh26 Gg26 rfl W26 0 rfl (Nat.le_of_ble_eq_true rfl)
  have N26 := Fr.snoc X26 N23 g_EN
  have K26 : Keep h0 h26 [vr0, P, EN] := K23.wr W26 (Or.inl (List.mem_of_getElem? (i := 2) rfl))
  obtain ⟨fs, hr, hrun, hended, hW, hsame⟩ := X26.leave (v := none) (fun _ => rfl)
  refine ⟨_, _, pre0 _ ?_, hrun, hended, _, _, rfl, ?_, ⟨_, rfl⟩, hW, hsame.mono (by decide) (by decide)⟩
  · show Steps p.tables e below (s₁.setTop (mkF m 0 #[.val (.ref vr0), .unset, .unset] [])) _
    refine XS.aloadN X0.here hx rfl (hb hby d13_0) rfl rfl ?_
    show Steps p.tables e below (s₁.setTop (mkF m 1 #[.val (.ref vr0), .unset, .unset] [(.ref vr0)])) _
    refine st1 _ ?_
    show Steps p.tables e below (T1.setTop (mkF m 4 #[.val (.ref vr0), .unset, .unset] [(.int (1 : Int32))])) _
    refine XS.ifNo X1.here hx rfl (hb hby d13_4) rfl ((if0 _ _).trans (feq (by decide : ¬ ((1 : Int32) = (0 : Int32)))).1) ?_
    refine XS.aloadN X1.here hx rfl (hb hby d13_7) rfl rfl ?_
    show Steps p.tables e below (T1.setTop (mkF m 8 #[.val (.ref vr0), .unset, .unset] [(.ref vr0)])) _
    refine st2 _ ?_
    show Steps p.tables e below (T2.setTop (mkF m 11 #[.val (.ref vr0), .unset, .unset] [(.int (0 : Int32))])) _
    refine XS.ifYes X2.here hx rfl (pc0 := 11) (pc' := 28) rfl (hb hby d13_11) rfl ((if0 _ _).trans (flt (by decide : ¬ ((0 : Int32) < (0 : Int32)))).2.2.2) (by decide) (by decide) ?_
    refine XS.iconst X2.here hx rfl (hb hby d13_28) ?_
    refine XS.istoreN X2.here hx rfl (hb hby d13_29) rfl (l' := #[.val (.ref vr0), .val (.int (0 : Int32)), .unset]) rfl ?_
    show Steps p.tables e below (T2.setTop (mkF m 30 #[.val (.ref vr0), .val (.int (0 : Int32)), .unset] [])) _
    refine XS.aloadN X2.here hx rfl (hb hby d13_30) rfl rfl ?_
    show Steps p.tables e below (T2.setTop (mkF m 31 #[.val (.ref vr0), .val (.int (0 : Int32)), .unset] [(.ref vr0)])) _
    refine st3 _ ?_
    refine XS.aloadN X3.here hx rfl (hb hby d13_34) rfl rfl ?_
    show Steps p.tables e below (T3.setTop (mkF m 35 #[.val (.ref vr0), .val (.int (0 : Int32)), .unset] [(.ref vr0), (.int w_at)])) _
    refine st4 _ ?_
    show Steps p.tables e below (T4.setTop (mkF m 38 #[.val (.ref vr0), .val (.int (0 : Int32)), .unset] [(.int w_ps), (.int w_at)])) _
    refine XS.isub X4.here hx rfl (hb hby d13_38) rfl ?_
    refine XS.istoreN X4.here hx rfl (hb hby d13_39) rfl (l' := #[.val (.ref vr0), .val (.int (0 : Int32)), .val (.int (w_at - w_ps))]) rfl ?_
    refine XS.aloadN X4.here hx rfl (hb hby d13_40) rfl rfl ?_
    refine XS.aloadN X4.here hx rfl (hb hby d13_41) rfl rfl ?_
    show Steps p.tables e below (T4.setTop (mkF m 42 #[.val (.ref vr0), .val (.int (0 : Int32)), .val (.int (w_at - w_ps))] [(.ref vr0), (.ref vr0)])) _
    refine st5 _ ?_
    show Steps p.tables e below (T5.setTop (mkF m 45 #[.val (.ref vr0), .val (.int (0 : Int32)), .val (.int (w_at - w_ps))] [(.int (1 : Int32)), (.ref vr0)])) _
    refine XS.ifNo X5.here hx rfl (hb hby d13_45) rfl ((if0 _ _).trans (feq (by decide : ¬ ((1 : Int32) = (0 : Int32)))).1) ?_
    refine XS.iloadN X5.here hx rfl (hb hby d13_48) rfl ?_
    refine XS.iloadN X5.here hx rfl (hb hby d13_49) rfl ?_
    show Steps p.tables e below (T5.setTop (mkF m 50 #[.val (.ref vr0), .val (.int (0 : Int32)), .val (.int (w_at - w_ps))] [(.int (w_at - w_ps)), (.int (0 : Int32)), (.ref vr0)])) _
    refine XS.iadd X5.here hx rfl (hb hby d13_50) rfl ?_
    refine XS.sipush X5.here hx rfl (hb hby d13_51) ?_
    show Steps p.tables e below (T5.setTop (mkF m 54 #[.val (.ref vr0), .val (.int (0 : Int32)), .val (.int (w_at - w_ps))] [(.int (4096 : Int32)), (.int ((0 : Int32) + (w_at - w_ps))), (.ref vr0)])) _
    refine XS.icmpNo X5.here hx rfl (hb hby d13_54) rfl (flt hc54).2.2.1 ?_
    refine XS.iconst X5.here hx rfl (hb hby d13_57) ?_
    show Steps p.tables e below (T5.setTop (mkF m 58 #[.val (.ref vr0), .val (.int (0 : Int32)), .val (.int (w_at - w_ps))] [(.int (1 : Int32)), (.ref vr0)])) _
    refine XS.goto X5.here hx rfl (pc0 := 58) (pc' := 62) rfl (hb hby d13_58) (by decide) (by decide) ?_
    show Steps p.tables e below (T5.setTop (mkF m 62 #[.val (.ref vr0), .val (.int (0 : Int32)), .val (.int (w_at - w_ps))] [(.int (1 : Int32)), (.ref vr0)])) _
    refine st6 _ ?_
    refine XS.aloadN X6.here hx rfl (hb hby d13_65) rfl rfl ?_
    show Steps p.tables e below (T6.setTop (mkF m 66 #[.val (.ref vr0), .val (.int (0 : Int32)), .val (.int (w_at - w_ps))] [(.ref vr0)])) _
    refine st7 _ ?_
    show Steps p.tables e below (T7.setTop (mkF m 69 #[.val (.ref vr0), .val (.int (0 : Int32)), .val (.int (w_at - w_ps))] [(.int (1 : Int32))])) _
    refine XS.ifNo X7.here hx rfl (hb hby d13_69) rfl ((if0 _ _).trans (feq (by decide : ¬ ((1 : Int32) = (0 : Int32)))).1) ?_
    refine XS.iloadN X7.here hx rfl (hb hby d13_72) rfl ?_
    refine XS.iloadN X7.here hx rfl (hb hby d13_73) rfl ?_
    refine XS.iadd X7.here hx rfl (hb hby d13_74) rfl ?_
    show Steps p.tables e below (T7.setTop (mkF m 75 #[.val (.ref vr0), .val (.int (0 : Int32)), .val (.int (w_at - w_ps))] [(.int ((0 : Int32) + (w_at - w_ps)))])) _
    refine XS.aloadN X7.here hx rfl (hb hby d13_75) rfl rfl ?_
    show Steps p.tables e below (T7.setTop (mkF m 76 #[.val (.ref vr0), .val (.int (0 : Int32)), .val (.int (w_at - w_ps))] [(.ref vr0), (.int ((0 : Int32) + (w_at - w_ps)))])) _
    refine st8 _ ?_
    show Steps p.tables e below (T8.setTop (mkF m 79 #[.val (.ref vr0), .val (.int (0 : Int32)), .val (.int (w_at - w_ps))] [(.ref P), (.int ((0 : Int32) + (w_at - w_ps)))])) _
    refine X8.arraylength hx (by rw [e8]; exact Ar9.1) (State.isArrayOf_alike hZ.alike Ar9.2.1) (g := (mkF m 79 #[.val (.ref vr0), .val (.int (0 : Int32)), .val (.int (w_at - w_ps))] [(.ref P), (.int ((0 : Int32) + (w_at - w_ps)))])) rfl rfl (hb hby d13_79) _ ?_
    rw [len_of Sz9 Ng9]
    show Steps p.tables e below (T8.setTop (mkF m 80 #[.val (.ref vr0), .val (.int (0 : Int32)), .val (.int (w_at - w_ps))] [(.int pn), (.int ((0 : Int32) + (w_at - w_ps)))])) _
    refine XS.icmpNo X8.here hx rfl (hb hby d13_80) rfl (tlt hc80).2.2.2 ?_
    show Steps p.tables e below (T8.setTop (mkF m 83 #[.val (.ref vr0), .val (.int (0 : Int32)), .val (.int (w_at - w_ps))] [])) _
    refine XS.aloadN X8.here hx rfl (hb hby d13_83) rfl rfl ?_
    refine XS.aloadN X8.here hx rfl (hb hby d13_84) rfl rfl ?_
    show Steps p.tables e below (T8.setTop (mkF m 85 #[.val (.ref vr0), .val (.int (0 : Int32)), .val (.int (w_at - w_ps))] [(.ref vr0), (.ref vr0)])) _
    refine st10 _ ?_
    refine XS.iloadN X10.here hx rfl (hb hby d13_88) rfl ?_
    show Steps p.tables e below (T10.setTop (mkF m 89 #[.val (.ref vr0), .val (.int (0 : Int32)), .val (.int (w_at - w_ps))] [(.int (0 : Int32)), (.ref P), (.ref vr0)])) _
    refine XS.iloadN X10.here hx rfl (hb hby d13_89) rfl ?_
    refine XS.iadd X10.here hx rfl (hb hby d13_90) rfl ?_
    refine XS.iconst X10.here hx rfl (hb hby d13_91) ?_
    refine XS.aloadN X10.here hx rfl (hb hby d13_92) rfl rfl ?_
    show Steps p.tables e below (T10.setTop (mkF m 93 #[.val (.ref vr0), .val (.int (0 : Int32)), .val (.int (w_at - w_ps))] [(.ref vr0), (.int (2 : Int32)), (.int ((0 : Int32) + (w_at - w_ps))), (.ref P), (.ref vr0)])) _
    refine st11 _ ?_
    show Steps p.tables e below (T11.setTop (mkF m 96 #[.val (.ref vr0), .val (.int (0 : Int32)), .val (.int (w_at - w_ps))] [(.ref P), (.int (2 : Int32)), (.int ((0 : Int32) + (w_at - w_ps))), (.ref P), (.ref vr0)])) _
    refine X11.arraylength hx (by rw [e11]; exact Ar12.1) (State.isArrayOf_alike hZ.alike Ar12.2.1) (g := (mkF m 96 #[.val (.ref vr0), .val (.int (0 : Int32)), .val (.int (w_at - w_ps))] [(.ref P), (.int (2 : Int32)), (.int ((0 : Int32) + (w_at - w_ps))), (.ref P), (.ref vr0)])) rfl rfl (hb hby d13_96) _ ?_
    rw [len_of Sz12 Ng12]
    refine XS.imul X11.here hx rfl (hb hby d13_97) rfl ?_
    show Steps p.tables e below (T11.setTop (mkF m 98 #[.val (.ref vr0), .val (.int (0 : Int32)), .val (.int (w_at - w_ps))] [(.int ((2 : Int32) * pn)), (.int ((0 : Int32) + (w_at - w_ps))), (.ref P), (.ref vr0)])) _
    refine st13 _ ?_
    show Steps p.tables e below (T13.setTop (mkF m 101 #[.val (.ref vr0), .val (.int (0 : Int32)), .val (.int (w_at - w_ps))] [(.int (own_max ((0 : Int32) + (w_at - w_ps)) ((2 : Int32) * pn))), (.ref P), (.ref vr0)])) _
    refine XS.sipush X13.here hx rfl (hb hby d13_101) ?_
    show Steps p.tables e below (T13.setTop (mkF m 104 #[.val (.ref vr0), .val (.int (0 : Int32)), .val (.int (w_at - w_ps))] [(.int (4096 : Int32)), (.int (own_max ((0 : Int32) + (w_at - w_ps)) ((2 : Int32) * pn))), (.ref P), (.ref vr0)])) _
    refine st14 _ ?_
    show Steps p.tables e below (T14.setTop (mkF m 107 #[.val (.ref vr0), .val (.int (0 : Int32)), .val (.int (w_at - w_ps))] [(.int (own_min (own_max ((0 : Int32) + (w_at - w_ps)) ((2 : Int32) * pn)) (4096 : Int32))), (.ref P), (.ref vr0)])) _
    refine st15 _ ?_
    show Steps p.tables e below (T15.setTop (mkF m 110 #[.val (.ref vr0), .val (.int (0 : Int32)), .val (.int (w_at - w_ps))] [(.ref t15), (.ref vr0)])) _
    refine st16 _ ?_
    show Steps p.tables e below (T16.setTop (mkF m 113 #[.val (.ref vr0), .val (.int (0 : Int32)), .val (.int (w_at - w_ps))] [])) _
    refine XS.aloadN X16.here hx rfl (hb hby d13_113) rfl rfl ?_
    show Steps p.tables e below (T16.setTop (mkF m 114 #[.val (.ref vr0), .val (.int (0 : Int32)), .val (.int (w_at - w_ps))] [(.ref vr0)])) _
    refine st17 _ ?_
    refine XS.aloadN X17.here hx rfl (hb hby d13_117) rfl rfl ?_
    show Steps p.tables e below (T17.setTop (mkF m 118 #[.val (.ref vr0), .val (.int (0 : Int32)), .val (.int (w_at - w_ps))] [(.ref vr0), (.int (0 : Int32))])) _
    refine st18 _ ?_
    show Steps p.tables e below (T18.setTop (mkF m 121 #[.val (.ref vr0), .val (.int (0 : Int32)), .val (.int (w_at - w_ps))] [(.ref EN), (.int (0 : Int32))])) _
    refine X18.arraylength hx (by rw [e18]; exact Ar19.1) (State.isArrayOf_alike hZ.alike Ar19.2.1) (g := (mkF m 121 #[.val (.ref vr0), .val (.int (0 : Int32)), .val (.int (w_at - w_ps))] [(.ref EN), (.int (0 : Int32))])) rfl rfl (hb hby d13_121) _ ?_
    rw [len_of Sz19 Ng19]
    show Steps p.tables e below (T18.setTop (mkF m 122 #[.val (.ref vr0), .val (.int (0 : Int32)), .val (.int (w_at - w_ps))] [(.int (16 : Int32)), (.int (0 : Int32))])) _
    refine XS.icmpYes X18.here hx rfl (pc0 := 122) (pc' := 142) rfl (hb hby d13_122) rfl (feq (by decide : ¬ ((0 : Int32) = (16 : Int32)))).2 (by decide) (by decide) ?_
    refine XS.aloadN X18.here hx rfl (hb hby d13_142) rfl rfl ?_
    show Steps p.tables e below (T18.setTop (mkF m 143 #[.val (.ref vr0), .val (.int (0 : Int32)), .val (.int (w_at - w_ps))] [(.ref vr0)])) _
    refine st20 _ ?_
    show Steps p.tables e below (T20.setTop (mkF m 146 #[.val (.ref vr0), .val (.int (0 : Int32)), .val (.int (w_at - w_ps))] [(.ref B)])) _
    refine XS.aloadN X20.here hx rfl (hb hby d13_146) rfl rfl ?_
    show Steps p.tables e below (T20.setTop (mkF m 147 #[.val (.ref vr0), .val (.int (0 : Int32)), .val (.int (w_at - w_ps))] [(.ref vr0), (.ref B)])) _
    refine st21 _ ?_
    refine XS.aloadN X21.here hx rfl (hb hby d13_150) rfl rfl ?_
    show Steps p.tables e below (T21.setTop (mkF m 151 #[.val (.ref vr0), .val (.int (0 : Int32)), .val (.int (w_at - w_ps))] [(.ref vr0), (.int w_ps), (.ref B)])) _
    refine st22 _ ?_
    show Steps p.tables e below (T22.setTop (mkF m 154 #[.val (.ref vr0), .val (.int (0 : Int32)), .val (.int (w_at - w_ps))] [(.ref t15), (.int w_ps), (.ref B)])) _
    refine XS.iloadN X22.here hx rfl (hb hby d13_154) rfl ?_
    refine XS.iloadN X22.here hx rfl (hb hby d13_155) rfl ?_
    show Steps p.tables e below (T22.setTop (mkF m 156 #[.val (.ref vr0), .val (.int (0 : Int32)), .val (.int (w_at - w_ps))] [(.int (w_at - w_ps)), (.int (0 : Int32)), (.ref t15), (.int w_ps), (.ref B)])) _
    refine st23 _ ?_
    refine XS.aloadN X23.here hx rfl (hb hby d13_159) rfl rfl ?_
    show Steps p.tables e below (T23.setTop (mkF m 160 #[.val (.ref vr0), .val (.int (0 : Int32)), .val (.int (w_at - w_ps))] [(.ref vr0)])) _
    refine st24 _ ?_
    refine XS.aloadN X24.here hx rfl (hb hby d13_163) rfl rfl ?_
    show Steps p.tables e below (T24.setTop (mkF m 164 #[.val (.ref vr0), .val (.int (0 : Int32)), .val (.int (w_at - w_ps))] [(.ref vr0), (.ref EN)])) _
    refine st25 _ ?_
    refine XS.iloadN X25.here hx rfl (hb hby d13_167) rfl ?_
    show Steps p.tables e below (T25.setTop (mkF m 168 #[.val (.ref vr0), .val (.int (0 : Int32)), .val (.int (w_at - w_ps))] [(.int (0 : Int32)), (.int (0 : Int32)), (.ref EN)])) _
    refine XS.iloadN X25.here hx rfl (hb hby d13_168) rfl ?_
    refine XS.iadd X25.here hx rfl (hb hby d13_169) rfl ?_
    show Steps p.tables e below (T25.setTop (mkF m 170 #[.val (.ref vr0), .val (.int (0 : Int32)), .val (.int (w_at - w_ps))] [(.int ((0 : Int32) + (w_at - w_ps))), (.int (0 : Int32)), (.ref EN)])) _
    refine st26 _ ?_
    exact X26.returnOut hx Bd.returns (hb hby d13_171) hr
  · show Q13_e0f Z vr0 B w_at u_end P EN TG u_shapeReader w_ps kE pn kP vP kB vB kT en0 en1 en2 tg0 tg1 h0 n0 _ T26.heap _
    rw [e26]
    exact ⟨t15, kt15, (own_min (own_max ((0 : Int32) + (w_at - w_ps)) ((2 : Int32) * pn)) (4096 : Int32)), ((vt15).take ((0 : Int32)).toNatClampNeg ++ ((List.range ((w_at - w_ps)).toNatClampNeg).map fun i => (vB).getD ((w_ps).toNatClampNeg + i) (.int (0 : Int32))) ++ (vt15).drop (((0 : Int32)).toNatClampNeg + ((w_at - w_ps)).toNatClampNeg)), rfl, N26, K26, (((((F_bytes_vr0.other W6 (Or.inr (sl_78 hw))).keep p15_0 nin0).other W16 (Or.inr (sl_13 hw))).keep p23_0 (ninS (Nat.ne_of_lt (Nat.lt_of_lt_of_le (E_vr0.wr W6).lt p15_1)) nin0)).other W26 (Or.inl (Ne.symm ne_EN_vr0))), (((((F_at_vr0.other W6 (Or.inr (sl_72 hw))).keep p15_0 nin0).other W16 (Or.inr (sl_18 hw))).keep p23_0 (ninS (Nat.ne_of_lt (Nat.lt_of_lt_of_le (E_vr0.wr W6).lt p15_1)) nin0)).other W26 (Or.inl (Ne.symm ne_EN_vr0))), (((((F_end_vr0.other W6 (Or.inr (sl_83 hw))).keep p15_0 nin0).other W16 (Or.inr (sl_23 hw))).keep p23_0 (ninS (Nat.ne_of_lt (Nat.lt_of_lt_of_le (E_vr0.wr W6).lt p15_1)) nin0)).other W26 (Or.inl (Ne.symm ne_EN_vr0))), ((Fw16.keep p23_0 (ninS (Nat.ne_of_lt (Nat.lt_of_lt_of_le (E_vr0.wr W6).lt p15_1)) nin0)).other W26 (Or.inl (Ne.symm ne_EN_vr0))), (((((F_partEnds_vr0.other W6 (Or.inr (sl_91 hw))).keep p15_0 nin0).other W16 (Or.inr (sl_7 hw))).keep p23_0 (ninS (Nat.ne_of_lt (Nat.lt_of_lt_of_le (E_vr0.wr W6).lt p15_1)) nin0)).other W26 (Or.inl (Ne.symm ne_EN_vr0))), (((((F_tags_vr0.other W6 (Or.inr (sl_95 hw))).keep p15_0 nin0).other W16 (Or.inr (sl_10 hw))).keep p23_0 (ninS (Nat.ne_of_lt (Nat.lt_of_lt_of_le (E_vr0.wr W6).lt p15_1)) nin0)).other W26 (Or.inl (Ne.symm ne_EN_vr0))), (((((F_shapeReader_vr0.other W6 (Or.inr (sl_98 hw))).keep p15_0 nin0).other W16 (Or.inr (sl_31 hw))).keep p23_0 (ninS (Nat.ne_of_lt (Nat.lt_of_lt_of_le (E_vr0.wr W6).lt p15_1)) nin0)).other W26 (Or.inl (Ne.symm ne_EN_vr0))), (((((F_values_vr0.other W6 (Or.inr (sl_100 hw))).keep p15_0 nin0).other W16 (Or.inr (sl_36 hw))).keep p23_0 (ninS (Nat.ne_of_lt (Nat.lt_of_lt_of_le (E_vr0.wr W6).lt p15_1)) nin0)).other W26 (Or.inl (Ne.symm ne_EN_vr0))), ((((Fw6.keep p15_0 nin0).other W16 (Or.inr (sl_41 hw))).keep p23_0 (ninS (Nat.ne_of_lt (Nat.lt_of_lt_of_le (E_vr0.wr W6).lt p15_1)) nin0)).other W26 (Or.inl (Ne.symm ne_EN_vr0))), (((((F_partStart_vr0.other W6 (Or.inr (sl_75 hw))).keep p15_0 nin0).other W16 (Or.inr (sl_46 hw))).keep p23_0 (ninS (Nat.ne_of_lt (Nat.lt_of_lt_of_le (E_vr0.wr W6).lt p15_1)) nin0)).other W26 (Or.inl (Ne.symm ne_EN_vr0))), V_EN_26, (V23.other W26 (Ne.symm (Nat.ne_of_lt (Nat.lt_of_lt_of_le (V_EN.other W6 ne_EN_vr0).lt p15_1)))), ((own_len own_ul hl23).trans p15_3), (own_L hp1 hp2 hc80 hc54).2.2.2.2.2.1, (own_L hp1 hp2 hc80 hc54).2.2.2.2.2.2, g_t15, (Or.inr sz_t15), (Ne.symm (Nat.ne_of_lt (Nat.lt_of_lt_of_le (E_vr0.wr W6).lt p15_1))), (Ne.symm (Nat.ne_of_lt (Nat.lt_of_lt_of_le (V_EN.other W6 ne_EN_vr0).lt p15_1))), (Ne.symm (Nat.ne_of_lt (Nat.lt_of_lt_of_le (V_B.other W6 ne_B_vr0).lt p15_1))), (Ne.symm (Nat.ne_of_lt (Nat.lt_of_lt_of_le (V_TG.other W6 ne_TG_vr0).lt p15_1)))⟩
theorem ef_13_e0t (m : MethodId) (x0 : Addr) : entryFrame m #[(.ref x0)] 3 = mkF m 0 #[.val (.ref x0), .unset, .unset] [] := by first | (simp [entryFrame, mkF, argsToLocals, Value.category]; done) | rfl
def Q13_e0t (Z : State) (vr0 : Addr) (B : Addr) (w_at : Int32) (u_end : Value) (P : Addr) (EN : Addr) (TG : Addr) (u_shapeReader : Value) (w_ps : Int32) (kE : ClassId) (pn : Int32) (kP : ClassId) (vP : List Value) (kB : ClassId) (vB : List Value) (kT : ClassId) (en0 : Int32) (en1 : Int32) (en2 : Int32) (tg0 : Value) (tg1 : Value) (h0 : Heap) (n0 : Nat) (v : Option Value) (h : Heap) (L : List Loc) : Prop := ∃ p2 : Addr, ∃ k2 : ClassId, ∃ n2 : Int32, ∃ v2 : List Value, v = none ∧ Fr n0 L ∧ Keep h0 h [vr0, P, EN] ∧ Fld Z h vr0 "com/example/careful_ledger/carefulledger/json/PlainLine" "bytes" "[B" (.ref B) ∧ Fld Z h vr0 "com/example/careful_ledger/carefulledger/json/PlainLine" "at" "I" (.int w_at) ∧ Fld Z h vr0 "com/example/careful_ledger/carefulledger/json/PlainLine" "end" "I" u_end ∧ Fld Z h vr0 "com/example/careful_ledger/carefulledger/json/PlainLine" "parts" "[B" (.ref p2) ∧ Fld Z h vr0 "com/example/careful_ledger/carefulledger/json/PlainLine" "partEnds" "[I" (.ref EN) ∧ Fld Z h vr0 "com/example/careful_ledger/carefulledger/json/PlainLine" "tags" "[Ljava/lang/Object;" (.ref TG) ∧ Fld Z h vr0 "com/example/careful_ledger/carefulledger/json/PlainLine" "shapeReader" "Ljava/lang/Object;" u_shapeReader ∧ Fld Z h vr0 "com/example/careful_ledger/carefulledger/json/PlainLine" "values" "I" (.int (0 : Int32)) ∧ Fld Z h vr0 "com/example/careful_ledger/carefulledger/json/PlainLine" "learning" "Z" (.int (1 : Int32)) ∧ Fld Z h vr0 "com/example/careful_ledger/carefulledger/json/PlainLine" "partStart" "I" (.int w_ps) ∧ Arv Z h EN kE .int (16 : Int32) [(.int ((0 : Int32) + (w_at - w_ps))), (.int en1), (.int en2)] (.int (0 : Int32)) ∧ Arv Z h p2 k2 .byte n2 v2 (.int (0 : Int32)) ∧ v2.length = n2.toNatClampNeg ∧ ¬ n2 < (64 : Int32) ∧ ¬ (4096 : Int32) < n2 ∧ n0 ≤ p2 ∧ (P = p2 ∨ h0.size ≤ p2) ∧ p2 ≠ vr0 ∧ p2 ≠ EN ∧ p2 ≠ B ∧ p2 ≠ TG
set_option maxRecDepth 65536 in
set_option maxHeartbeats 40000000 in
theorem rm13_e0t (l : Launch) (Z : State) (a0 : Array Value) (hw : ∀ d ∈ tables_1, d.before a0 Z = true) (ws : List Jvm.Cond) (vr0 : Addr) (B : Addr) (w_at : Int32) (u_end : Value) (P : Addr) (EN : Addr) (TG : Addr) (u_shapeReader : Value) (w_ps : Int32) (kE : ClassId) (pn : Int32) (kP : ClassId) (vP : List Value) (kB : ClassId) (vB : List Value) (kT : ClassId) (en0 : Int32) (en1 : Int32) (en2 : Int32) (tg0 : Value) (tg1 : Value) (h0 : Heap) (n0 : Nat) (Z0 : n0 ≤ h0.size) (E_vr0 : Exa Z h0 vr0 "com/example/careful_ledger/carefulledger/json/PlainLine") (F_bytes_vr0 : Fld Z h0 vr0 "com/example/careful_ledger/carefulledger/json/PlainLine" "bytes" "[B" (.ref B)) (F_at_vr0 : Fld Z h0 vr0 "com/example/careful_ledger/carefulledger/json/PlainLine" "at" "I" (.int w_at)) (F_end_vr0 : Fld Z h0 vr0 "com/example/careful_ledger/carefulledger/json/PlainLine" "end" "I" u_end) (F_parts_vr0 : Fld Z h0 vr0 "com/example/careful_ledger/carefulledger/json/PlainLine" "parts" "[B" (.ref P)) (F_partEnds_vr0 : Fld Z h0 vr0 "com/example/careful_ledger/carefulledger/json/PlainLine" "partEnds" "[I" (.ref EN)) (F_tags_vr0 : Fld Z h0 vr0 "com/example/careful_ledger/carefulledger/json/PlainLine" "tags" "[Ljava/lang/Object;" (.ref TG)) (F_shapeReader_vr0 : Fld Z h0 vr0 "com/example/careful_ledger/carefulledger/json/PlainLine" "shapeReader" "Ljava/lang/Object;" u_shapeReader) (F_values_vr0 : Fld Z h0 vr0 "com/example/careful_ledger/carefulledger/json/PlainLine" "values" "I" (.int (0 : Int32))) (F_learning_vr0 : Fld Z h0 vr0 "com/example/careful_ledger/carefulledger/json/PlainLine" "learning" "Z" (.int (1 : Int32))) (F_partStart_vr0 : Fld Z h0 vr0 "com/example/careful_ledger/carefulledger/json/PlainLine" "partStart" "I" (.int w_ps)) (V_EN : Arv Z h0 EN kE .int (16 : Int32) [(.int en0), (.int en1), (.int en2)] (.int (0 : Int32))) (V_P : Arv Z h0 P kP .byte pn vP (.int (0 : Int32))) (V_B : Arv Z h0 B kB .byte (6144 : Int32) vB (.int (0 : Int32))) (V_TG : Arv Z h0 TG kT (.object "java/lang/Object") (16 : Int32) [tg0, tg1] .null) (hvP : vP.length = pn.toNatClampNeg) (hp1 : ¬ pn < (64 : Int32)) (hp2 : ¬ (4096 : Int32) < pn) (g_vr0 : n0 ≤ vr0) (g_P : n0 ≤ P) (g_EN : n0 ≤ EN) (g_TG : n0 ≤ TG) (ne_P_vr0 : P ≠ vr0) (ne_EN_vr0 : EN ≠ vr0) (ne_TG_vr0 : TG ≠ vr0) (ne_B_vr0 : B ≠ vr0) (ne_P_EN : P ≠ EN) (ne_P_TG : P ≠ TG) (ne_P_B : P ≠ B) (ne_EN_TG : EN ≠ TG) (ne_EN_B : EN ≠ B) (ne_TG_B : TG ≠ B) (OvT : Ovr Z kT "java/lang/Object") (lq1 : ¬ w_ps < 0) (lq2 : ¬ (0 : Int32) < 0) (lq3 : ¬ (w_at - w_ps) < 0) (lq4 : w_ps.toNatClampNeg + (w_at - w_ps).toNatClampNeg ≤ (6144 : Int32).toNatClampNeg) (lq5 : (0 : Int32).toNatClampNeg + (w_at - w_ps).toNatClampNeg ≤ ((0 : Int32) + (w_at - w_ps)).toNatClampNeg) (lq6 : ¬ ((0 : Int32) + (w_at - w_ps)) < 0) (hc54 : ¬ ((4096 : Int32) < ((0 : Int32) + (w_at - w_ps)))) (hc80 : ¬ (pn < ((0 : Int32) + (w_at - w_ps)))) :
    MetFree l (⟨"com/example/careful_ledger/carefulledger/json/PlainLine", "endPart", "()V"⟩ : MethodName) (head1 (Jvm.Cond.code (⟨"com/example/careful_ledger/carefulledger/json/PlainLine", "endPart", "()V"⟩ : MethodName) prog_58_method_12_code 3 none :: ws) ({ frames := 2, cells := 1, slots := 4096, locals := 33 } : Room)) (fun a U => a = #[(.ref vr0)] ∧ Z.Warmed39 U.vm ∧ U.heap = h0) (fun _ _ _ _ _ => True) (fun _ U o U' => ∃ v L, o = .returned v ∧ Q13_e0t Z vr0 B w_at u_end P EN TG u_shapeReader w_ps kE pn kP vP kB vB kT en0 en1 en2 tg0 tg1 h0 n0 v U'.heap L ∧ FrameEnd U o U' L ({ frames := 2, cells := 1, slots := 4096, locals := 33 } : Room).cells ({ frames := 2, cells := 1, slots := 4096, locals := 33 } : Room).slots) := by
  refine MetFree.of_bodySF (plainFor_of_name pn_com_example_careful_ledger_carefulledger_json_PlainLine) hisR ?_
  intro p e s m args below meth c s₁ Bd hml0 hP hK
  obtain ⟨rfl, hZ, hh⟩ := hP
  have hx := Bd.exec
  have hby := Bd.bytes
  have hml : c.maxLocals = 3 := hml0
  have hown : s.vm.findClass "com/example/careful_ledger/carefulledger/json/PlainLine" = some m.cls := findClass_of_methodNamed Bd.named
  have hnm := (name_of_methodNamed Bd.named Bd.method).1
  have X0 : Stand p l e ({ frames := 2, cells := 1, slots := 4096, locals := 33 } : Room) s m #[(.ref vr0)] below meth c s₁ [] 0 0 := Stand.of_body Bd
  have e0 : s₁.heap = h0 := by rw [← hh, Bd.state]; rfl
  have N0 := Fr.nil n0
  have pre0 : ∀ t, Steps p.tables e below (s₁.setTop (mkF m 0 #[.val (.ref vr0), .unset, .unset] [])) t → Steps p.tables e below (s₁.setTop (entryFrame m #[(.ref vr0)] 3)) t := fun t k => castTop (ef_13_e0t m vr0) k
  obtain ⟨T1, X1, e1, st1⟩ := getF X0 hx hZ hown (host := "") (Or.inl (wd_80 hw)) Via.refl e0 F_learning_vr0 (g := (mkF m 1 #[.val (.ref vr0), .unset, .unset] [(.ref vr0)])) rfl rfl (hb hby d13_1)
  obtain ⟨T2, X2, e2, st2⟩ := getF X1 hx hZ hown (host := "") (Or.inl (wd_78 hw)) Via.refl e1 F_values_vr0 (g := (mkF m 8 #[.val (.ref vr0), .unset, .unset] [(.ref vr0)])) rfl rfl (hb hby d13_8)
  obtain ⟨T3, X3, e3, st3⟩ := getF X2 hx hZ hown (host := "") (Or.inl (wd_67 hw)) Via.refl e2 F_at_vr0 (g := (mkF m 31 #[.val (.ref vr0), .val (.int (0 : Int32)), .unset] [(.ref vr0)])) rfl rfl (hb hby d13_31)
  obtain ⟨T4, X4, e4, st4⟩ := getF X3 hx hZ hown (host := "") (Or.inl (wd_82 hw)) Via.refl e3 F_partStart_vr0 (g := (mkF m 35 #[.val (.ref vr0), .val (.int (0 : Int32)), .unset] [(.ref vr0), (.int w_at)])) rfl rfl (hb hby d13_35)
  obtain ⟨T5, X5, e5, st5⟩ := getF X4 hx hZ hown (host := "") (Or.inl (wd_80 hw)) Via.refl e4 F_learning_vr0 (g := (mkF m 42 #[.val (.ref vr0), .val (.int (0 : Int32)), .val (.int (w_at - w_ps))] [(.ref vr0), (.ref vr0)])) rfl rfl (hb hby d13_42)
  obtain ⟨T6, h6, X6, e6, W6, st6⟩ := putFN X5 hx hZ hown (wd_80 hw) Via.refl e5 F_learning_vr0 E_vr0 (Or.inl (wd_81 hw)) (wd_32 hw) (ty := .boolean) (v := (.int (1 : Int32))) (v' := (.int (1 : Int32))) (by decide) rfl (by decide) (g := (mkF m 62 #[.val (.ref vr0), .val (.int (0 : Int32)), .val (.int (w_at - w_ps))] [(.int (1 : Int32)), (.ref vr0)])) rfl rfl (hb hby d13_62)
  have Fw6 := F_learning_vr0.same W6
  have N6 := Fr.snoc X6 N0 g_vr0
  have K6 : Keep h0 h6 [vr0, P, EN] := (Keep.refl h0 [vr0, P, EN]).wr W6 (Or.inl (List.mem_of_getElem? (i := 0) rfl))
  obtain ⟨T7, X7, e7, st7⟩ := getF X6 hx hZ hown (host := "") (Or.inl (wd_80 hw)) Via.refl e6 Fw6 (g := (mkF m 66 #[.val (.ref vr0), .val (.int (0 : Int32)), .val (.int (w_at - w_ps))] [(.ref vr0)])) rfl rfl (hb hby d13_66)
  obtain ⟨T8, X8, e8, st8⟩ := getF X7 hx hZ hown (host := "") (Or.inl (wd_53 hw)) Via.refl e7 (F_parts_vr0.other W6 (Or.inr (sl_87 hw))) (g := (mkF m 76 #[.val (.ref vr0), .val (.int (0 : Int32)), .val (.int (w_at - w_ps))] [(.ref vr0), (.int ((0 : Int32) + (w_at - w_ps)))])) rfl rfl (hb hby d13_76)
  obtain ⟨cl9, Ar9, -, Sz9, Ng9, -, -⟩ := (id (V_P.other W6 ne_P_vr0))
  obtain ⟨T10, X10, e10, st10⟩ := getF X8 hx hZ hown (host := "") (Or.inl (wd_78 hw)) Via.refl e8 (F_values_vr0.other W6 (Or.inr (sl_100 hw))) (g := (mkF m 114 #[.val (.ref vr0), .val (.int (0 : Int32)), .val (.int (w_at - w_ps))] [(.ref vr0)])) rfl rfl (hb hby d13_114)
  obtain ⟨T11, X11, e11, st11⟩ := getF X10 hx hZ hown (host := "") (Or.inl (wd_56 hw)) Via.refl e10 (F_partEnds_vr0.other W6 (Or.inr (sl_91 hw))) (g := (mkF m 118 #[.val (.ref vr0), .val (.int (0 : Int32)), .val (.int (w_at - w_ps))] [(.ref vr0), (.int (0 : Int32))])) rfl rfl (hb hby d13_118)
  obtain ⟨cl12, Ar12, -, Sz12, Ng12, -, -⟩ := (id (V_EN.other W6 ne_EN_vr0))
  obtain ⟨T13, X13, e13, st13⟩ := getF X11 hx hZ hown (host := "") (Or.inl (wd_38 hw)) Via.refl e11 (F_bytes_vr0.other W6 (Or.inr (sl_78 hw))) (g := (mkF m 143 #[.val (.ref vr0), .val (.int (0 : Int32)), .val (.int (w_at - w_ps))] [(.ref vr0)])) rfl rfl (hb hby d13_143)
  obtain ⟨T14, X14, e14, st14⟩ := getF X13 hx hZ hown (host := "") (Or.inl (wd_82 hw)) Via.refl e13 (F_partStart_vr0.other W6 (Or.inr (sl_75 hw))) (g := (mkF m 147 #[.val (.ref vr0), .val (.int (0 : Int32)), .val (.int (w_at - w_ps))] [(.ref vr0), (.ref B)])) rfl rfl (hb hby d13_147)
  obtain ⟨T15, X15, e15, st15⟩ := getF X14 hx hZ hown (host := "") (Or.inl (wd_53 hw)) Via.refl e14 (F_parts_vr0.other W6 (Or.inr (sl_87 hw))) (g := (mkF m 151 #[.val (.ref vr0), .val (.int (0 : Int32)), .val (.int (w_at - w_ps))] [(.ref vr0), (.int w_ps), (.ref B)])) rfl rfl (hb hby d13_151)
  have hl16 : ((0 : Int32)).toNatClampNeg + ((w_at - w_ps)).toNatClampNeg ≤ (vP).length := by rw [hvP]; exact (Nat.le_trans lq5 (own_clamp lq6 hc80))
  obtain ⟨T16, h16, L16, X16, e16, N16, p16_0, V16, st16⟩ := cpA X15 hx hZ hown (wd_98 hw) (wd_101 hw) (wd_99 hw) (wd_100 hw) e15 (V_B.other W6 ne_B_vr0) (V_P.other W6 ne_P_vr0) (Or.inl ⟨rfl, rfl⟩) lq1 lq2 lq3 lq4 (Nat.le_trans lq5 (own_clamp lq6 hc80)) (us := _) rfl hl16 N6 g_P (g := (mkF m 156 #[.val (.ref vr0), .val (.int (0 : Int32)), .val (.int (w_at - w_ps))] [(.int (w_at - w_ps)), (.int (0 : Int32)), (.ref P), (.int w_ps), (.ref B)])) rfl (by rw [hml]; rfl) rfl (hb hby d13_156) (by decide) (W := 0) (by show 2 * 0 + _ ≤ _; exact Nat.le_of_eq rfl) (by decide)
  have K16 : Keep h0 h16 [vr0, P, EN] := K6.trans p16_0 (allS (Or.inl (List.mem_of_getElem? (i := 1) rfl)) all0)
  obtain ⟨T17, X17, e17, st17⟩ := getF X16 hx hZ hown (host := "") (Or.inl (wd_56 hw)) Via.refl e16 ((F_partEnds_vr0.other W6 (Or.inr (sl_91 hw))).keep p16_0 (ninS (Ne.symm ne_P_vr0) nin0)) (g := (mkF m 160 #[.val (.ref vr0), .val (.int (0 : Int32)), .val (.int (w_at - w_ps))] [(.ref vr0)])) rfl rfl (hb hby d13_160)
  obtain ⟨T18, X18, e18, st18⟩ := getF X17 hx hZ hown (host := "") (Or.inl (wd_78 hw)) Via.refl e17 ((F_values_vr0.other W6 (Or.inr (sl_100 hw))).keep p16_0 (ninS (Ne.symm ne_P_vr0) nin0)) (g := (mkF m 164 #[.val (.ref vr0), .val (.int (0 : Int32)), .val (.int (w_at - w_ps))] [(.ref vr0), (.ref EN)])) rfl rfl (hb hby d13_164)
  obtain ⟨cl19, Ar19, q19, Sz19, Ng19, Hh19, Gg19⟩ := (id ((V_EN.other W6 ne_EN_vr0).keep p16_0 (ninS (Ne.symm ne_P_EN) nin0)))
  have hin19 : ¬ ((0 : Int32) < 0 ∨ cl19.slots.size ≤ ((0 : Int32)).toNatClampNeg) := inb_of Sz19 ⟨by decide, by decide⟩
  obtain ⟨T19, h19, X19, e19, W19, st19⟩ := stI X18 hx hZ e18 Ar19 (j := (0 : Int32)) hin19 (g := (mkF m 170 #[.val (.ref vr0), .val (.int (0 : Int32)), .val (.int (w_at - w_ps))] [(.int ((0 : Int32) + (w_at - w_ps))), (.int (0 : Int32)), (.ref EN)])) rfl rfl (hb hby d13_170)
  have V_EN_19 : Arv Z h19 EN kE .int (16 : Int32) [(.int ((0 : Int32) + (w_at - w_ps))), (.int en1), (.int en2)] (.int (0 : Int32)) := Arv.set Ar19 q19 Sz19 Ng19 Hh19 Gg19 rfl W19 0 rfl (Nat.le_of_ble_eq_true rfl)
  have N19 := Fr.snoc X19 N16 g_EN
  have K19 : Keep h0 h19 [vr0, P, EN] := K16.wr W19 (Or.inl (List.mem_of_getElem? (i := 2) rfl))
  obtain ⟨fs, hr, hrun, hended, hW, hsame⟩ := X19.leave (v := none) (fun _ => rfl)
  refine ⟨_, _, pre0 _ ?_, hrun, hended, _, _, rfl, ?_, ⟨_, rfl⟩, hW, hsame.mono (by decide) (by decide)⟩
  · show Steps p.tables e below (s₁.setTop (mkF m 0 #[.val (.ref vr0), .unset, .unset] [])) _
    refine XS.aloadN X0.here hx rfl (hb hby d13_0) rfl rfl ?_
    show Steps p.tables e below (s₁.setTop (mkF m 1 #[.val (.ref vr0), .unset, .unset] [(.ref vr0)])) _
    refine st1 _ ?_
    show Steps p.tables e below (T1.setTop (mkF m 4 #[.val (.ref vr0), .unset, .unset] [(.int (1 : Int32))])) _
    refine XS.ifNo X1.here hx rfl (hb hby d13_4) rfl ((if0 _ _).trans (feq (by decide : ¬ ((1 : Int32) = (0 : Int32)))).1) ?_
    refine XS.aloadN X1.here hx rfl (hb hby d13_7) rfl rfl ?_
    show Steps p.tables e below (T1.setTop (mkF m 8 #[.val (.ref vr0), .unset, .unset] [(.ref vr0)])) _
    refine st2 _ ?_
    show Steps p.tables e below (T2.setTop (mkF m 11 #[.val (.ref vr0), .unset, .unset] [(.int (0 : Int32))])) _
    refine XS.ifYes X2.here hx rfl (pc0 := 11) (pc' := 28) rfl (hb hby d13_11) rfl ((if0 _ _).trans (flt (by decide : ¬ ((0 : Int32) < (0 : Int32)))).2.2.2) (by decide) (by decide) ?_
    refine XS.iconst X2.here hx rfl (hb hby d13_28) ?_
    refine XS.istoreN X2.here hx rfl (hb hby d13_29) rfl (l' := #[.val (.ref vr0), .val (.int (0 : Int32)), .unset]) rfl ?_
    show Steps p.tables e below (T2.setTop (mkF m 30 #[.val (.ref vr0), .val (.int (0 : Int32)), .unset] [])) _
    refine XS.aloadN X2.here hx rfl (hb hby d13_30) rfl rfl ?_
    show Steps p.tables e below (T2.setTop (mkF m 31 #[.val (.ref vr0), .val (.int (0 : Int32)), .unset] [(.ref vr0)])) _
    refine st3 _ ?_
    refine XS.aloadN X3.here hx rfl (hb hby d13_34) rfl rfl ?_
    show Steps p.tables e below (T3.setTop (mkF m 35 #[.val (.ref vr0), .val (.int (0 : Int32)), .unset] [(.ref vr0), (.int w_at)])) _
    refine st4 _ ?_
    show Steps p.tables e below (T4.setTop (mkF m 38 #[.val (.ref vr0), .val (.int (0 : Int32)), .unset] [(.int w_ps), (.int w_at)])) _
    refine XS.isub X4.here hx rfl (hb hby d13_38) rfl ?_
    refine XS.istoreN X4.here hx rfl (hb hby d13_39) rfl (l' := #[.val (.ref vr0), .val (.int (0 : Int32)), .val (.int (w_at - w_ps))]) rfl ?_
    refine XS.aloadN X4.here hx rfl (hb hby d13_40) rfl rfl ?_
    refine XS.aloadN X4.here hx rfl (hb hby d13_41) rfl rfl ?_
    show Steps p.tables e below (T4.setTop (mkF m 42 #[.val (.ref vr0), .val (.int (0 : Int32)), .val (.int (w_at - w_ps))] [(.ref vr0), (.ref vr0)])) _
    refine st5 _ ?_
    show Steps p.tables e below (T5.setTop (mkF m 45 #[.val (.ref vr0), .val (.int (0 : Int32)), .val (.int (w_at - w_ps))] [(.int (1 : Int32)), (.ref vr0)])) _
    refine XS.ifNo X5.here hx rfl (hb hby d13_45) rfl ((if0 _ _).trans (feq (by decide : ¬ ((1 : Int32) = (0 : Int32)))).1) ?_
    refine XS.iloadN X5.here hx rfl (hb hby d13_48) rfl ?_
    refine XS.iloadN X5.here hx rfl (hb hby d13_49) rfl ?_
    show Steps p.tables e below (T5.setTop (mkF m 50 #[.val (.ref vr0), .val (.int (0 : Int32)), .val (.int (w_at - w_ps))] [(.int (w_at - w_ps)), (.int (0 : Int32)), (.ref vr0)])) _
    refine XS.iadd X5.here hx rfl (hb hby d13_50) rfl ?_
    refine XS.sipush X5.here hx rfl (hb hby d13_51) ?_
    show Steps p.tables e below (T5.setTop (mkF m 54 #[.val (.ref vr0), .val (.int (0 : Int32)), .val (.int (w_at - w_ps))] [(.int (4096 : Int32)), (.int ((0 : Int32) + (w_at - w_ps))), (.ref vr0)])) _
    refine XS.icmpNo X5.here hx rfl (hb hby d13_54) rfl (flt hc54).2.2.1 ?_
    refine XS.iconst X5.here hx rfl (hb hby d13_57) ?_
    show Steps p.tables e below (T5.setTop (mkF m 58 #[.val (.ref vr0), .val (.int (0 : Int32)), .val (.int (w_at - w_ps))] [(.int (1 : Int32)), (.ref vr0)])) _
    refine XS.goto X5.here hx rfl (pc0 := 58) (pc' := 62) rfl (hb hby d13_58) (by decide) (by decide) ?_
    show Steps p.tables e below (T5.setTop (mkF m 62 #[.val (.ref vr0), .val (.int (0 : Int32)), .val (.int (w_at - w_ps))] [(.int (1 : Int32)), (.ref vr0)])) _
    refine st6 _ ?_
    refine XS.aloadN X6.here hx rfl (hb hby d13_65) rfl rfl ?_
    show Steps p.tables e below (T6.setTop (mkF m 66 #[.val (.ref vr0), .val (.int (0 : Int32)), .val (.int (w_at - w_ps))] [(.ref vr0)])) _
    refine st7 _ ?_
    show Steps p.tables e below (T7.setTop (mkF m 69 #[.val (.ref vr0), .val (.int (0 : Int32)), .val (.int (w_at - w_ps))] [(.int (1 : Int32))])) _
    refine XS.ifNo X7.here hx rfl (hb hby d13_69) rfl ((if0 _ _).trans (feq (by decide : ¬ ((1 : Int32) = (0 : Int32)))).1) ?_
    refine XS.iloadN X7.here hx rfl (hb hby d13_72) rfl ?_
    refine XS.iloadN X7.here hx rfl (hb hby d13_73) rfl ?_
    refine XS.iadd X7.here hx rfl (hb hby d13_74) rfl ?_
    show Steps p.tables e below (T7.setTop (mkF m 75 #[.val (.ref vr0), .val (.int (0 : Int32)), .val (.int (w_at - w_ps))] [(.int ((0 : Int32) + (w_at - w_ps)))])) _
    refine XS.aloadN X7.here hx rfl (hb hby d13_75) rfl rfl ?_
    show Steps p.tables e below (T7.setTop (mkF m 76 #[.val (.ref vr0), .val (.int (0 : Int32)), .val (.int (w_at - w_ps))] [(.ref vr0), (.int ((0 : Int32) + (w_at - w_ps)))])) _
    refine st8 _ ?_
    show Steps p.tables e below (T8.setTop (mkF m 79 #[.val (.ref vr0), .val (.int (0 : Int32)), .val (.int (w_at - w_ps))] [(.ref P), (.int ((0 : Int32) + (w_at - w_ps)))])) _
    refine X8.arraylength hx (by rw [e8]; exact Ar9.1) (State.isArrayOf_alike hZ.alike Ar9.2.1) (g := (mkF m 79 #[.val (.ref vr0), .val (.int (0 : Int32)), .val (.int (w_at - w_ps))] [(.ref P), (.int ((0 : Int32) + (w_at - w_ps)))])) rfl rfl (hb hby d13_79) _ ?_
    rw [len_of Sz9 Ng9]
    show Steps p.tables e below (T8.setTop (mkF m 80 #[.val (.ref vr0), .val (.int (0 : Int32)), .val (.int (w_at - w_ps))] [(.int pn), (.int ((0 : Int32) + (w_at - w_ps)))])) _
    refine XS.icmpYes X8.here hx rfl (pc0 := 80) (pc' := 113) rfl (hb hby d13_80) rfl (flt hc80).2.2.2 (by decide) (by decide) ?_
    show Steps p.tables e below (T8.setTop (mkF m 113 #[.val (.ref vr0), .val (.int (0 : Int32)), .val (.int (w_at - w_ps))] [])) _
    refine XS.aloadN X8.here hx rfl (hb hby d13_113) rfl rfl ?_
    show Steps p.tables e below (T8.setTop (mkF m 114 #[.val (.ref vr0), .val (.int (0 : Int32)), .val (.int (w_at - w_ps))] [(.ref vr0)])) _
    refine st10 _ ?_
    refine XS.aloadN X10.here hx rfl (hb hby d13_117) rfl rfl ?_
    show Steps p.tables e below (T10.setTop (mkF m 118 #[.val (.ref vr0), .val (.int (0 : Int32)), .val (.int (w_at - w_ps))] [(.ref vr0), (.int (0 : Int32))])) _
    refine st11 _ ?_
    show Steps p.tables e below (T11.setTop (mkF m 121 #[.val (.ref vr0), .val (.int (0 : Int32)), .val (.int (w_at - w_ps))] [(.ref EN), (.int (0 : Int32))])) _
    refine X11.arraylength hx (by rw [e11]; exact Ar12.1) (State.isArrayOf_alike hZ.alike Ar12.2.1) (g := (mkF m 121 #[.val (.ref vr0), .val (.int (0 : Int32)), .val (.int (w_at - w_ps))] [(.ref EN), (.int (0 : Int32))])) rfl rfl (hb hby d13_121) _ ?_
    rw [len_of Sz12 Ng12]
    show Steps p.tables e below (T11.setTop (mkF m 122 #[.val (.ref vr0), .val (.int (0 : Int32)), .val (.int (w_at - w_ps))] [(.int (16 : Int32)), (.int (0 : Int32))])) _
    refine XS.icmpYes X11.here hx rfl (pc0 := 122) (pc' := 142) rfl (hb hby d13_122) rfl (feq (by decide : ¬ ((0 : Int32) = (16 : Int32)))).2 (by decide) (by decide) ?_
    refine XS.aloadN X11.here hx rfl (hb hby d13_142) rfl rfl ?_
    show Steps p.tables e below (T11.setTop (mkF m 143 #[.val (.ref vr0), .val (.int (0 : Int32)), .val (.int (w_at - w_ps))] [(.ref vr0)])) _
    refine st13 _ ?_
    show Steps p.tables e below (T13.setTop (mkF m 146 #[.val (.ref vr0), .val (.int (0 : Int32)), .val (.int (w_at - w_ps))] [(.ref B)])) _
    refine XS.aloadN X13.here hx rfl (hb hby d13_146) rfl rfl ?_
    show Steps p.tables e below (T13.setTop (mkF m 147 #[.val (.ref vr0), .val (.int (0 : Int32)), .val (.int (w_at - w_ps))] [(.ref vr0), (.ref B)])) _
    refine st14 _ ?_
    refine XS.aloadN X14.here hx rfl (hb hby d13_150) rfl rfl ?_
    show Steps p.tables e below (T14.setTop (mkF m 151 #[.val (.ref vr0), .val (.int (0 : Int32)), .val (.int (w_at - w_ps))] [(.ref vr0), (.int w_ps), (.ref B)])) _
    refine st15 _ ?_
    show Steps p.tables e below (T15.setTop (mkF m 154 #[.val (.ref vr0), .val (.int (0 : Int32)), .val (.int (w_at - w_ps))] [(.ref P), (.int w_ps), (.ref B)])) _
    refine XS.iloadN X15.here hx rfl (hb hby d13_154) rfl ?_
    refine XS.iloadN X15.here hx rfl (hb hby d13_155) rfl ?_
    show Steps p.tables e below (T15.setTop (mkF m 156 #[.val (.ref vr0), .val (.int (0 : Int32)), .val (.int (w_at - w_ps))] [(.int (w_at - w_ps)), (.int (0 : Int32)), (.ref P), (.int w_ps), (.ref B)])) _
    refine st16 _ ?_
    refine XS.aloadN X16.here hx rfl (hb hby d13_159) rfl rfl ?_
    show Steps p.tables e below (T16.setTop (mkF m 160 #[.val (.ref vr0), .val (.int (0 : Int32)), .val (.int (w_at - w_ps))] [(.ref vr0)])) _
    refine st17 _ ?_
    refine XS.aloadN X17.here hx rfl (hb hby d13_163) rfl rfl ?_
    show Steps p.tables e below (T17.setTop (mkF m 164 #[.val (.ref vr0), .val (.int (0 : Int32)), .val (.int (w_at - w_ps))] [(.ref vr0), (.ref EN)])) _
    refine st18 _ ?_
    refine XS.iloadN X18.here hx rfl (hb hby d13_167) rfl ?_
    show Steps p.tables e below (T18.setTop (mkF m 168 #[.val (.ref vr0), .val (.int (0 : Int32)), .val (.int (w_at - w_ps))] [(.int (0 : Int32)), (.int (0 : Int32)), (.ref EN)])) _
    refine XS.iloadN X18.here hx rfl (hb hby d13_168) rfl ?_
    refine XS.iadd X18.here hx rfl (hb hby d13_169) rfl ?_
    show Steps p.tables e below (T18.setTop (mkF m 170 #[.val (.ref vr0), .val (.int (0 : Int32)), .val (.int (w_at - w_ps))] [(.int ((0 : Int32) + (w_at - w_ps))), (.int (0 : Int32)), (.ref EN)])) _
    refine st19 _ ?_
    exact X19.returnOut hx Bd.returns (hb hby d13_171) hr
  · show Q13_e0t Z vr0 B w_at u_end P EN TG u_shapeReader w_ps kE pn kP vP kB vB kT en0 en1 en2 tg0 tg1 h0 n0 _ T19.heap _
    rw [e19]
    exact ⟨P, kP, pn, ((vP).take ((0 : Int32)).toNatClampNeg ++ ((List.range ((w_at - w_ps)).toNatClampNeg).map fun i => (vB).getD ((w_ps).toNatClampNeg + i) (.int (0 : Int32))) ++ (vP).drop (((0 : Int32)).toNatClampNeg + ((w_at - w_ps)).toNatClampNeg)), rfl, N19, K19, (((F_bytes_vr0.other W6 (Or.inr (sl_78 hw))).keep p16_0 (ninS (Ne.symm ne_P_vr0) nin0)).other W19 (Or.inl (Ne.symm ne_EN_vr0))), (((F_at_vr0.other W6 (Or.inr (sl_72 hw))).keep p16_0 (ninS (Ne.symm ne_P_vr0) nin0)).other W19 (Or.inl (Ne.symm ne_EN_vr0))), (((F_end_vr0.other W6 (Or.inr (sl_83 hw))).keep p16_0 (ninS (Ne.symm ne_P_vr0) nin0)).other W19 (Or.inl (Ne.symm ne_EN_vr0))), (((F_parts_vr0.other W6 (Or.inr (sl_87 hw))).keep p16_0 (ninS (Ne.symm ne_P_vr0) nin0)).other W19 (Or.inl (Ne.symm ne_EN_vr0))), (((F_partEnds_vr0.other W6 (Or.inr (sl_91 hw))).keep p16_0 (ninS (Ne.symm ne_P_vr0) nin0)).other W19 (Or.inl (Ne.symm ne_EN_vr0))), (((F_tags_vr0.other W6 (Or.inr (sl_95 hw))).keep p16_0 (ninS (Ne.symm ne_P_vr0) nin0)).other W19 (Or.inl (Ne.symm ne_EN_vr0))), (((F_shapeReader_vr0.other W6 (Or.inr (sl_98 hw))).keep p16_0 (ninS (Ne.symm ne_P_vr0) nin0)).other W19 (Or.inl (Ne.symm ne_EN_vr0))), (((F_values_vr0.other W6 (Or.inr (sl_100 hw))).keep p16_0 (ninS (Ne.symm ne_P_vr0) nin0)).other W19 (Or.inl (Ne.symm ne_EN_vr0))), ((Fw6.keep p16_0 (ninS (Ne.symm ne_P_vr0) nin0)).other W19 (Or.inl (Ne.symm ne_EN_vr0))), (((F_partStart_vr0.other W6 (Or.inr (sl_75 hw))).keep p16_0 (ninS (Ne.symm ne_P_vr0) nin0)).other W19 (Or.inl (Ne.symm ne_EN_vr0))), V_EN_19, (V16.other W19 ne_P_EN), ((own_len own_ul hl16).trans hvP), hp1, hp2, g_P, (Or.inl rfl), ne_P_vr0, ne_P_EN, ne_P_B, ne_P_TG⟩
def QE0 (Z : State) (vr0 : Addr) (B : Addr) (w_at : Int32) (u_end : Value) (P : Addr) (EN : Addr) (TG : Addr) (u_shapeReader : Value) (w_ps : Int32) (kE : ClassId) (pn : Int32) (kP : ClassId) (vP : List Value) (kB : ClassId) (vB : List Value) (kT : ClassId) (en0 : Int32) (en1 : Int32) (en2 : Int32) (tg0 : Value) (tg1 : Value) (h0 : Heap) (n0 : Nat) (v : Option Value) (h : Heap) (L : List Loc) : Prop := ∃ p2 : Addr, ∃ k2 : ClassId, ∃ n2 : Int32, ∃ v2 : List Value, v = none ∧ Fr n0 L ∧ Keep h0 h [vr0, P, EN] ∧ Fld Z h vr0 "com/example/careful_ledger/carefulledger/json/PlainLine" "bytes" "[B" (.ref B) ∧ Fld Z h vr0 "com/example/careful_ledger/carefulledger/json/PlainLine" "at" "I" (.int w_at) ∧ Fld Z h vr0 "com/example/careful_ledger/carefulledger/json/PlainLine" "end" "I" u_end ∧ Fld Z h vr0 "com/example/careful_ledger/carefulledger/json/PlainLine" "parts" "[B" (.ref p2) ∧ Fld Z h vr0 "com/example/careful_ledger/carefulledger/json/PlainLine" "partEnds" "[I" (.ref EN) ∧ Fld Z h vr0 "com/example/careful_ledger/carefulledger/json/PlainLine" "tags" "[Ljava/lang/Object;" (.ref TG) ∧ Fld Z h vr0 "com/example/careful_ledger/carefulledger/json/PlainLine" "shapeReader" "Ljava/lang/Object;" u_shapeReader ∧ Fld Z h vr0 "com/example/careful_ledger/carefulledger/json/PlainLine" "values" "I" (.int (0 : Int32)) ∧ Fld Z h vr0 "com/example/careful_ledger/carefulledger/json/PlainLine" "learning" "Z" (.int (1 : Int32)) ∧ Fld Z h vr0 "com/example/careful_ledger/carefulledger/json/PlainLine" "partStart" "I" (.int w_ps) ∧ Arv Z h EN kE .int (16 : Int32) [(.int ((0 : Int32) + (w_at - w_ps))), (.int en1), (.int en2)] (.int (0 : Int32)) ∧ Arv Z h p2 k2 .byte n2 v2 (.int (0 : Int32)) ∧ v2.length = n2.toNatClampNeg ∧ ¬ n2 < (64 : Int32) ∧ ¬ (4096 : Int32) < n2 ∧ n0 ≤ p2 ∧ (P = p2 ∨ h0.size ≤ p2) ∧ p2 ≠ vr0 ∧ p2 ≠ EN ∧ p2 ≠ B ∧ p2 ≠ TG
set_option maxRecDepth 65536 in
set_option maxHeartbeats 4000000 in
theorem rmE0 (l : Launch) (Z : State) (a0 : Array Value) (hw : ∀ d ∈ tables_1, d.before a0 Z = true) (ws : List Jvm.Cond) (vr0 : Addr) (B : Addr) (w_at : Int32) (u_end : Value) (P : Addr) (EN : Addr) (TG : Addr) (u_shapeReader : Value) (w_ps : Int32) (kE : ClassId) (pn : Int32) (kP : ClassId) (vP : List Value) (kB : ClassId) (vB : List Value) (kT : ClassId) (en0 : Int32) (en1 : Int32) (en2 : Int32) (tg0 : Value) (tg1 : Value) (h0 : Heap) (n0 : Nat) (Z0 : n0 ≤ h0.size) (E_vr0 : Exa Z h0 vr0 "com/example/careful_ledger/carefulledger/json/PlainLine") (F_bytes_vr0 : Fld Z h0 vr0 "com/example/careful_ledger/carefulledger/json/PlainLine" "bytes" "[B" (.ref B)) (F_at_vr0 : Fld Z h0 vr0 "com/example/careful_ledger/carefulledger/json/PlainLine" "at" "I" (.int w_at)) (F_end_vr0 : Fld Z h0 vr0 "com/example/careful_ledger/carefulledger/json/PlainLine" "end" "I" u_end) (F_parts_vr0 : Fld Z h0 vr0 "com/example/careful_ledger/carefulledger/json/PlainLine" "parts" "[B" (.ref P)) (F_partEnds_vr0 : Fld Z h0 vr0 "com/example/careful_ledger/carefulledger/json/PlainLine" "partEnds" "[I" (.ref EN)) (F_tags_vr0 : Fld Z h0 vr0 "com/example/careful_ledger/carefulledger/json/PlainLine" "tags" "[Ljava/lang/Object;" (.ref TG)) (F_shapeReader_vr0 : Fld Z h0 vr0 "com/example/careful_ledger/carefulledger/json/PlainLine" "shapeReader" "Ljava/lang/Object;" u_shapeReader) (F_values_vr0 : Fld Z h0 vr0 "com/example/careful_ledger/carefulledger/json/PlainLine" "values" "I" (.int (0 : Int32))) (F_learning_vr0 : Fld Z h0 vr0 "com/example/careful_ledger/carefulledger/json/PlainLine" "learning" "Z" (.int (1 : Int32))) (F_partStart_vr0 : Fld Z h0 vr0 "com/example/careful_ledger/carefulledger/json/PlainLine" "partStart" "I" (.int w_ps)) (V_EN : Arv Z h0 EN kE .int (16 : Int32) [(.int en0), (.int en1), (.int en2)] (.int (0 : Int32))) (V_P : Arv Z h0 P kP .byte pn vP (.int (0 : Int32))) (V_B : Arv Z h0 B kB .byte (6144 : Int32) vB (.int (0 : Int32))) (V_TG : Arv Z h0 TG kT (.object "java/lang/Object") (16 : Int32) [tg0, tg1] .null) (hvP : vP.length = pn.toNatClampNeg) (hp1 : ¬ pn < (64 : Int32)) (hp2 : ¬ (4096 : Int32) < pn) (g_vr0 : n0 ≤ vr0) (g_P : n0 ≤ P) (g_EN : n0 ≤ EN) (g_TG : n0 ≤ TG) (ne_P_vr0 : P ≠ vr0) (ne_EN_vr0 : EN ≠ vr0) (ne_TG_vr0 : TG ≠ vr0) (ne_B_vr0 : B ≠ vr0) (ne_P_EN : P ≠ EN) (ne_P_TG : P ≠ TG) (ne_P_B : P ≠ B) (ne_EN_TG : EN ≠ TG) (ne_EN_B : EN ≠ B) (ne_TG_B : TG ≠ B) (OvT : Ovr Z kT "java/lang/Object") (lq1 : ¬ w_ps < 0) (lq2 : ¬ (0 : Int32) < 0) (lq3 : ¬ (w_at - w_ps) < 0) (lq4 : w_ps.toNatClampNeg + (w_at - w_ps).toNatClampNeg ≤ (6144 : Int32).toNatClampNeg) (lq5 : (0 : Int32).toNatClampNeg + (w_at - w_ps).toNatClampNeg ≤ ((0 : Int32) + (w_at - w_ps)).toNatClampNeg) (lq6 : ¬ ((0 : Int32) + (w_at - w_ps)) < 0) (hc54 : ¬ ((4096 : Int32) < ((0 : Int32) + (w_at - w_ps)))) :
    MetFree l (⟨"com/example/careful_ledger/carefulledger/json/PlainLine", "endPart", "()V"⟩ : MethodName) (head1 (Jvm.Cond.code (⟨"com/example/careful_ledger/carefulledger/json/PlainLine", "endPart", "()V"⟩ : MethodName) prog_58_method_12_code 3 none :: ws) ({ frames := 2, cells := 1, slots := 4096, locals := 33 } : Room)) (fun a U => a = #[(.ref vr0)] ∧ Z.Warmed39 U.vm ∧ U.heap = h0) (fun _ _ _ _ _ => True) (fun _ U o U' => ∃ v L, o = .returned v ∧ QE0 Z vr0 B w_at u_end P EN TG u_shapeReader w_ps kE pn kP vP kB vB kT en0 en1 en2 tg0 tg1 h0 n0 v U'.heap L ∧ FrameEnd U o U' L ({ frames := 2, cells := 1, slots := 4096, locals := 33 } : Room).cells ({ frames := 2, cells := 1, slots := 4096, locals := 33 } : Room).slots) := by
  by_cases hc80 : pn < ((0 : Int32) + (w_at - w_ps))
  · exact rm13_e0f l Z a0 hw ws vr0 B w_at u_end P EN TG u_shapeReader w_ps kE pn kP vP kB vB kT en0 en1 en2 tg0 tg1 h0 n0 Z0 E_vr0 F_bytes_vr0 F_at_vr0 F_end_vr0 F_parts_vr0 F_partEnds_vr0 F_tags_vr0 F_shapeReader_vr0 F_values_vr0 F_learning_vr0 F_partStart_vr0 V_EN V_P V_B V_TG hvP hp1 hp2 g_vr0 g_P g_EN g_TG ne_P_vr0 ne_EN_vr0 ne_TG_vr0 ne_B_vr0 ne_P_EN ne_P_TG ne_P_B ne_EN_TG ne_EN_B ne_TG_B OvT lq1 lq2 lq3 lq4 lq5 lq6 hc54 hc80
  · exact rm13_e0t l Z a0 hw ws vr0 B w_at u_end P EN TG u_shapeReader w_ps kE pn kP vP kB vB kT en0 en1 en2 tg0 tg1 h0 n0 Z0 E_vr0 F_bytes_vr0 F_at_vr0 F_end_vr0 F_parts_vr0 F_partEnds_vr0 F_tags_vr0 F_shapeReader_vr0 F_values_vr0 F_learning_vr0 F_partStart_vr0 V_EN V_P V_B V_TG hvP hp1 hp2 g_vr0 g_P g_EN g_TG ne_P_vr0 ne_EN_vr0 ne_TG_vr0 ne_B_vr0 ne_P_EN ne_P_TG ne_P_B ne_EN_TG ne_EN_B ne_TG_B OvT lq1 lq2 lq3 lq4 lq5 lq6 hc54 hc80
theorem d13_61 : decode prog_58_method_12_code 61 = .ok (.iconst 0, 1) := by decide +kernel
theorem ef_13_ov0 (m : MethodId) (x0 : Addr) : entryFrame m #[(.ref x0)] 3 = mkF m 0 #[.val (.ref x0), .unset, .unset] [] := by first | (simp [entryFrame, mkF, argsToLocals, Value.category]; done) | rfl
def Q13_ov0 (Z : State) (vr0 : Addr) (B : Addr) (w_at : Int32) (u_end : Value) (P : Addr) (EN : Addr) (TG : Addr) (u_shapeReader : Value) (w_ps : Int32) (kE : ClassId) (pn : Int32) (kP : ClassId) (vP : List Value) (kB : ClassId) (vB : List Value) (kT : ClassId) (en0 : Int32) (en1 : Int32) (en2 : Int32) (tg0 : Value) (tg1 : Value) (h0 : Heap) (n0 : Nat) (v : Option Value) (h : Heap) (L : List Loc) : Prop := v = none ∧ Fr n0 L ∧ Keep h0 h [vr0] ∧ Fld Z h vr0 "com/example/careful_ledger/carefulledger/json/PlainLine" "bytes" "[B" (.ref B) ∧ Fld Z h vr0 "com/example/careful_ledger/carefulledger/json/PlainLine" "at" "I" (.int w_at) ∧ Fld Z h vr0 "com/example/careful_ledger/carefulledger/json/PlainLine" "end" "I" u_end ∧ Fld Z h vr0 "com/example/careful_ledger/carefulledger/json/PlainLine" "parts" "[B" (.ref P) ∧ Fld Z h vr0 "com/example/careful_ledger/carefulledger/json/PlainLine" "partEnds" "[I" (.ref EN) ∧ Fld Z h vr0 "com/example/careful_ledger/carefulledger/json/PlainLine" "tags" "[Ljava/lang/Object;" (.ref TG) ∧ Fld Z h vr0 "com/example/careful_ledger/carefulledger/json/PlainLine" "shapeReader" "Ljava/lang/Object;" u_shapeReader ∧ Fld Z h vr0 "com/example/careful_ledger/carefulledger/json/PlainLine" "values" "I" (.int (0 : Int32)) ∧ Fld Z h vr0 "com/example/careful_ledger/carefulledger/json/PlainLine" "learning" "Z" (.int (0 : Int32)) ∧ Fld Z h vr0 "com/example/careful_ledger/carefulledger/json/PlainLine" "partStart" "I" (.int w_ps)
set_option maxRecDepth 65536 in
set_option maxHeartbeats 40000000 in
theorem rm13_ov0 (l : Launch) (Z : State) (a0 : Array Value) (hw : ∀ d ∈ tables_1, d.before a0 Z = true) (ws : List Jvm.Cond) (vr0 : Addr) (B : Addr) (w_at : Int32) (u_end : Value) (P : Addr) (EN : Addr) (TG : Addr) (u_shapeReader : Value) (w_ps : Int32) (kE : ClassId) (pn : Int32) (kP : ClassId) (vP : List Value) (kB : ClassId) (vB : List Value) (kT : ClassId) (en0 : Int32) (en1 : Int32) (en2 : Int32) (tg0 : Value) (tg1 : Value) (h0 : Heap) (n0 : Nat) (Z0 : n0 ≤ h0.size) (E_vr0 : Exa Z h0 vr0 "com/example/careful_ledger/carefulledger/json/PlainLine") (F_bytes_vr0 : Fld Z h0 vr0 "com/example/careful_ledger/carefulledger/json/PlainLine" "bytes" "[B" (.ref B)) (F_at_vr0 : Fld Z h0 vr0 "com/example/careful_ledger/carefulledger/json/PlainLine" "at" "I" (.int w_at)) (F_end_vr0 : Fld Z h0 vr0 "com/example/careful_ledger/carefulledger/json/PlainLine" "end" "I" u_end) (F_parts_vr0 : Fld Z h0 vr0 "com/example/careful_ledger/carefulledger/json/PlainLine" "parts" "[B" (.ref P)) (F_partEnds_vr0 : Fld Z h0 vr0 "com/example/careful_ledger/carefulledger/json/PlainLine" "partEnds" "[I" (.ref EN)) (F_tags_vr0 : Fld Z h0 vr0 "com/example/careful_ledger/carefulledger/json/PlainLine" "tags" "[Ljava/lang/Object;" (.ref TG)) (F_shapeReader_vr0 : Fld Z h0 vr0 "com/example/careful_ledger/carefulledger/json/PlainLine" "shapeReader" "Ljava/lang/Object;" u_shapeReader) (F_values_vr0 : Fld Z h0 vr0 "com/example/careful_ledger/carefulledger/json/PlainLine" "values" "I" (.int (0 : Int32))) (F_learning_vr0 : Fld Z h0 vr0 "com/example/careful_ledger/carefulledger/json/PlainLine" "learning" "Z" (.int (1 : Int32))) (F_partStart_vr0 : Fld Z h0 vr0 "com/example/careful_ledger/carefulledger/json/PlainLine" "partStart" "I" (.int w_ps)) (V_EN : Arv Z h0 EN kE .int (16 : Int32) [(.int en0), (.int en1), (.int en2)] (.int (0 : Int32))) (V_P : Arv Z h0 P kP .byte pn vP (.int (0 : Int32))) (V_B : Arv Z h0 B kB .byte (6144 : Int32) vB (.int (0 : Int32))) (V_TG : Arv Z h0 TG kT (.object "java/lang/Object") (16 : Int32) [tg0, tg1] .null) (hvP : vP.length = pn.toNatClampNeg) (hp1 : ¬ pn < (64 : Int32)) (hp2 : ¬ (4096 : Int32) < pn) (g_vr0 : n0 ≤ vr0) (g_P : n0 ≤ P) (g_EN : n0 ≤ EN) (g_TG : n0 ≤ TG) (ne_P_vr0 : P ≠ vr0) (ne_EN_vr0 : EN ≠ vr0) (ne_TG_vr0 : TG ≠ vr0) (ne_B_vr0 : B ≠ vr0) (ne_P_EN : P ≠ EN) (ne_P_TG : P ≠ TG) (ne_P_B : P ≠ B) (ne_EN_TG : EN ≠ TG) (ne_EN_B : EN ≠ B) (ne_TG_B : TG ≠ B) (OvT : Ovr Z kT "java/lang/Object") (hc54 : (4096 : Int32) < ((0 : Int32) + (w_at - w_ps))) :
    MetFree l (⟨"com/example/careful_ledger/carefulledger/json/PlainLine", "endPart", "()V"⟩ : MethodName) (head1 (Jvm.Cond.code (⟨"com/example/careful_ledger/carefulledger/json/PlainLine", "endPart", "()V"⟩ : MethodName) prog_58_method_12_code 3 none :: ws) ({ frames := 0, cells := 0, slots := 0, locals := 0 } : Room)) (fun a U => a = #[(.ref vr0)] ∧ Z.Warmed39 U.vm ∧ U.heap = h0) (fun _ _ _ _ _ => True) (fun _ U o U' => ∃ v L, o = .returned v ∧ Q13_ov0 Z vr0 B w_at u_end P EN TG u_shapeReader w_ps kE pn kP vP kB vB kT en0 en1 en2 tg0 tg1 h0 n0 v U'.heap L ∧ FrameEnd U o U' L ({ frames := 0, cells := 0, slots := 0, locals := 0 } : Room).cells ({ frames := 0, cells := 0, slots := 0, locals := 0 } : Room).slots) := by
  refine MetFree.of_bodySF (plainFor_of_name pn_com_example_careful_ledger_carefulledger_json_PlainLine) hisR ?_
  intro p e s m args below meth c s₁ Bd hml0 hP hK
  obtain ⟨rfl, hZ, hh⟩ := hP
  have hx := Bd.exec
  have hby := Bd.bytes
  have hml : c.maxLocals = 3 := hml0
  have hown : s.vm.findClass "com/example/careful_ledger/carefulledger/json/PlainLine" = some m.cls := findClass_of_methodNamed Bd.named
  have hnm := (name_of_methodNamed Bd.named Bd.method).1
  have X0 : Stand p l e ({ frames := 0, cells := 0, slots := 0, locals := 0 } : Room) s m #[(.ref vr0)] below meth c s₁ [] 0 0 := Stand.of_body Bd
  have e0 : s₁.heap = h0 := by rw [← hh, Bd.state]; rfl
  have N0 := Fr.nil n0
  have pre0 : ∀ t, Steps p.tables e below (s₁.setTop (mkF m 0 #[.val (.ref vr0), .unset, .unset] [])) t → Steps p.tables e below (s₁.setTop (entryFrame m #[(.ref vr0)] 3)) t := fun t k => castTop (ef_13_ov0 m vr0) k
  obtain ⟨T1, X1, e1, st1⟩ := getF X0 hx hZ hown (host := "") (Or.inl (wd_80 hw)) Via.refl e0 F_learning_vr0 (g := (mkF m 1 #[.val (.ref vr0), .unset, .unset] [(.ref vr0)])) rfl rfl (hb hby d13_1)
  obtain ⟨T2, X2, e2, st2⟩ := getF X1 hx hZ hown (host := "") (Or.inl (wd_78 hw)) Via.refl e1 F_values_vr0 (g := (mkF m 8 #[.val (.ref vr0), .unset, .unset] [(.ref vr0)])) rfl rfl (hb hby d13_8)
  obtain ⟨T3, X3, e3, st3⟩ := getF X2 hx hZ hown (host := "") (Or.inl (wd_67 hw)) Via.refl e2 F_at_vr0 (g := (mkF m 31 #[.val (.ref vr0), .val (.int (0 : Int32)), .unset] [(.ref vr0)])) rfl rfl (hb hby d13_31)
  obtain ⟨T4, X4, e4, st4⟩ := getF X3 hx hZ hown (host := "") (Or.inl (wd_82 hw)) Via.refl e3 F_partStart_vr0 (g := (mkF m 35 #[.val (.ref vr0), .val (.int (0 : Int32)), .unset] [(.ref vr0), (.int w_at)])) rfl rfl (hb hby d13_35)
  obtain ⟨T5, X5, e5, st5⟩ := getF X4 hx hZ hown (host := "") (Or.inl (wd_80 hw)) Via.refl e4 F_learning_vr0 (g := (mkF m 42 #[.val (.ref vr0), .val (.int (0 : Int32)), .val (.int (w_at - w_ps))] [(.ref vr0), (.ref vr0)])) rfl rfl (hb hby d13_42)
  obtain ⟨T6, h6, X6, e6, W6, st6⟩ := putFN X5 hx hZ hown (wd_80 hw) Via.refl e5 F_learning_vr0 E_vr0 (Or.inl (wd_81 hw)) (wd_32 hw) (ty := .boolean) (v := (.int (0 : Int32))) (v' := (.int (0 : Int32))) (by decide) rfl (by decide) (g := (mkF m 62 #[.val (.ref vr0), .val (.int (0 : Int32)), .val (.int (w_at - w_ps))] [(.int (0 : Int32)), (.ref vr0)])) rfl rfl (hb hby d13_62)
  have Fw6 := F_learning_vr0.same W6
  have N6 := Fr.snoc X6 N0 g_vr0
  have K6 : Keep h0 h6 [vr0] := (Keep.refl h0 [vr0]).wr W6 (Or.inl (List.mem_of_getElem? (i := 0) rfl))
  obtain ⟨T7, X7, e7, st7⟩ := getF X6 hx hZ hown (host := "") (Or.inl (wd_80 hw)) Via.refl e6 Fw6 (g := (mkF m 66 #[.val (.ref vr0), .val (.int (0 : Int32)), .val (.int (w_at - w_ps))] [(.ref vr0)])) rfl rfl (hb hby d13_66)
  obtain ⟨fs, hr, hrun, hended, hW, hsame⟩ := X7.leave (v := none) (fun _ => rfl)
  refine ⟨_, _, pre0 _ ?_, hrun, hended, _, _, rfl, ?_, ⟨_, rfl⟩, hW, hsame.mono (by decide) (by decide)⟩
  · show Steps p.tables e below (s₁.setTop (mkF m 0 #[.val (.ref vr0), .unset, .unset] [])) _
    refine XS.aloadN X0.here hx rfl (hb hby d13_0) rfl rfl ?_
    show Steps p.tables e below (s₁.setTop (mkF m 1 #[.val (.ref vr0), .unset, .unset] [(.ref vr0)])) _
    refine st1 _ ?_
    show Steps p.tables e below (T1.setTop (mkF m 4 #[.val (.ref vr0), .unset, .unset] [(.int (1 : Int32))])) _
    refine XS.ifNo X1.here hx rfl (hb hby d13_4) rfl ((if0 _ _).trans (feq (by decide : ¬ ((1 : Int32) = (0 : Int32)))).1) ?_
    refine XS.aloadN X1.here hx rfl (hb hby d13_7) rfl rfl ?_
    show Steps p.tables e below (T1.setTop (mkF m 8 #[.val (.ref vr0), .unset, .unset] [(.ref vr0)])) _
    refine st2 _ ?_
    show Steps p.tables e below (T2.setTop (mkF m 11 #[.val (.ref vr0), .unset, .unset] [(.int (0 : Int32))])) _
    refine XS.ifYes X2.here hx rfl (pc0 := 11) (pc' := 28) rfl (hb hby d13_11) rfl ((if0 _ _).trans (flt (by decide : ¬ ((0 : Int32) < (0 : Int32)))).2.2.2) (by decide) (by decide) ?_
    refine XS.iconst X2.here hx rfl (hb hby d13_28) ?_
    refine XS.istoreN X2.here hx rfl (hb hby d13_29) rfl (l' := #[.val (.ref vr0), .val (.int (0 : Int32)), .unset]) rfl ?_
    show Steps p.tables e below (T2.setTop (mkF m 30 #[.val (.ref vr0), .val (.int (0 : Int32)), .unset] [])) _
    refine XS.aloadN X2.here hx rfl (hb hby d13_30) rfl rfl ?_
    show Steps p.tables e below (T2.setTop (mkF m 31 #[.val (.ref vr0), .val (.int (0 : Int32)), .unset] [(.ref vr0)])) _
    refine st3 _ ?_
    refine XS.aloadN X3.here hx rfl (hb hby d13_34) rfl rfl ?_
    show Steps p.tables e below (T3.setTop (mkF m 35 #[.val (.ref vr0), .val (.int (0 : Int32)), .unset] [(.ref vr0), (.int w_at)])) _
    refine st4 _ ?_
    show Steps p.tables e below (T4.setTop (mkF m 38 #[.val (.ref vr0), .val (.int (0 : Int32)), .unset] [(.int w_ps), (.int w_at)])) _
    refine XS.isub X4.here hx rfl (hb hby d13_38) rfl ?_
    refine XS.istoreN X4.here hx rfl (hb hby d13_39) rfl (l' := #[.val (.ref vr0), .val (.int (0 : Int32)), .val (.int (w_at - w_ps))]) rfl ?_
    refine XS.aloadN X4.here hx rfl (hb hby d13_40) rfl rfl ?_
    refine XS.aloadN X4.here hx rfl (hb hby d13_41) rfl rfl ?_
    show Steps p.tables e below (T4.setTop (mkF m 42 #[.val (.ref vr0), .val (.int (0 : Int32)), .val (.int (w_at - w_ps))] [(.ref vr0), (.ref vr0)])) _
    refine st5 _ ?_
    show Steps p.tables e below (T5.setTop (mkF m 45 #[.val (.ref vr0), .val (.int (0 : Int32)), .val (.int (w_at - w_ps))] [(.int (1 : Int32)), (.ref vr0)])) _
    refine XS.ifNo X5.here hx rfl (hb hby d13_45) rfl ((if0 _ _).trans (feq (by decide : ¬ ((1 : Int32) = (0 : Int32)))).1) ?_
    refine XS.iloadN X5.here hx rfl (hb hby d13_48) rfl ?_
    refine XS.iloadN X5.here hx rfl (hb hby d13_49) rfl ?_
    show Steps p.tables e below (T5.setTop (mkF m 50 #[.val (.ref vr0), .val (.int (0 : Int32)), .val (.int (w_at - w_ps))] [(.int (w_at - w_ps)), (.int (0 : Int32)), (.ref vr0)])) _
    refine XS.iadd X5.here hx rfl (hb hby d13_50) rfl ?_
    refine XS.sipush X5.here hx rfl (hb hby d13_51) ?_
    show Steps p.tables e below (T5.setTop (mkF m 54 #[.val (.ref vr0), .val (.int (0 : Int32)), .val (.int (w_at - w_ps))] [(.int (4096 : Int32)), (.int ((0 : Int32) + (w_at - w_ps))), (.ref vr0)])) _
    refine XS.icmpYes X5.here hx rfl (pc0 := 54) (pc' := 61) rfl (hb hby d13_54) rfl (tlt hc54).2.2.1 (by decide) (by decide) ?_
    refine XS.iconst X5.here hx rfl (hb hby d13_61) ?_
    show Steps p.tables e below (T5.setTop (mkF m 62 #[.val (.ref vr0), .val (.int (0 : Int32)), .val (.int (w_at - w_ps))] [(.int (0 : Int32)), (.ref vr0)])) _
    refine st6 _ ?_
    refine XS.aloadN X6.here hx rfl (hb hby d13_65) rfl rfl ?_
    show Steps p.tables e below (T6.setTop (mkF m 66 #[.val (.ref vr0), .val (.int (0 : Int32)), .val (.int (w_at - w_ps))] [(.ref vr0)])) _
    refine st7 _ ?_
    show Steps p.tables e below (T7.setTop (mkF m 69 #[.val (.ref vr0), .val (.int (0 : Int32)), .val (.int (w_at - w_ps))] [(.int (0 : Int32))])) _
    refine XS.ifYes X7.here hx rfl (pc0 := 69) (pc' := 171) rfl (hb hby d13_69) rfl ((if0 _ _).trans (teq (rfl : (0 : Int32) = (0 : Int32))).1) (by decide) (by decide) ?_
    show Steps p.tables e below (T7.setTop (mkF m 171 #[.val (.ref vr0), .val (.int (0 : Int32)), .val (.int (w_at - w_ps))] [])) _
    exact X7.returnOut hx Bd.returns (hb hby d13_171) hr
  · show Q13_ov0 Z vr0 B w_at u_end P EN TG u_shapeReader w_ps kE pn kP vP kB vB kT en0 en1 en2 tg0 tg1 h0 n0 _ T7.heap _
    rw [e7]
    exact ⟨rfl, N6, K6, (F_bytes_vr0.other W6 (Or.inr (sl_78 hw))), (F_at_vr0.other W6 (Or.inr (sl_72 hw))), (F_end_vr0.other W6 (Or.inr (sl_83 hw))), (F_parts_vr0.other W6 (Or.inr (sl_87 hw))), (F_partEnds_vr0.other W6 (Or.inr (sl_91 hw))), (F_tags_vr0.other W6 (Or.inr (sl_95 hw))), (F_shapeReader_vr0.other W6 (Or.inr (sl_98 hw))), (F_values_vr0.other W6 (Or.inr (sl_100 hw))), Fw6, (F_partStart_vr0.other W6 (Or.inr (sl_75 hw)))⟩
theorem d13_14 : decode prog_58_method_12_code 14 = .ok (.aload_n 0, 1) := by decide +kernel
theorem d13_15 : decode prog_58_method_12_code 15 = .ok (.getfield 25, 3) := by decide +kernel
theorem d13_18 : decode prog_58_method_12_code 18 = .ok (.aload_n 0, 1) := by decide +kernel
theorem d13_19 : decode prog_58_method_12_code 19 = .ok (.getfield 44, 3) := by decide +kernel
theorem d13_22 : decode prog_58_method_12_code 22 = .ok (.iconst 1, 1) := by decide +kernel
theorem d13_23 : decode prog_58_method_12_code 23 = .ok (.isub, 1) := by decide +kernel
theorem d13_24 : decode prog_58_method_12_code 24 = .ok (.iaload, 1) := by decide +kernel
theorem d13_25 : decode prog_58_method_12_code 25 = .ok (.goto 4, 3) := by decide +kernel
theorem ef_13_e1f (m : MethodId) (x0 : Addr) : entryFrame m #[(.ref x0)] 3 = mkF m 0 #[.val (.ref x0), .unset, .unset] [] := by first | (simp [entryFrame, mkF, argsToLocals, Value.category]; done) | rfl
def Q13_e1f (Z : State) (vr0 : Addr) (B : Addr) (w_at : Int32) (u_end : Value) (P : Addr) (EN : Addr) (TG : Addr) (u_shapeReader : Value) (w_ps : Int32) (kE : ClassId) (pn : Int32) (kP : ClassId) (vP : List Value) (kB : ClassId) (vB : List Value) (kT : ClassId) (en0 : Int32) (en1 : Int32) (en2 : Int32) (tg0 : Value) (tg1 : Value) (h0 : Heap) (n0 : Nat) (v : Option Value) (h : Heap) (L : List Loc) : Prop := ∃ p2 : Addr, ∃ k2 : ClassId, ∃ n2 : Int32, ∃ v2 : List Value, v = none ∧ Fr n0 L ∧ Keep h0 h [vr0, P, EN] ∧ Fld Z h vr0 "com/example/careful_ledger/carefulledger/json/PlainLine" "bytes" "[B" (.ref B) ∧ Fld Z h vr0 "com/example/careful_ledger/carefulledger/json/PlainLine" "at" "I" (.int w_at) ∧ Fld Z h vr0 "com/example/careful_ledger/carefulledger/json/PlainLine" "end" "I" u_end ∧ Fld Z h vr0 "com/example/careful_ledger/carefulledger/json/PlainLine" "parts" "[B" (.ref p2) ∧ Fld Z h vr0 "com/example/careful_ledger/carefulledger/json/PlainLine" "partEnds" "[I" (.ref EN) ∧ Fld Z h vr0 "com/example/careful_ledger/carefulledger/json/PlainLine" "tags" "[Ljava/lang/Object;" (.ref TG) ∧ Fld Z h vr0 "com/example/careful_ledger/carefulledger/json/PlainLine" "shapeReader" "Ljava/lang/Object;" u_shapeReader ∧ Fld Z h vr0 "com/example/careful_ledger/carefulledger/json/PlainLine" "values" "I" (.int (1 : Int32)) ∧ Fld Z h vr0 "com/example/careful_ledger/carefulledger/json/PlainLine" "learning" "Z" (.int (1 : Int32)) ∧ Fld Z h vr0 "com/example/careful_ledger/carefulledger/json/PlainLine" "partStart" "I" (.int w_ps) ∧ Arv Z h EN kE .int (16 : Int32) [(.int en0), (.int (en0 + (w_at - w_ps))), (.int en2)] (.int (0 : Int32)) ∧ Arv Z h p2 k2 .byte n2 v2 (.int (0 : Int32)) ∧ v2.length = n2.toNatClampNeg ∧ ¬ n2 < (64 : Int32) ∧ ¬ (4096 : Int32) < n2 ∧ n0 ≤ p2 ∧ (P = p2 ∨ h0.size ≤ p2) ∧ p2 ≠ vr0 ∧ p2 ≠ EN ∧ p2 ≠ B ∧ p2 ≠ TG
set_option maxRecDepth 65536 in
set_option maxHeartbeats 40000000 in
theorem rm13_e1f (l : Launch) (Z : State) (a0 : Array Value) (hw : ∀ d ∈ tables_1, d.before a0 Z = true) (ws : List Jvm.Cond) (vr0 : Addr) (B : Addr) (w_at : Int32) (u_end : Value) (P : Addr) (EN : Addr) (TG : Addr) (u_shapeReader : Value) (w_ps : Int32) (kE : ClassId) (pn : Int32) (kP : ClassId) (vP : List Value) (kB : ClassId) (vB : List Value) (kT : ClassId) (en0 : Int32) (en1 : Int32) (en2 : Int32) (tg0 : Value) (tg1 : Value) (h0 : Heap) (n0 : Nat) (Z0 : n0 ≤ h0.size) (E_vr0 : Exa Z h0 vr0 "com/example/careful_ledger/carefulledger/json/PlainLine") (F_bytes_vr0 : Fld Z h0 vr0 "com/example/careful_ledger/carefulledger/json/PlainLine" "bytes" "[B" (.ref B)) (F_at_vr0 : Fld Z h0 vr0 "com/example/careful_ledger/carefulledger/json/PlainLine" "at" "I" (.int w_at)) (F_end_vr0 : Fld Z h0 vr0 "com/example/careful_ledger/carefulledger/json/PlainLine" "end" "I" u_end) (F_parts_vr0 : Fld Z h0 vr0 "com/example/careful_ledger/carefulledger/json/PlainLine" "parts" "[B" (.ref P)) (F_partEnds_vr0 : Fld Z h0 vr0 "com/example/careful_ledger/carefulledger/json/PlainLine" "partEnds" "[I" (.ref EN)) (F_tags_vr0 : Fld Z h0 vr0 "com/example/careful_ledger/carefulledger/json/PlainLine" "tags" "[Ljava/lang/Object;" (.ref TG)) (F_shapeReader_vr0 : Fld Z h0 vr0 "com/example/careful_ledger/carefulledger/json/PlainLine" "shapeReader" "Ljava/lang/Object;" u_shapeReader) (F_values_vr0 : Fld Z h0 vr0 "com/example/careful_ledger/carefulledger/json/PlainLine" "values" "I" (.int (1 : Int32))) (F_learning_vr0 : Fld Z h0 vr0 "com/example/careful_ledger/carefulledger/json/PlainLine" "learning" "Z" (.int (1 : Int32))) (F_partStart_vr0 : Fld Z h0 vr0 "com/example/careful_ledger/carefulledger/json/PlainLine" "partStart" "I" (.int w_ps)) (V_EN : Arv Z h0 EN kE .int (16 : Int32) [(.int en0), (.int en1), (.int en2)] (.int (0 : Int32))) (V_P : Arv Z h0 P kP .byte pn vP (.int (0 : Int32))) (V_B : Arv Z h0 B kB .byte (6144 : Int32) vB (.int (0 : Int32))) (V_TG : Arv Z h0 TG kT (.object "java/lang/Object") (16 : Int32) [tg0, tg1] .null) (hvP : vP.length = pn.toNatClampNeg) (hp1 : ¬ pn < (64 : Int32)) (hp2 : ¬ (4096 : Int32) < pn) (g_vr0 : n0 ≤ vr0) (g_P : n0 ≤ P) (g_EN : n0 ≤ EN) (g_TG : n0 ≤ TG) (ne_P_vr0 : P ≠ vr0) (ne_EN_vr0 : EN ≠ vr0) (ne_TG_vr0 : TG ≠ vr0) (ne_B_vr0 : B ≠ vr0) (ne_P_EN : P ≠ EN) (ne_P_TG : P ≠ TG) (ne_P_B : P ≠ B) (ne_EN_TG : EN ≠ TG) (ne_EN_B : EN ≠ B) (ne_TG_B : TG ≠ B) (OvT : Ovr Z kT "java/lang/Object") (lq1 : ¬ w_ps < 0) (lq2 : ¬ en0 < 0) (lq3 : ¬ (w_at - w_ps) < 0) (lq4 : w_ps.toNatClampNeg + (w_at - w_ps).toNatClampNeg ≤ (6144 : Int32).toNatClampNeg) (lq5 : en0.toNatClampNeg + (w_at - w_ps).toNatClampNeg ≤ (en0 + (w_at - w_ps)).toNatClampNeg) (lq6 : ¬ (en0 + (w_at - w_ps)) < 0) (hc54 : ¬ ((4096 : Int32) < (en0 + (w_at - w_ps)))) (hc80 : pn < (en0 + (w_at - w_ps))) :
    MetFree l (⟨"com/example/careful_ledger/carefulledger/json/PlainLine", "endPart", "()V"⟩ : MethodName) (head1 (Jvm.Cond.code (⟨"com/example/careful_ledger/carefulledger/json/PlainLine", "endPart", "()V"⟩ : MethodName) prog_58_method_12_code 3 none :: ws) ({ frames := 2, cells := 1, slots := 4096, locals := 33 } : Room)) (fun a U => a = #[(.ref vr0)] ∧ Z.Warmed39 U.vm ∧ U.heap = h0) (fun _ _ _ _ _ => True) (fun _ U o U' => ∃ v L, o = .returned v ∧ Q13_e1f Z vr0 B w_at u_end P EN TG u_shapeReader w_ps kE pn kP vP kB vB kT en0 en1 en2 tg0 tg1 h0 n0 v U'.heap L ∧ FrameEnd U o U' L ({ frames := 2, cells := 1, slots := 4096, locals := 33 } : Room).cells ({ frames := 2, cells := 1, slots := 4096, locals := 33 } : Room).slots) := by
  refine MetFree.of_bodySF (plainFor_of_name pn_com_example_careful_ledger_carefulledger_json_PlainLine) hisR ?_
  intro p e s m args below meth c s₁ Bd hml0 hP hK
  obtain ⟨rfl, hZ, hh⟩ := hP
  have hx := Bd.exec
  have hby := Bd.bytes
  have hml : c.maxLocals = 3 := hml0
  have hown : s.vm.findClass "com/example/careful_ledger/carefulledger/json/PlainLine" = some m.cls := findClass_of_methodNamed Bd.named
  have hnm := (name_of_methodNamed Bd.named Bd.method).1
  have X0 : Stand p l e ({ frames := 2, cells := 1, slots := 4096, locals := 33 } : Room) s m #[(.ref vr0)] below meth c s₁ [] 0 0 := Stand.of_body Bd
  have e0 : s₁.heap = h0 := by rw [← hh, Bd.state]; rfl
  have N0 := Fr.nil n0
  have pre0 : ∀ t, Steps p.tables e below (s₁.setTop (mkF m 0 #[.val (.ref vr0), .unset, .unset] [])) t → Steps p.tables e below (s₁.setTop (entryFrame m #[(.ref vr0)] 3)) t := fun t k => castTop (ef_13_e1f m vr0) k
  obtain ⟨T1, X1, e1, st1⟩ := getF X0 hx hZ hown (host := "") (Or.inl (wd_80 hw)) Via.refl e0 F_learning_vr0 (g := (mkF m 1 #[.val (.ref vr0), .unset, .unset] [(.ref vr0)])) rfl rfl (hb hby d13_1)
  obtain ⟨T2, X2, e2, st2⟩ := getF X1 hx hZ hown (host := "") (Or.inl (wd_78 hw)) Via.refl e1 F_values_vr0 (g := (mkF m 8 #[.val (.ref vr0), .unset, .unset] [(.ref vr0)])) rfl rfl (hb hby d13_8)
  obtain ⟨T3, X3, e3, st3⟩ := getF X2 hx hZ hown (host := "") (Or.inl (wd_56 hw)) Via.refl e2 F_partEnds_vr0 (g := (mkF m 15 #[.val (.ref vr0), .unset, .unset] [(.ref vr0)])) rfl rfl (hb hby d13_15)
  obtain ⟨T4, X4, e4, st4⟩ := getF X3 hx hZ hown (host := "") (Or.inl (wd_78 hw)) Via.refl e3 F_values_vr0 (g := (mkF m 19 #[.val (.ref vr0), .unset, .unset] [(.ref vr0), (.ref EN)])) rfl rfl (hb hby d13_19)
  obtain ⟨cl5, Ar5, q5, Sz5, Ng5, Hh5, Gg5⟩ := (id V_EN)
  have hin5 : ¬ ((0 : Int32) < 0 ∨ cl5.slots.size ≤ ((0 : Int32)).toNatClampNeg) := inb_of Sz5 ⟨by decide, by decide⟩
  have hat5 : cl5.slots[((0 : Int32)).toNatClampNeg]? = some (.int en0) := Hh5.at hin5 rfl
  obtain ⟨T6, X6, e6, st6⟩ := getF X4 hx hZ hown (host := "") (Or.inl (wd_67 hw)) Via.refl e4 F_at_vr0 (g := (mkF m 31 #[.val (.ref vr0), .val (.int en0), .unset] [(.ref vr0)])) rfl rfl (hb hby d13_31)
  obtain ⟨T7, X7, e7, st7⟩ := getF X6 hx hZ hown (host := "") (Or.inl (wd_82 hw)) Via.refl e6 F_partStart_vr0 (g := (mkF m 35 #[.val (.ref vr0), .val (.int en0), .unset] [(.ref vr0), (.int w_at)])) rfl rfl (hb hby d13_35)
  obtain ⟨T8, X8, e8, st8⟩ := getF X7 hx hZ hown (host := "") (Or.inl (wd_80 hw)) Via.refl e7 F_learning_vr0 (g := (mkF m 42 #[.val (.ref vr0), .val (.int en0), .val (.int (w_at - w_ps))] [(.ref vr0), (.ref vr0)])) rfl rfl (hb hby d13_42)
  obtain ⟨T9, h9, X9, e9, W9, st9⟩ := putFN X8 hx hZ hown (wd_80 hw) Via.refl e8 F_learning_vr0 E_vr0 (Or.inl (wd_81 hw)) (wd_32 hw) (ty := .boolean) (v := (.int (1 : Int32))) (v' := (.int (1 : Int32))) (by decide) rfl (by decide) (g := (mkF m 62 #[.val (.ref vr0), .val (.int en0), .val (.int (w_at - w_ps))] [(.int (1 : Int32)), (.ref vr0)])) rfl rfl (hb hby d13_62)
  have Fw9 := F_learning_vr0.same W9
  have N9 := Fr.snoc X9 N0 g_vr0
  have K9 : Keep h0 h9 [vr0, P, EN] := (Keep.refl h0 [vr0, P, EN]).wr W9 (Or.inl (List.mem_of_getElem? (i := 0) rfl))
  obtain ⟨T10, X10, e10, st10⟩ := getF X9 hx hZ hown (host := "") (Or.inl (wd_80 hw)) Via.refl e9 Fw9 (g := (mkF m 66 #[.val (.ref vr0), .val (.int en0), .val (.int (w_at - w_ps))] [(.ref vr0)])) rfl rfl (hb hby d13_66)
  obtain ⟨T11, X11, e11, st11⟩ := getF X10 hx hZ hown (host := "") (Or.inl (wd_53 hw)) Via.refl e10 (F_parts_vr0.other W9 (Or.inr (sl_87 hw))) (g := (mkF m 76 #[.val (.ref vr0), .val (.int en0), .val (.int (w_at - w_ps))] [(.ref vr0), (.int (en0 + (w_at - w_ps)))])) rfl rfl (hb hby d13_76)
  obtain ⟨cl12, Ar12, -, Sz12, Ng12, -, -⟩ := (id (V_P.other W9 ne_P_vr0))
  obtain ⟨T13, X13, e13, st13⟩ := getF X11 hx hZ hown (host := "") (Or.inl (wd_53 hw)) Via.refl e11 (F_parts_vr0.other W9 (Or.inr (sl_87 hw))) (g := (mkF m 85 #[.val (.ref vr0), .val (.int en0), .val (.int (w_at - w_ps))] [(.ref vr0), (.ref vr0)])) rfl rfl (hb hby d13_85)
  obtain ⟨T14, X14, e14, st14⟩ := getF X13 hx hZ hown (host := "") (Or.inl (wd_53 hw)) Via.refl e13 (F_parts_vr0.other W9 (Or.inr (sl_87 hw))) (g := (mkF m 93 #[.val (.ref vr0), .val (.int en0), .val (.int (w_at - w_ps))] [(.ref vr0), (.int (2 : Int32)), (.int (en0 + (w_at - w_ps))), (.ref P), (.ref vr0)])) rfl rfl (hb hby d13_93)
  obtain ⟨cl15, Ar15, -, Sz15, Ng15, -, -⟩ := (id (V_P.other W9 ne_P_vr0))
  obtain ⟨_, _, ⟨T16, L16, k16, n16⟩, -, X16, ⟨Lc16, hQ16, l16, y16, z16⟩, st16⟩ := Jvm.LawKit.callS X14 hx (y := (⟨"java/lang/Math", "max", "(II)I"⟩ : MethodName)) hown (mvT hZ (wd_112 hw)) (mvT hZ (wd_113 hw)) (mvT hZ (wd_114 hw)) (mvT hZ (wd_115 hw)) (by decide) (backOf (W := 2) (rm_max l Z a0 hw [] (en0 + (w_at - w_ps)) ((2 : Int32) * pn) h9 n0 (Nat.le_trans Z0 (Keep.of_wr W9).1) ) hZ (wd_115 hw) (wd_114 hw) (by decide) (by decide)) (g := (mkF m 98 #[.val (.ref vr0), .val (.int en0), .val (.int (w_at - w_ps))] [(.int ((2 : Int32) * pn)), (.int (en0 + (w_at - w_ps))), (.ref P), (.ref vr0)])) rfl (by rw [hml]; rfl) (argsL := [(.int (en0 + (w_at - w_ps))), (.int ((2 : Int32) * pn))]) (rest := [(.ref P), (.ref vr0)]) (lenOf pd_11 rfl) rfl (by show 2 * 0 + _ ≤ _; exact Nat.le_of_eq rfl) (hb hby d13_98) (fun _ _ => ⟨rfl, e14, (by decide : 0 + 0 ≤ _), (by decide : 0 + 0 ≤ _)⟩)
  dsimp only [Pt.U, Pt.locs, Pt.cells, Pt.slots] at X16 l16 y16 z16 st16 hQ16
  subst l16 y16 z16
  obtain ⟨rfl, N16q, p16_0⟩ := hQ16
  have N16 := Fr.app N9 N16q
  have e16 : T16.heap = h9 := p16_0
  obtain ⟨_, _, ⟨T17, L17, k17, n17⟩, -, X17, ⟨Lc17, hQ17, l17, y17, z17⟩, st17⟩ := Jvm.LawKit.callS X16 hx (y := (⟨"java/lang/Math", "min", "(II)I"⟩ : MethodName)) hown (mvT hZ (wd_116 hw)) (mvT hZ (wd_117 hw)) (mvT hZ (wd_114 hw)) (mvT hZ (wd_118 hw)) (by decide) (backOf (W := 2) (rm_min l Z a0 hw [] (own_max (en0 + (w_at - w_ps)) ((2 : Int32) * pn)) (4096 : Int32) h9 n0 (Nat.le_trans Z0 (Keep.of_wr W9).1) ) hZ (wd_118 hw) (wd_114 hw) (by decide) (by decide)) (g := (mkF m 104 #[.val (.ref vr0), .val (.int en0), .val (.int (w_at - w_ps))] [(.int (4096 : Int32)), (.int (own_max (en0 + (w_at - w_ps)) ((2 : Int32) * pn))), (.ref P), (.ref vr0)])) rfl (by rw [hml]; rfl) (argsL := [(.int (own_max (en0 + (w_at - w_ps)) ((2 : Int32) * pn))), (.int (4096 : Int32))]) (rest := [(.ref P), (.ref vr0)]) (lenOf pd_11 rfl) rfl (by show 2 * 0 + _ ≤ _; exact Nat.le_of_eq rfl) (hb hby d13_104) (fun _ _ => ⟨rfl, e16, (by decide : 0 + 0 ≤ _), (by decide : 0 + 0 ≤ _)⟩)
  dsimp only [Pt.U, Pt.locs, Pt.cells, Pt.slots] at X17 l17 y17 z17 st17 hQ17
  subst l17 y17 z17
  obtain ⟨rfl, N17q, p17_0⟩ := hQ17
  have N17 := Fr.app N16 N17q
  have e17 : T17.heap = h9 := p17_0
  obtain ⟨_, _, ⟨T18, L18, k18, n18⟩, -, X18, ⟨Lc18, hQ18, l18, y18, z18⟩, st18⟩ := Jvm.LawKit.callS X17 hx (y := (⟨"java/util/Arrays", "copyOf", "([BI)[B"⟩ : MethodName)) hown (mvT hZ (wd_119 hw)) (mvT hZ (wd_120 hw)) (mvT hZ (wd_121 hw)) (mvT hZ (wd_122 hw)) (by decide) (backOf (W := 1) (rm18 l Z a0 hw [] P (own_min (own_max (en0 + (w_at - w_ps)) ((2 : Int32) * pn)) (4096 : Int32)) pn kP vP h9 n0 (Nat.le_trans Z0 (Keep.of_wr W9).1) (V_P.other W9 ne_P_vr0) (own_L hp1 hp2 hc80 hc54).1 (own_L hp1 hp2 hc80 hc54).2.1 (own_L hp1 hp2 hc80 hc54).2.2.1 (own_L hp1 hp2 hc80 hc54).2.2.2.1) hZ (wd_122 hw) (wd_121 hw) (by decide) (by decide)) (g := (mkF m 107 #[.val (.ref vr0), .val (.int en0), .val (.int (w_at - w_ps))] [(.int (own_min (own_max (en0 + (w_at - w_ps)) ((2 : Int32) * pn)) (4096 : Int32))), (.ref P), (.ref vr0)])) rfl (by rw [hml]; rfl) (argsL := [(.ref P), (.int (own_min (own_max (en0 + (w_at - w_ps)) ((2 : Int32) * pn)) (4096 : Int32)))]) (rest := [(.ref vr0)]) (lenOf pd_12 rfl) rfl (by show 2 * 0 + _ ≤ _; exact Nat.le_of_eq rfl) (hb hby d13_107) (fun _ _ => ⟨rfl, e17, (by decide : 0 + 1 ≤ _), (by decide : 0 + 4096 ≤ _)⟩)
  dsimp only [Pt.U, Pt.locs, Pt.cells, Pt.slots] at X18 l18 y18 z18 st18 hQ18
  subst l18 y18 z18
  obtain ⟨t18, kt18, vt18, rfl, N18q, p18_0, p18_1, p18_2, p18_3⟩ := hQ18
  have N18 := Fr.app N17 N18q
  have g_t18 : n0 ≤ t18 := Nat.le_trans (Nat.le_trans Z0 (Keep.of_wr W9).1) p18_1
  have sz_t18 : h0.size ≤ t18 := Nat.le_trans K9.1 p18_1
  have K18 : Keep h0 T18.heap [vr0, P, EN] := K9.trans p18_0 all0
  obtain ⟨T19, h19, X19, e19, W19, st19⟩ := putF X18 hx hZ hown (host := "") (Or.inl (wd_53 hw)) Via.refl rfl ((F_parts_vr0.other W9 (Or.inr (sl_87 hw))).keep p18_0 nin0) ((E_vr0.wr W9).keep p18_0) (Or.inl (wd_54 hw)) (wd_32 hw) (ty := (.array .byte)) (by decide) rfl rfl (g := (mkF m 110 #[.val (.ref vr0), .val (.int en0), .val (.int (w_at - w_ps))] [(.ref t18), (.ref vr0)])) rfl rfl (hb hby d13_110)
  have Fw19 := ((F_parts_vr0.other W9 (Or.inr (sl_87 hw))).keep p18_0 nin0).same W19
  have N19 := Fr.snoc X19 N18 g_vr0
  have K19 : Keep h0 h19 [vr0, P, EN] := K18.wr W19 (Or.inl (List.mem_of_getElem? (i := 0) rfl))
  obtain ⟨T20, X20, e20, st20⟩ := getF X19 hx hZ hown (host := "") (Or.inl (wd_78 hw)) Via.refl e19 (((F_values_vr0.other W9 (Or.inr (sl_100 hw))).keep p18_0 nin0).other W19 (Or.inr (sl_36 hw))) (g := (mkF m 114 #[.val (.ref vr0), .val (.int en0), .val (.int (w_at - w_ps))] [(.ref vr0)])) rfl rfl (hb hby d13_114)
  obtain ⟨T21, X21, e21, st21⟩ := getF X20 hx hZ hown (host := "") (Or.inl (wd_56 hw)) Via.refl e20 (((F_partEnds_vr0.other W9 (Or.inr (sl_91 hw))).keep p18_0 nin0).other W19 (Or.inr (sl_7 hw))) (g := (mkF m 118 #[.val (.ref vr0), .val (.int en0), .val (.int (w_at - w_ps))] [(.ref vr0), (.int (1 : Int32))])) rfl rfl (hb hby d13_118)
  obtain ⟨cl22, Ar22, -, Sz22, Ng22, -, -⟩ := (id (((V_EN.other W9 ne_EN_vr0).keep p18_0 nin0).other W19 ne_EN_vr0))
  obtain ⟨T23, X23, e23, st23⟩ := getF X21 hx hZ hown (host := "") (Or.inl (wd_38 hw)) Via.refl e21 (((F_bytes_vr0.other W9 (Or.inr (sl_78 hw))).keep p18_0 nin0).other W19 (Or.inr (sl_13 hw))) (g := (mkF m 143 #[.val (.ref vr0), .val (.int en0), .val (.int (w_at - w_ps))] [(.ref vr0)])) rfl rfl (hb hby d13_143)
  obtain ⟨T24, X24, e24, st24⟩ := getF X23 hx hZ hown (host := "") (Or.inl (wd_82 hw)) Via.refl e23 (((F_partStart_vr0.other W9 (Or.inr (sl_75 hw))).keep p18_0 nin0).other W19 (Or.inr (sl_46 hw))) (g := (mkF m 147 #[.val (.ref vr0), .val (.int en0), .val (.int (w_at - w_ps))] [(.ref vr0), (.ref B)])) rfl rfl (hb hby d13_147)
  obtain ⟨T25, X25, e25, st25⟩ := getF X24 hx hZ hown (host := "") (Or.inl (wd_53 hw)) Via.refl e24 Fw19 (g := (mkF m 151 #[.val (.ref vr0), .val (.int en0), .val (.int (w_at - w_ps))] [(.ref vr0), (.int w_ps), (.ref B)])) rfl rfl (hb hby d13_151)
  have hl26 : (en0).toNatClampNeg + ((w_at - w_ps)).toNatClampNeg ≤ (vt18).length := by rw [p18_3]; exact (Nat.le_trans lq5 (own_clamp lq6 (own_L hp1 hp2 hc80 hc54).2.2.2.2.1))
  obtain ⟨T26, h26, L26, X26, e26, N26, p26_0, V26, st26⟩ := cpA X25 hx hZ hown (wd_98 hw) (wd_101 hw) (wd_99 hw) (wd_100 hw) e25 (((V_B.other W9 ne_B_vr0).keep p18_0 nin0).other W19 ne_B_vr0) (p18_2.other W19 (Ne.symm (Nat.ne_of_lt (Nat.lt_of_lt_of_le (E_vr0.wr W9).lt p18_1)))) (Or.inl ⟨rfl, rfl⟩) lq1 lq2 lq3 lq4 (Nat.le_trans lq5 (own_clamp lq6 (own_L hp1 hp2 hc80 hc54).2.2.2.2.1)) (us := _) rfl hl26 N19 g_t18 (g := (mkF m 156 #[.val (.ref vr0), .val (.int en0), .val (.int (w_at - w_ps))] [(.int (w_at - w_ps)), (.int en0), (.ref t18), (.int w_ps), (.ref B)])) rfl (by rw [hml]; rfl) rfl (hb hby d13_156) (by decide) (W := 0) (by show 2 * 0 + _ ≤ _; exact Nat.le_of_eq rfl) (by decide)
  have K26 : Keep h0 h26 [vr0, P, EN] := K19.trans p26_0 (allS (Or.inr sz_t18) all0)
  obtain ⟨T27, X27, e27, st27⟩ := getF X26 hx hZ hown (host := "") (Or.inl (wd_56 hw)) Via.refl e26 ((((F_partEnds_vr0.other W9 (Or.inr (sl_91 hw))).keep p18_0 nin0).other W19 (Or.inr (sl_7 hw))).keep p26_0 (ninS (Nat.ne_of_lt (Nat.lt_of_lt_of_le (E_vr0.wr W9).lt p18_1)) nin0)) (g := (mkF m 160 #[.val (.ref vr0), .val (.int en0), .val (.int (w_at - w_ps))] [(.ref vr0)])) rfl rfl (hb hby d13_160)
  obtain ⟨T28, X28, e28, st28⟩ := getF X27 hx hZ hown (host := "") (Or.inl (wd_78 hw)) Via.refl e27 ((((F_values_vr0.other W9 (Or.inr (sl_100 hw))).keep p18_0 nin0).other W19 (Or.inr (sl_36 hw))).keep p26_0 (ninS (Nat.ne_of_lt (Nat.lt_of_lt_of_le (E_vr0.wr W9).lt p18_1)) nin0)) (g := (mkF m 164 #[.val (.ref vr0), .val (.int en0), .val (.int (w_at - w_ps))] [(.ref vr0), (.ref EN)])) rfl rfl (hb hby d13_164)
  obtain ⟨cl29, Ar29, q29, Sz29, Ng29, Hh29, Gg29⟩ := (id ((((V_EN.other W9 ne_EN_vr0).keep p18_0 nin0).other W19 ne_EN_vr0).keep p26_0 (ninS (Nat.ne_of_lt (Nat.lt_of_lt_of_le (V_EN.other W9 ne_EN_vr0).lt p18_1)) nin0)))
  have hin29 : ¬ ((1 : Int32) < 0 ∨ cl29.slots.size ≤ ((1 : Int32)).toNatClampNeg) := inb_of Sz29 ⟨by decide, by decide⟩
  obtain ⟨T29, h29, X29, e29, W29, st29⟩ := stI X28 hx hZ e28 Ar29 (j := (1 : Int32)) hin29 (g := (mkF m 170 #[.val (.ref vr0), .val (.int en0), .val (.int (w_at - w_ps))] [(.int (en0 + (w_at - w_ps))), (.int (1 : Int32)), (.ref EN)])) rfl rfl (hb hby d13_170)
  have V_EN_29 : Arv Z h29 EN kE .int (16 : Int32) [(.int en0), (.int (en0 + (w_at - w_ps))), (.int en2)] (.int (0 : Int32)) := Arv.set Ar29 q29 Sz29 Ng29 Hh29 Gg29 rfl W29 1 rfl (Nat.le_of_ble_eq_true rfl)
  have N29 := Fr.snoc X29 N26 g_EN
  have K29 : Keep h0 h29 [vr0, P, EN] := K26.wr W29 (Or.inl (List.mem_of_getElem? (i := 2) rfl))
  obtain ⟨fs, hr, hrun, hended, hW, hsame⟩ := X29.leave (v := none) (fun _ => rfl)
  refine ⟨_, _, pre0 _ ?_, hrun, hended, _, _, rfl, ?_, ⟨_, rfl⟩, hW, hsame.mono (by decide) (by decide)⟩
  · show Steps p.tables e below (s₁.setTop (mkF m 0 #[.val (.ref vr0), .unset, .unset] [])) _
    refine XS.aloadN X0.here hx rfl (hb hby d13_0) rfl rfl ?_
    show Steps p.tables e below (s₁.setTop (mkF m 1 #[.val (.ref vr0), .unset, .unset] [(.ref vr0)])) _
    refine st1 _ ?_
    show Steps p.tables e below (T1.setTop (mkF m 4 #[.val (.ref vr0), .unset, .unset] [(.int (1 : Int32))])) _
    refine XS.ifNo X1.here hx rfl (hb hby d13_4) rfl ((if0 _ _).trans (feq (by decide : ¬ ((1 : Int32) = (0 : Int32)))).1) ?_
    refine XS.aloadN X1.here hx rfl (hb hby d13_7) rfl rfl ?_
    show Steps p.tables e below (T1.setTop (mkF m 8 #[.val (.ref vr0), .unset, .unset] [(.ref vr0)])) _
    refine st2 _ ?_
    show Steps p.tables e below (T2.setTop (mkF m 11 #[.val (.ref vr0), .unset, .unset] [(.int (1 : Int32))])) _
    refine XS.ifNo X2.here hx rfl (hb hby d13_11) rfl ((if0 _ _).trans (tlt (by decide : (0 : Int32) < (1 : Int32))).2.2.2) ?_
    refine XS.aloadN X2.here hx rfl (hb hby d13_14) rfl rfl ?_
    show Steps p.tables e below (T2.setTop (mkF m 15 #[.val (.ref vr0), .unset, .unset] [(.ref vr0)])) _
    refine st3 _ ?_
    show Steps p.tables e below (T3.setTop (mkF m 18 #[.val (.ref vr0), .unset, .unset] [(.ref EN)])) _
    refine XS.aloadN X3.here hx rfl (hb hby d13_18) rfl rfl ?_
    show Steps p.tables e below (T3.setTop (mkF m 19 #[.val (.ref vr0), .unset, .unset] [(.ref vr0), (.ref EN)])) _
    refine st4 _ ?_
    refine XS.iconst X4.here hx rfl (hb hby d13_22) ?_
    refine XS.isub X4.here hx rfl (hb hby d13_23) rfl ?_
    show Steps p.tables e below (T4.setTop (mkF m 24 #[.val (.ref vr0), .unset, .unset] [(.int (0 : Int32)), (.ref EN)])) _
    refine X4.iaload hx (j := (0 : Int32)) (v := (.int en0)) (by rw [e4]; exact Ar5.1) (State.isArrayOf_alike hZ.alike Ar5.2.1) Ar5.2.2 hin5 hat5 (g := (mkF m 24 #[.val (.ref vr0), .unset, .unset] [(.int (0 : Int32)), (.ref EN)])) rfl rfl (hb hby d13_24) _ ?_
    refine XS.goto X4.here hx rfl (pc0 := 25) (pc' := 29) rfl (hb hby d13_25) (by decide) (by decide) ?_
    refine XS.istoreN X4.here hx rfl (hb hby d13_29) rfl (l' := #[.val (.ref vr0), .val (.int en0), .unset]) rfl ?_
    refine XS.aloadN X4.here hx rfl (hb hby d13_30) rfl rfl ?_
    show Steps p.tables e below (T4.setTop (mkF m 31 #[.val (.ref vr0), .val (.int en0), .unset] [(.ref vr0)])) _
    refine st6 _ ?_
    refine XS.aloadN X6.here hx rfl (hb hby d13_34) rfl rfl ?_
    show Steps p.tables e below (T6.setTop (mkF m 35 #[.val (.ref vr0), .val (.int en0), .unset] [(.ref vr0), (.int w_at)])) _
    refine st7 _ ?_
    refine XS.isub X7.here hx rfl (hb hby d13_38) rfl ?_
    show Steps p.tables e below (T7.setTop (mkF m 39 #[.val (.ref vr0), .val (.int en0), .unset] [(.int (w_at - w_ps))])) _
    refine XS.istoreN X7.here hx rfl (hb hby d13_39) rfl (l' := #[.val (.ref vr0), .val (.int en0), .val (.int (w_at - w_ps))]) rfl ?_
    refine XS.aloadN X7.here hx rfl (hb hby d13_40) rfl rfl ?_
    refine XS.aloadN X7.here hx rfl (hb hby d13_41) rfl rfl ?_
    show Steps p.tables e below (T7.setTop (mkF m 42 #[.val (.ref vr0), .val (.int en0), .val (.int (w_at - w_ps))] [(.ref vr0), (.ref vr0)])) _
    refine st8 _ ?_
    show Steps p.tables e below (T8.setTop (mkF m 45 #[.val (.ref vr0), .val (.int en0), .val (.int (w_at - w_ps))] [(.int (1 : Int32)), (.ref vr0)])) _
    refine XS.ifNo X8.here hx rfl (hb hby d13_45) rfl ((if0 _ _).trans (feq (by decide : ¬ ((1 : Int32) = (0 : Int32)))).1) ?_
    refine XS.iloadN X8.here hx rfl (hb hby d13_48) rfl ?_
    refine XS.iloadN X8.here hx rfl (hb hby d13_49) rfl ?_
    refine XS.iadd X8.here hx rfl (hb hby d13_50) rfl ?_
    show Steps p.tables e below (T8.setTop (mkF m 51 #[.val (.ref vr0), .val (.int en0), .val (.int (w_at - w_ps))] [(.int (en0 + (w_at - w_ps))), (.ref vr0)])) _
    refine XS.sipush X8.here hx rfl (hb hby d13_51) ?_
    show Steps p.tables e below (T8.setTop (mkF m 54 #[.val (.ref vr0), .val (.int en0), .val (.int (w_at - w_ps))] [(.int (4096 : Int32)), (.int (en0 + (w_at - w_ps))), (.ref vr0)])) _
    refine XS.icmpNo X8.here hx rfl (hb hby d13_54) rfl (flt hc54).2.2.1 ?_
    refine XS.iconst X8.here hx rfl (hb hby d13_57) ?_
    refine XS.goto X8.here hx rfl (pc0 := 58) (pc' := 62) rfl (hb hby d13_58) (by decide) (by decide) ?_
    show Steps p.tables e below (T8.setTop (mkF m 62 #[.val (.ref vr0), .val (.int en0), .val (.int (w_at - w_ps))] [(.int (1 : Int32)), (.ref vr0)])) _
    refine st9 _ ?_
    refine XS.aloadN X9.here hx rfl (hb hby d13_65) rfl rfl ?_
    show Steps p.tables e below (T9.setTop (mkF m 66 #[.val (.ref vr0), .val (.int en0), .val (.int (w_at - w_ps))] [(.ref vr0)])) _
    refine st10 _ ?_
    show Steps p.tables e below (T10.setTop (mkF m 69 #[.val (.ref vr0), .val (.int en0), .val (.int (w_at - w_ps))] [(.int (1 : Int32))])) _
    refine XS.ifNo X10.here hx rfl (hb hby d13_69) rfl ((if0 _ _).trans (feq (by decide : ¬ ((1 : Int32) = (0 : Int32)))).1) ?_
    show Steps p.tables e below (T10.setTop (mkF m 72 #[.val (.ref vr0), .val (.int en0), .val (.int (w_at - w_ps))] [])) _
    refine XS.iloadN X10.here hx rfl (hb hby d13_72) rfl ?_
    refine XS.iloadN X10.here hx rfl (hb hby d13_73) rfl ?_
    refine XS.iadd X10.here hx rfl (hb hby d13_74) rfl ?_
    refine XS.aloadN X10.here hx rfl (hb hby d13_75) rfl rfl ?_
    show Steps p.tables e below (T10.setTop (mkF m 76 #[.val (.ref vr0), .val (.int en0), .val (.int (w_at - w_ps))] [(.ref vr0), (.int (en0 + (w_at - w_ps)))])) _
    refine st11 _ ?_
    show Steps p.tables e below (T11.setTop (mkF m 79 #[.val (.ref vr0), .val (.int en0), .val (.int (w_at - w_ps))] [(.ref P), (.int (en0 + (w_at - w_ps)))])) _
    refine X11.arraylength hx (by rw [e11]; exact Ar12.1) (State.isArrayOf_alike hZ.alike Ar12.2.1) (g := (mkF m 79 #[.val (.ref vr0), .val (.int en0), .val (.int (w_at - w_ps))] [(.ref P), (.int (en0 + (w_at - w_ps)))])) rfl rfl (hb hby d13_79) _ ?_
    rw [len_of Sz12 Ng12]
    show Steps p.tables e below (T11.setTop (mkF m 80 #[.val (.ref vr0), .val (.int en0), .val (.int (w_at - w_ps))] [(.int pn), (.int (en0 + (w_at - w_ps)))])) _
    refine XS.icmpNo X11.here hx rfl (hb hby d13_80) rfl (tlt hc80).2.2.2 ?_
    refine XS.aloadN X11.here hx rfl (hb hby d13_83) rfl rfl ?_
    show Steps p.tables e below (T11.setTop (mkF m 84 #[.val (.ref vr0), .val (.int en0), .val (.int (w_at - w_ps))] [(.ref vr0)])) _
    refine XS.aloadN X11.here hx rfl (hb hby d13_84) rfl rfl ?_
    show Steps p.tables e below (T11.setTop (mkF m 85 #[.val (.ref vr0), .val (.int en0), .val (.int (w_at - w_ps))] [(.ref vr0), (.ref vr0)])) _
    refine st13 _ ?_
    refine XS.iloadN X13.here hx rfl (hb hby d13_88) rfl ?_
    refine XS.iloadN X13.here hx rfl (hb hby d13_89) rfl ?_
    show Steps p.tables e below (T13.setTop (mkF m 90 #[.val (.ref vr0), .val (.int en0), .val (.int (w_at - w_ps))] [(.int (w_at - w_ps)), (.int en0), (.ref P), (.ref vr0)])) _
    refine XS.iadd X13.here hx rfl (hb hby d13_90) rfl ?_
    refine XS.iconst X13.here hx rfl (hb hby d13_91) ?_
    refine XS.aloadN X13.here hx rfl (hb hby d13_92) rfl rfl ?_
    show Steps p.tables e below (T13.setTop (mkF m 93 #[.val (.ref vr0), .val (.int en0), .val (.int (w_at - w_ps))] [(.ref vr0), (.int (2 : Int32)), (.int (en0 + (w_at - w_ps))), (.ref P), (.ref vr0)])) _
    refine st14 _ ?_
    show Steps p.tables e below (T14.setTop (mkF m 96 #[.val (.ref vr0), .val (.int en0), .val (.int (w_at - w_ps))] [(.ref P), (.int (2 : Int32)), (.int (en0 + (w_at - w_ps))), (.ref P), (.ref vr0)])) _
    refine X14.arraylength hx (by rw [e14]; exact Ar15.1) (State.isArrayOf_alike hZ.alike Ar15.2.1) (g := (mkF m 96 #[.val (.ref vr0), .val (.int en0), .val (.int (w_at - w_ps))] [(.ref P), (.int (2 : Int32)), (.int (en0 + (w_at - w_ps))), (.ref P), (.ref vr0)])) rfl rfl (hb hby d13_96) _ ?_
    rw [len_of Sz15 Ng15]
    refine XS.imul X14.here hx rfl (hb hby d13_97) rfl ?_
    show Steps p.tables e below (T14.setTop (mkF m 98 #[.val (.ref vr0), .val (.int en0), .val (.int (w_at - w_ps))] [(.int ((2 : Int32) * pn)), (.int (en0 + (w_at - w_ps))), (.ref P), (.ref vr0)])) _
    refine st16 _ ?_
    refine XS.sipush X16.here hx rfl (hb hby d13_101) ?_
    show Steps p.tables e below (T16.setTop (mkF m 104 #[.val (.ref vr0), .val (.int en0), .val (.int (w_at - w_ps))] [(.int (4096 : Int32)), (.int (own_max (en0 + (w_at - w_ps)) ((2 : Int32) * pn))), (.ref P), (.ref vr0)])) _
    refine st17 _ ?_
    show Steps p.tables e below (T17.setTop (mkF m 107 #[.val (.ref vr0), .val (.int en0), .val (.int (w_at - w_ps))] [(.int (own_min (own_max (en0 + (w_at - w_ps)) ((2 : Int32) * pn)) (4096 : Int32))), (.ref P), (.ref vr0)])) _
    refine st18 _ ?_
    show Steps p.tables e below (T18.setTop (mkF m 110 #[.val (.ref vr0), .val (.int en0), .val (.int (w_at - w_ps))] [(.ref t18), (.ref vr0)])) _
    refine st19 _ ?_
    refine XS.aloadN X19.here hx rfl (hb hby d13_113) rfl rfl ?_
    show Steps p.tables e below (T19.setTop (mkF m 114 #[.val (.ref vr0), .val (.int en0), .val (.int (w_at - w_ps))] [(.ref vr0)])) _
    refine st20 _ ?_
    refine XS.aloadN X20.here hx rfl (hb hby d13_117) rfl rfl ?_
    show Steps p.tables e below (T20.setTop (mkF m 118 #[.val (.ref vr0), .val (.int en0), .val (.int (w_at - w_ps))] [(.ref vr0), (.int (1 : Int32))])) _
    refine st21 _ ?_
    show Steps p.tables e below (T21.setTop (mkF m 121 #[.val (.ref vr0), .val (.int en0), .val (.int (w_at - w_ps))] [(.ref EN), (.int (1 : Int32))])) _
    refine X21.arraylength hx (by rw [e21]; exact Ar22.1) (State.isArrayOf_alike hZ.alike Ar22.2.1) (g := (mkF m 121 #[.val (.ref vr0), .val (.int en0), .val (.int (w_at - w_ps))] [(.ref EN), (.int (1 : Int32))])) rfl rfl (hb hby d13_121) _ ?_
    rw [len_of Sz22 Ng22]
    show Steps p.tables e below (T21.setTop (mkF m 122 #[.val (.ref vr0), .val (.int en0), .val (.int (w_at - w_ps))] [(.int (16 : Int32)), (.int (1 : Int32))])) _
    refine XS.icmpYes X21.here hx rfl (pc0 := 122) (pc' := 142) rfl (hb hby d13_122) rfl (feq (by decide : ¬ ((1 : Int32) = (16 : Int32)))).2 (by decide) (by decide) ?_
    refine XS.aloadN X21.here hx rfl (hb hby d13_142) rfl rfl ?_
    show Steps p.tables e below (T21.setTop (mkF m 143 #[.val (.ref vr0), .val (.int en0), .val (.int (w_at - w_ps))] [(.ref vr0)])) _
    refine st23 _ ?_
    refine XS.aloadN X23.here hx rfl (hb hby d13_146) rfl rfl ?_
    show Steps p.tables e below (T23.setTop (mkF m 147 #[.val (.ref vr0), .val (.int en0), .val (.int (w_at - w_ps))] [(.ref vr0), (.ref B)])) _
    refine st24 _ ?_
    refine XS.aloadN X24.here hx rfl (hb hby d13_150) rfl rfl ?_
    show Steps p.tables e below (T24.setTop (mkF m 151 #[.val (.ref vr0), .val (.int en0), .val (.int (w_at - w_ps))] [(.ref vr0), (.int w_ps), (.ref B)])) _
    refine st25 _ ?_
    refine XS.iloadN X25.here hx rfl (hb hby d13_154) rfl ?_
    show Steps p.tables e below (T25.setTop (mkF m 155 #[.val (.ref vr0), .val (.int en0), .val (.int (w_at - w_ps))] [(.int en0), (.ref t18), (.int w_ps), (.ref B)])) _
    refine XS.iloadN X25.here hx rfl (hb hby d13_155) rfl ?_
    show Steps p.tables e below (T25.setTop (mkF m 156 #[.val (.ref vr0), .val (.int en0), .val (.int (w_at - w_ps))] [(.int (w_at - w_ps)), (.int en0), (.ref t18), (.int w_ps), (.ref B)])) _
    refine st26 _ ?_
    refine XS.aloadN X26.here hx rfl (hb hby d13_159) rfl rfl ?_
    show Steps p.tables e below (T26.setTop (mkF m 160 #[.val (.ref vr0), .val (.int en0), .val (.int (w_at - w_ps))] [(.ref vr0)])) _
    refine st27 _ ?_
    show Steps p.tables e below (T27.setTop (mkF m 163 #[.val (.ref vr0), .val (.int en0), .val (.int (w_at - w_ps))] [(.ref EN)])) _
    refine XS.aloadN X27.here hx rfl (hb hby d13_163) rfl rfl ?_
    show Steps p.tables e below (T27.setTop (mkF m 164 #[.val (.ref vr0), .val (.int en0), .val (.int (w_at - w_ps))] [(.ref vr0), (.ref EN)])) _
    refine st28 _ ?_
    refine XS.iloadN X28.here hx rfl (hb hby d13_167) rfl ?_
    refine XS.iloadN X28.here hx rfl (hb hby d13_168) rfl ?_
    show Steps p.tables e below (T28.setTop (mkF m 169 #[.val (.ref vr0), .val (.int en0), .val (.int (w_at - w_ps))] [(.int (w_at - w_ps)), (.int en0), (.int (1 : Int32)), (.ref EN)])) _
    refine XS.iadd X28.here hx rfl (hb hby d13_169) rfl ?_
    show Steps p.tables e below (T28.setTop (mkF m 170 #[.val (.ref vr0), .val (.int en0), .val (.int (w_at - w_ps))] [(.int (en0 + (w_at - w_ps))), (.int (1 : Int32)), (.ref EN)])) _
    refine st29 _ ?_
    exact X29.returnOut hx Bd.returns (hb hby d13_171) hr
  · show Q13_e1f Z vr0 B w_at u_end P EN TG u_shapeReader w_ps kE pn kP vP kB vB kT en0 en1 en2 tg0 tg1 h0 n0 _ T29.heap _
    rw [e29]
    exact ⟨t18, kt18, (own_min (own_max (en0 + (w_at - w_ps)) ((2 : Int32) * pn)) (4096 : Int32)), ((vt18).take (en0).toNatClampNeg ++ ((List.range ((w_at - w_ps)).toNatClampNeg).map fun i => (vB).getD ((w_ps).toNatClampNeg + i) (.int (0 : Int32))) ++ (vt18).drop ((en0).toNatClampNeg + ((w_at - w_ps)).toNatClampNeg)), rfl, N29, K29, (((((F_bytes_vr0.other W9 (Or.inr (sl_78 hw))).keep p18_0 nin0).other W19 (Or.inr (sl_13 hw))).keep p26_0 (ninS (Nat.ne_of_lt (Nat.lt_of_lt_of_le (E_vr0.wr W9).lt p18_1)) nin0)).other W29 (Or.inl (Ne.symm ne_EN_vr0))), (((((F_at_vr0.other W9 (Or.inr (sl_72 hw))).keep p18_0 nin0).other W19 (Or.inr (sl_18 hw))).keep p26_0 (ninS (Nat.ne_of_lt (Nat.lt_of_lt_of_le (E_vr0.wr W9).lt p18_1)) nin0)).other W29 (Or.inl (Ne.symm ne_EN_vr0))), (((((F_end_vr0.other W9 (Or.inr (sl_83 hw))).keep p18_0 nin0).other W19 (Or.inr (sl_23 hw))).keep p26_0 (ninS (Nat.ne_of_lt (Nat.lt_of_lt_of_le (E_vr0.wr W9).lt p18_1)) nin0)).other W29 (Or.inl (Ne.symm ne_EN_vr0))), ((Fw19.keep p26_0 (ninS (Nat.ne_of_lt (Nat.lt_of_lt_of_le (E_vr0.wr W9).lt p18_1)) nin0)).other W29 (Or.inl (Ne.symm ne_EN_vr0))), (((((F_partEnds_vr0.other W9 (Or.inr (sl_91 hw))).keep p18_0 nin0).other W19 (Or.inr (sl_7 hw))).keep p26_0 (ninS (Nat.ne_of_lt (Nat.lt_of_lt_of_le (E_vr0.wr W9).lt p18_1)) nin0)).other W29 (Or.inl (Ne.symm ne_EN_vr0))), (((((F_tags_vr0.other W9 (Or.inr (sl_95 hw))).keep p18_0 nin0).other W19 (Or.inr (sl_10 hw))).keep p26_0 (ninS (Nat.ne_of_lt (Nat.lt_of_lt_of_le (E_vr0.wr W9).lt p18_1)) nin0)).other W29 (Or.inl (Ne.symm ne_EN_vr0))), (((((F_shapeReader_vr0.other W9 (Or.inr (sl_98 hw))).keep p18_0 nin0).other W19 (Or.inr (sl_31 hw))).keep p26_0 (ninS (Nat.ne_of_lt (Nat.lt_of_lt_of_le (E_vr0.wr W9).lt p18_1)) nin0)).other W29 (Or.inl (Ne.symm ne_EN_vr0))), (((((F_values_vr0.other W9 (Or.inr (sl_100 hw))).keep p18_0 nin0).other W19 (Or.inr (sl_36 hw))).keep p26_0 (ninS (Nat.ne_of_lt (Nat.lt_of_lt_of_le (E_vr0.wr W9).lt p18_1)) nin0)).other W29 (Or.inl (Ne.symm ne_EN_vr0))), ((((Fw9.keep p18_0 nin0).other W19 (Or.inr (sl_41 hw))).keep p26_0 (ninS (Nat.ne_of_lt (Nat.lt_of_lt_of_le (E_vr0.wr W9).lt p18_1)) nin0)).other W29 (Or.inl (Ne.symm ne_EN_vr0))), (((((F_partStart_vr0.other W9 (Or.inr (sl_75 hw))).keep p18_0 nin0).other W19 (Or.inr (sl_46 hw))).keep p26_0 (ninS (Nat.ne_of_lt (Nat.lt_of_lt_of_le (E_vr0.wr W9).lt p18_1)) nin0)).other W29 (Or.inl (Ne.symm ne_EN_vr0))), V_EN_29, (V26.other W29 (Ne.symm (Nat.ne_of_lt (Nat.lt_of_lt_of_le (V_EN.other W9 ne_EN_vr0).lt p18_1)))), ((own_len own_ul hl26).trans p18_3), (own_L hp1 hp2 hc80 hc54).2.2.2.2.2.1, (own_L hp1 hp2 hc80 hc54).2.2.2.2.2.2, g_t18, (Or.inr sz_t18), (Ne.symm (Nat.ne_of_lt (Nat.lt_of_lt_of_le (E_vr0.wr W9).lt p18_1))), (Ne.symm (Nat.ne_of_lt (Nat.lt_of_lt_of_le (V_EN.other W9 ne_EN_vr0).lt p18_1))), (Ne.symm (Nat.ne_of_lt (Nat.lt_of_lt_of_le (V_B.other W9 ne_B_vr0).lt p18_1))), (Ne.symm (Nat.ne_of_lt (Nat.lt_of_lt_of_le (V_TG.other W9 ne_TG_vr0).lt p18_1)))⟩
theorem ef_13_e1t (m : MethodId) (x0 : Addr) : entryFrame m #[(.ref x0)] 3 = mkF m 0 #[.val (.ref x0), .unset, .unset] [] := by first | (simp [entryFrame, mkF, argsToLocals, Value.category]; done) | rfl
def Q13_e1t (Z : State) (vr0 : Addr) (B : Addr) (w_at : Int32) (u_end : Value) (P : Addr) (EN : Addr) (TG : Addr) (u_shapeReader : Value) (w_ps : Int32) (kE : ClassId) (pn : Int32) (kP : ClassId) (vP : List Value) (kB : ClassId) (vB : List Value) (kT : ClassId) (en0 : Int32) (en1 : Int32) (en2 : Int32) (tg0 : Value) (tg1 : Value) (h0 : Heap) (n0 : Nat) (v : Option Value) (h : Heap) (L : List Loc) : Prop := ∃ p2 : Addr, ∃ k2 : ClassId, ∃ n2 : Int32, ∃ v2 : List Value, v = none ∧ Fr n0 L ∧ Keep h0 h [vr0, P, EN] ∧ Fld Z h vr0 "com/example/careful_ledger/carefulledger/json/PlainLine" "bytes" "[B" (.ref B) ∧ Fld Z h vr0 "com/example/careful_ledger/carefulledger/json/PlainLine" "at" "I" (.int w_at) ∧ Fld Z h vr0 "com/example/careful_ledger/carefulledger/json/PlainLine" "end" "I" u_end ∧ Fld Z h vr0 "com/example/careful_ledger/carefulledger/json/PlainLine" "parts" "[B" (.ref p2) ∧ Fld Z h vr0 "com/example/careful_ledger/carefulledger/json/PlainLine" "partEnds" "[I" (.ref EN) ∧ Fld Z h vr0 "com/example/careful_ledger/carefulledger/json/PlainLine" "tags" "[Ljava/lang/Object;" (.ref TG) ∧ Fld Z h vr0 "com/example/careful_ledger/carefulledger/json/PlainLine" "shapeReader" "Ljava/lang/Object;" u_shapeReader ∧ Fld Z h vr0 "com/example/careful_ledger/carefulledger/json/PlainLine" "values" "I" (.int (1 : Int32)) ∧ Fld Z h vr0 "com/example/careful_ledger/carefulledger/json/PlainLine" "learning" "Z" (.int (1 : Int32)) ∧ Fld Z h vr0 "com/example/careful_ledger/carefulledger/json/PlainLine" "partStart" "I" (.int w_ps) ∧ Arv Z h EN kE .int (16 : Int32) [(.int en0), (.int (en0 + (w_at - w_ps))), (.int en2)] (.int (0 : Int32)) ∧ Arv Z h p2 k2 .byte n2 v2 (.int (0 : Int32)) ∧ v2.length = n2.toNatClampNeg ∧ ¬ n2 < (64 : Int32) ∧ ¬ (4096 : Int32) < n2 ∧ n0 ≤ p2 ∧ (P = p2 ∨ h0.size ≤ p2) ∧ p2 ≠ vr0 ∧ p2 ≠ EN ∧ p2 ≠ B ∧ p2 ≠ TG
set_option maxRecDepth 65536 in
set_option maxHeartbeats 40000000 in
theorem rm13_e1t (l : Launch) (Z : State) (a0 : Array Value) (hw : ∀ d ∈ tables_1, d.before a0 Z = true) (ws : List Jvm.Cond) (vr0 : Addr) (B : Addr) (w_at : Int32) (u_end : Value) (P : Addr) (EN : Addr) (TG : Addr) (u_shapeReader : Value) (w_ps : Int32) (kE : ClassId) (pn : Int32) (kP : ClassId) (vP : List Value) (kB : ClassId) (vB : List Value) (kT : ClassId) (en0 : Int32) (en1 : Int32) (en2 : Int32) (tg0 : Value) (tg1 : Value) (h0 : Heap) (n0 : Nat) (Z0 : n0 ≤ h0.size) (E_vr0 : Exa Z h0 vr0 "com/example/careful_ledger/carefulledger/json/PlainLine") (F_bytes_vr0 : Fld Z h0 vr0 "com/example/careful_ledger/carefulledger/json/PlainLine" "bytes" "[B" (.ref B)) (F_at_vr0 : Fld Z h0 vr0 "com/example/careful_ledger/carefulledger/json/PlainLine" "at" "I" (.int w_at)) (F_end_vr0 : Fld Z h0 vr0 "com/example/careful_ledger/carefulledger/json/PlainLine" "end" "I" u_end) (F_parts_vr0 : Fld Z h0 vr0 "com/example/careful_ledger/carefulledger/json/PlainLine" "parts" "[B" (.ref P)) (F_partEnds_vr0 : Fld Z h0 vr0 "com/example/careful_ledger/carefulledger/json/PlainLine" "partEnds" "[I" (.ref EN)) (F_tags_vr0 : Fld Z h0 vr0 "com/example/careful_ledger/carefulledger/json/PlainLine" "tags" "[Ljava/lang/Object;" (.ref TG)) (F_shapeReader_vr0 : Fld Z h0 vr0 "com/example/careful_ledger/carefulledger/json/PlainLine" "shapeReader" "Ljava/lang/Object;" u_shapeReader) (F_values_vr0 : Fld Z h0 vr0 "com/example/careful_ledger/carefulledger/json/PlainLine" "values" "I" (.int (1 : Int32))) (F_learning_vr0 : Fld Z h0 vr0 "com/example/careful_ledger/carefulledger/json/PlainLine" "learning" "Z" (.int (1 : Int32))) (F_partStart_vr0 : Fld Z h0 vr0 "com/example/careful_ledger/carefulledger/json/PlainLine" "partStart" "I" (.int w_ps)) (V_EN : Arv Z h0 EN kE .int (16 : Int32) [(.int en0), (.int en1), (.int en2)] (.int (0 : Int32))) (V_P : Arv Z h0 P kP .byte pn vP (.int (0 : Int32))) (V_B : Arv Z h0 B kB .byte (6144 : Int32) vB (.int (0 : Int32))) (V_TG : Arv Z h0 TG kT (.object "java/lang/Object") (16 : Int32) [tg0, tg1] .null) (hvP : vP.length = pn.toNatClampNeg) (hp1 : ¬ pn < (64 : Int32)) (hp2 : ¬ (4096 : Int32) < pn) (g_vr0 : n0 ≤ vr0) (g_P : n0 ≤ P) (g_EN : n0 ≤ EN) (g_TG : n0 ≤ TG) (ne_P_vr0 : P ≠ vr0) (ne_EN_vr0 : EN ≠ vr0) (ne_TG_vr0 : TG ≠ vr0) (ne_B_vr0 : B ≠ vr0) (ne_P_EN : P ≠ EN) (ne_P_TG : P ≠ TG) (ne_P_B : P ≠ B) (ne_EN_TG : EN ≠ TG) (ne_EN_B : EN ≠ B) (ne_TG_B : TG ≠ B) (OvT : Ovr Z kT "java/lang/Object") (lq1 : ¬ w_ps < 0) (lq2 : ¬ en0 < 0) (lq3 : ¬ (w_at - w_ps) < 0) (lq4 : w_ps.toNatClampNeg + (w_at - w_ps).toNatClampNeg ≤ (6144 : Int32).toNatClampNeg) (lq5 : en0.toNatClampNeg + (w_at - w_ps).toNatClampNeg ≤ (en0 + (w_at - w_ps)).toNatClampNeg) (lq6 : ¬ (en0 + (w_at - w_ps)) < 0) (hc54 : ¬ ((4096 : Int32) < (en0 + (w_at - w_ps)))) (hc80 : ¬ (pn < (en0 + (w_at - w_ps)))) :
    MetFree l (⟨"com/example/careful_ledger/carefulledger/json/PlainLine", "endPart", "()V"⟩ : MethodName) (head1 (Jvm.Cond.code (⟨"com/example/careful_ledger/carefulledger/json/PlainLine", "endPart", "()V"⟩ : MethodName) prog_58_method_12_code 3 none :: ws) ({ frames := 2, cells := 1, slots := 4096, locals := 33 } : Room)) (fun a U => a = #[(.ref vr0)] ∧ Z.Warmed39 U.vm ∧ U.heap = h0) (fun _ _ _ _ _ => True) (fun _ U o U' => ∃ v L, o = .returned v ∧ Q13_e1t Z vr0 B w_at u_end P EN TG u_shapeReader w_ps kE pn kP vP kB vB kT en0 en1 en2 tg0 tg1 h0 n0 v U'.heap L ∧ FrameEnd U o U' L ({ frames := 2, cells := 1, slots := 4096, locals := 33 } : Room).cells ({ frames := 2, cells := 1, slots := 4096, locals := 33 } : Room).slots) := by
  refine MetFree.of_bodySF (plainFor_of_name pn_com_example_careful_ledger_carefulledger_json_PlainLine) hisR ?_
  intro p e s m args below meth c s₁ Bd hml0 hP hK
  obtain ⟨rfl, hZ, hh⟩ := hP
  have hx := Bd.exec
  have hby := Bd.bytes
  have hml : c.maxLocals = 3 := hml0
  have hown : s.vm.findClass "com/example/careful_ledger/carefulledger/json/PlainLine" = some m.cls := findClass_of_methodNamed Bd.named
  have hnm := (name_of_methodNamed Bd.named Bd.method).1
  have X0 : Stand p l e ({ frames := 2, cells := 1, slots := 4096, locals := 33 } : Room) s m #[(.ref vr0)] below meth c s₁ [] 0 0 := Stand.of_body Bd
  have e0 : s₁.heap = h0 := by rw [← hh, Bd.state]; rfl
  have N0 := Fr.nil n0
  have pre0 : ∀ t, Steps p.tables e below (s₁.setTop (mkF m 0 #[.val (.ref vr0), .unset, .unset] [])) t → Steps p.tables e below (s₁.setTop (entryFrame m #[(.ref vr0)] 3)) t := fun t k => castTop (ef_13_e1t m vr0) k
  obtain ⟨T1, X1, e1, st1⟩ := getF X0 hx hZ hown (host := "") (Or.inl (wd_80 hw)) Via.refl e0 F_learning_vr0 (g := (mkF m 1 #[.val (.ref vr0), .unset, .unset] [(.ref vr0)])) rfl rfl (hb hby d13_1)
  obtain ⟨T2, X2, e2, st2⟩ := getF X1 hx hZ hown (host := "") (Or.inl (wd_78 hw)) Via.refl e1 F_values_vr0 (g := (mkF m 8 #[.val (.ref vr0), .unset, .unset] [(.ref vr0)])) rfl rfl (hb hby d13_8)
  obtain ⟨T3, X3, e3, st3⟩ := getF X2 hx hZ hown (host := "") (Or.inl (wd_56 hw)) Via.refl e2 F_partEnds_vr0 (g := (mkF m 15 #[.val (.ref vr0), .unset, .unset] [(.ref vr0)])) rfl rfl (hb hby d13_15)
  obtain ⟨T4, X4, e4, st4⟩ := getF X3 hx hZ hown (host := "") (Or.inl (wd_78 hw)) Via.refl e3 F_values_vr0 (g := (mkF m 19 #[.val (.ref vr0), .unset, .unset] [(.ref vr0), (.ref EN)])) rfl rfl (hb hby d13_19)
  obtain ⟨cl5, Ar5, q5, Sz5, Ng5, Hh5, Gg5⟩ := (id V_EN)
  have hin5 : ¬ ((0 : Int32) < 0 ∨ cl5.slots.size ≤ ((0 : Int32)).toNatClampNeg) := inb_of Sz5 ⟨by decide, by decide⟩
  have hat5 : cl5.slots[((0 : Int32)).toNatClampNeg]? = some (.int en0) := Hh5.at hin5 rfl
  obtain ⟨T6, X6, e6, st6⟩ := getF X4 hx hZ hown (host := "") (Or.inl (wd_67 hw)) Via.refl e4 F_at_vr0 (g := (mkF m 31 #[.val (.ref vr0), .val (.int en0), .unset] [(.ref vr0)])) rfl rfl (hb hby d13_31)
  obtain ⟨T7, X7, e7, st7⟩ := getF X6 hx hZ hown (host := "") (Or.inl (wd_82 hw)) Via.refl e6 F_partStart_vr0 (g := (mkF m 35 #[.val (.ref vr0), .val (.int en0), .unset] [(.ref vr0), (.int w_at)])) rfl rfl (hb hby d13_35)
  obtain ⟨T8, X8, e8, st8⟩ := getF X7 hx hZ hown (host := "") (Or.inl (wd_80 hw)) Via.refl e7 F_learning_vr0 (g := (mkF m 42 #[.val (.ref vr0), .val (.int en0), .val (.int (w_at - w_ps))] [(.ref vr0), (.ref vr0)])) rfl rfl (hb hby d13_42)
  obtain ⟨T9, h9, X9, e9, W9, st9⟩ := putFN X8 hx hZ hown (wd_80 hw) Via.refl e8 F_learning_vr0 E_vr0 (Or.inl (wd_81 hw)) (wd_32 hw) (ty := .boolean) (v := (.int (1 : Int32))) (v' := (.int (1 : Int32))) (by decide) rfl (by decide) (g := (mkF m 62 #[.val (.ref vr0), .val (.int en0), .val (.int (w_at - w_ps))] [(.int (1 : Int32)), (.ref vr0)])) rfl rfl (hb hby d13_62)
  have Fw9 := F_learning_vr0.same W9
  have N9 := Fr.snoc X9 N0 g_vr0
  have K9 : Keep h0 h9 [vr0, P, EN] := (Keep.refl h0 [vr0, P, EN]).wr W9 (Or.inl (List.mem_of_getElem? (i := 0) rfl))
  obtain ⟨T10, X10, e10, st10⟩ := getF X9 hx hZ hown (host := "") (Or.inl (wd_80 hw)) Via.refl e9 Fw9 (g := (mkF m 66 #[.val (.ref vr0), .val (.int en0), .val (.int (w_at - w_ps))] [(.ref vr0)])) rfl rfl (hb hby d13_66)
  obtain ⟨T11, X11, e11, st11⟩ := getF X10 hx hZ hown (host := "") (Or.inl (wd_53 hw)) Via.refl e10 (F_parts_vr0.other W9 (Or.inr (sl_87 hw))) (g := (mkF m 76 #[.val (.ref vr0), .val (.int en0), .val (.int (w_at - w_ps))] [(.ref vr0), (.int (en0 + (w_at - w_ps)))])) rfl rfl (hb hby d13_76)
  obtain ⟨cl12, Ar12, -, Sz12, Ng12, -, -⟩ := (id (V_P.other W9 ne_P_vr0))
  obtain ⟨T13, X13, e13, st13⟩ := getF X11 hx hZ hown (host := "") (Or.inl (wd_78 hw)) Via.refl e11 (F_values_vr0.other W9 (Or.inr (sl_100 hw))) (g := (mkF m 114 #[.val (.ref vr0), .val (.int en0), .val (.int (w_at - w_ps))] [(.ref vr0)])) rfl rfl (hb hby d13_114)
  obtain ⟨T14, X14, e14, st14⟩ := getF X13 hx hZ hown (host := "") (Or.inl (wd_56 hw)) Via.refl e13 (F_partEnds_vr0.other W9 (Or.inr (sl_91 hw))) (g := (mkF m 118 #[.val (.ref vr0), .val (.int en0), .val (.int (w_at - w_ps))] [(.ref vr0), (.int (1 : Int32))])) rfl rfl (hb hby d13_118)
  obtain ⟨cl15, Ar15, -, Sz15, Ng15, -, -⟩ := (id (V_EN.other W9 ne_EN_vr0))
  obtain ⟨T16, X16, e16, st16⟩ := getF X14 hx hZ hown (host := "") (Or.inl (wd_38 hw)) Via.refl e14 (F_bytes_vr0.other W9 (Or.inr (sl_78 hw))) (g := (mkF m 143 #[.val (.ref vr0), .val (.int en0), .val (.int (w_at - w_ps))] [(.ref vr0)])) rfl rfl (hb hby d13_143)
  obtain ⟨T17, X17, e17, st17⟩ := getF X16 hx hZ hown (host := "") (Or.inl (wd_82 hw)) Via.refl e16 (F_partStart_vr0.other W9 (Or.inr (sl_75 hw))) (g := (mkF m 147 #[.val (.ref vr0), .val (.int en0), .val (.int (w_at - w_ps))] [(.ref vr0), (.ref B)])) rfl rfl (hb hby d13_147)
  obtain ⟨T18, X18, e18, st18⟩ := getF X17 hx hZ hown (host := "") (Or.inl (wd_53 hw)) Via.refl e17 (F_parts_vr0.other W9 (Or.inr (sl_87 hw))) (g := (mkF m 151 #[.val (.ref vr0), .val (.int en0), .val (.int (w_at - w_ps))] [(.ref vr0), (.int w_ps), (.ref B)])) rfl rfl (hb hby d13_151)
  have hl19 : (en0).toNatClampNeg + ((w_at - w_ps)).toNatClampNeg ≤ (vP).length := by rw [hvP]; exact (Nat.le_trans lq5 (own_clamp lq6 hc80))
  obtain ⟨T19, h19, L19, X19, e19, N19, p19_0, V19, st19⟩ := cpA X18 hx hZ hown (wd_98 hw) (wd_101 hw) (wd_99 hw) (wd_100 hw) e18 (V_B.other W9 ne_B_vr0) (V_P.other W9 ne_P_vr0) (Or.inl ⟨rfl, rfl⟩) lq1 lq2 lq3 lq4 (Nat.le_trans lq5 (own_clamp lq6 hc80)) (us := _) rfl hl19 N9 g_P (g := (mkF m 156 #[.val (.ref vr0), .val (.int en0), .val (.int (w_at - w_ps))] [(.int (w_at - w_ps)), (.int en0), (.ref P), (.int w_ps), (.ref B)])) rfl (by rw [hml]; rfl) rfl (hb hby d13_156) (by decide) (W := 0) (by show 2 * 0 + _ ≤ _; exact Nat.le_of_eq rfl) (by decide)
  have K19 : Keep h0 h19 [vr0, P, EN] := K9.trans p19_0 (allS (Or.inl (List.mem_of_getElem? (i := 1) rfl)) all0)
  obtain ⟨T20, X20, e20, st20⟩ := getF X19 hx hZ hown (host := "") (Or.inl (wd_56 hw)) Via.refl e19 ((F_partEnds_vr0.other W9 (Or.inr (sl_91 hw))).keep p19_0 (ninS (Ne.symm ne_P_vr0) nin0)) (g := (mkF m 160 #[.val (.ref vr0), .val (.int en0), .val (.int (w_at - w_ps))] [(.ref vr0)])) rfl rfl (hb hby d13_160)
  obtain ⟨T21, X21, e21, st21⟩ := getF X20 hx hZ hown (host := "") (Or.inl (wd_78 hw)) Via.refl e20 ((F_values_vr0.other W9 (Or.inr (sl_100 hw))).keep p19_0 (ninS (Ne.symm ne_P_vr0) nin0)) (g := (mkF m 164 #[.val (.ref vr0), .val (.int en0), .val (.int (w_at - w_ps))] [(.ref vr0), (.ref EN)])) rfl rfl (hb hby d13_164)
  obtain ⟨cl22, Ar22, q22, Sz22, Ng22, Hh22, Gg22⟩ := (id ((V_EN.other W9 ne_EN_vr0).keep p19_0 (ninS (Ne.symm ne_P_EN) nin0)))
  have hin22 : ¬ ((1 : Int32) < 0 ∨ cl22.slots.size ≤ ((1 : Int32)).toNatClampNeg) := inb_of Sz22 ⟨by decide, by decide⟩
  obtain ⟨T22, h22, X22, e22, W22, st22⟩ := stI X21 hx hZ e21 Ar22 (j := (1 : Int32)) hin22 (g := (mkF m 170 #[.val (.ref vr0), .val (.int en0), .val (.int (w_at - w_ps))] [(.int (en0 + (w_at - w_ps))), (.int (1 : Int32)), (.ref EN)])) rfl rfl (hb hby d13_170)
  have V_EN_22 : Arv Z h22 EN kE .int (16 : Int32) [(.int en0), (.int (en0 + (w_at - w_ps))), (.int en2)] (.int (0 : Int32)) := Arv.set Ar22 q22 Sz22 Ng22 Hh22 Gg22 rfl W22 1 rfl (Nat.le_of_ble_eq_true rfl)
  have N22 := Fr.snoc X22 N19 g_EN
  have K22 : Keep h0 h22 [vr0, P, EN] := K19.wr W22 (Or.inl (List.mem_of_getElem? (i := 2) rfl))
  obtain ⟨fs, hr, hrun, hended, hW, hsame⟩ := X22.leave (v := none) (fun _ => rfl)
  refine ⟨_, _, pre0 _ ?_, hrun, hended, _, _, rfl, ?_, ⟨_, rfl⟩, hW, hsame.mono (by decide) (by decide)⟩
  · show Steps p.tables e below (s₁.setTop (mkF m 0 #[.val (.ref vr0), .unset, .unset] [])) _
    refine XS.aloadN X0.here hx rfl (hb hby d13_0) rfl rfl ?_
    show Steps p.tables e below (s₁.setTop (mkF m 1 #[.val (.ref vr0), .unset, .unset] [(.ref vr0)])) _
    refine st1 _ ?_
    show Steps p.tables e below (T1.setTop (mkF m 4 #[.val (.ref vr0), .unset, .unset] [(.int (1 : Int32))])) _
    refine XS.ifNo X1.here hx rfl (hb hby d13_4) rfl ((if0 _ _).trans (feq (by decide : ¬ ((1 : Int32) = (0 : Int32)))).1) ?_
    refine XS.aloadN X1.here hx rfl (hb hby d13_7) rfl rfl ?_
    show Steps p.tables e below (T1.setTop (mkF m 8 #[.val (.ref vr0), .unset, .unset] [(.ref vr0)])) _
    refine st2 _ ?_
    show Steps p.tables e below (T2.setTop (mkF m 11 #[.val (.ref vr0), .unset, .unset] [(.int (1 : Int32))])) _
    refine XS.ifNo X2.here hx rfl (hb hby d13_11) rfl ((if0 _ _).trans (tlt (by decide : (0 : Int32) < (1 : Int32))).2.2.2) ?_
    refine XS.aloadN X2.here hx rfl (hb hby d13_14) rfl rfl ?_
    show Steps p.tables e below (T2.setTop (mkF m 15 #[.val (.ref vr0), .unset, .unset] [(.ref vr0)])) _
    refine st3 _ ?_
    show Steps p.tables e below (T3.setTop (mkF m 18 #[.val (.ref vr0), .unset, .unset] [(.ref EN)])) _
    refine XS.aloadN X3.here hx rfl (hb hby d13_18) rfl rfl ?_
    show Steps p.tables e below (T3.setTop (mkF m 19 #[.val (.ref vr0), .unset, .unset] [(.ref vr0), (.ref EN)])) _
    refine st4 _ ?_
    refine XS.iconst X4.here hx rfl (hb hby d13_22) ?_
    refine XS.isub X4.here hx rfl (hb hby d13_23) rfl ?_
    show Steps p.tables e below (T4.setTop (mkF m 24 #[.val (.ref vr0), .unset, .unset] [(.int (0 : Int32)), (.ref EN)])) _
    refine X4.iaload hx (j := (0 : Int32)) (v := (.int en0)) (by rw [e4]; exact Ar5.1) (State.isArrayOf_alike hZ.alike Ar5.2.1) Ar5.2.2 hin5 hat5 (g := (mkF m 24 #[.val (.ref vr0), .unset, .unset] [(.int (0 : Int32)), (.ref EN)])) rfl rfl (hb hby d13_24) _ ?_
    refine XS.goto X4.here hx rfl (pc0 := 25) (pc' := 29) rfl (hb hby d13_25) (by decide) (by decide) ?_
    refine XS.istoreN X4.here hx rfl (hb hby d13_29) rfl (l' := #[.val (.ref vr0), .val (.int en0), .unset]) rfl ?_
    refine XS.aloadN X4.here hx rfl (hb hby d13_30) rfl rfl ?_
    show Steps p.tables e below (T4.setTop (mkF m 31 #[.val (.ref vr0), .val (.int en0), .unset] [(.ref vr0)])) _
    refine st6 _ ?_
    refine XS.aloadN X6.here hx rfl (hb hby d13_34) rfl rfl ?_
    show Steps p.tables e below (T6.setTop (mkF m 35 #[.val (.ref vr0), .val (.int en0), .unset] [(.ref vr0), (.int w_at)])) _
    refine st7 _ ?_
    refine XS.isub X7.here hx rfl (hb hby d13_38) rfl ?_
    show Steps p.tables e below (T7.setTop (mkF m 39 #[.val (.ref vr0), .val (.int en0), .unset] [(.int (w_at - w_ps))])) _
    refine XS.istoreN X7.here hx rfl (hb hby d13_39) rfl (l' := #[.val (.ref vr0), .val (.int en0), .val (.int (w_at - w_ps))]) rfl ?_
    refine XS.aloadN X7.here hx rfl (hb hby d13_40) rfl rfl ?_
    refine XS.aloadN X7.here hx rfl (hb hby d13_41) rfl rfl ?_
    show Steps p.tables e below (T7.setTop (mkF m 42 #[.val (.ref vr0), .val (.int en0), .val (.int (w_at - w_ps))] [(.ref vr0), (.ref vr0)])) _
    refine st8 _ ?_
    show Steps p.tables e below (T8.setTop (mkF m 45 #[.val (.ref vr0), .val (.int en0), .val (.int (w_at - w_ps))] [(.int (1 : Int32)), (.ref vr0)])) _
    refine XS.ifNo X8.here hx rfl (hb hby d13_45) rfl ((if0 _ _).trans (feq (by decide : ¬ ((1 : Int32) = (0 : Int32)))).1) ?_
    refine XS.iloadN X8.here hx rfl (hb hby d13_48) rfl ?_
    refine XS.iloadN X8.here hx rfl (hb hby d13_49) rfl ?_
    refine XS.iadd X8.here hx rfl (hb hby d13_50) rfl ?_
    show Steps p.tables e below (T8.setTop (mkF m 51 #[.val (.ref vr0), .val (.int en0), .val (.int (w_at - w_ps))] [(.int (en0 + (w_at - w_ps))), (.ref vr0)])) _
    refine XS.sipush X8.here hx rfl (hb hby d13_51) ?_
    show Steps p.tables e below (T8.setTop (mkF m 54 #[.val (.ref vr0), .val (.int en0), .val (.int (w_at - w_ps))] [(.int (4096 : Int32)), (.int (en0 + (w_at - w_ps))), (.ref vr0)])) _
    refine XS.icmpNo X8.here hx rfl (hb hby d13_54) rfl (flt hc54).2.2.1 ?_
    refine XS.iconst X8.here hx rfl (hb hby d13_57) ?_
    refine XS.goto X8.here hx rfl (pc0 := 58) (pc' := 62) rfl (hb hby d13_58) (by decide) (by decide) ?_
    show Steps p.tables e below (T8.setTop (mkF m 62 #[.val (.ref vr0), .val (.int en0), .val (.int (w_at - w_ps))] [(.int (1 : Int32)), (.ref vr0)])) _
    refine st9 _ ?_
    refine XS.aloadN X9.here hx rfl (hb hby d13_65) rfl rfl ?_
    show Steps p.tables e below (T9.setTop (mkF m 66 #[.val (.ref vr0), .val (.int en0), .val (.int (w_at - w_ps))] [(.ref vr0)])) _
    refine st10 _ ?_
    show Steps p.tables e below (T10.setTop (mkF m 69 #[.val (.ref vr0), .val (.int en0), .val (.int (w_at - w_ps))] [(.int (1 : Int32))])) _
    refine XS.ifNo X10.here hx rfl (hb hby d13_69) rfl ((if0 _ _).trans (feq (by decide : ¬ ((1 : Int32) = (0 : Int32)))).1) ?_
    show Steps p.tables e below (T10.setTop (mkF m 72 #[.val (.ref vr0), .val (.int en0), .val (.int (w_at - w_ps))] [])) _
    refine XS.iloadN X10.here hx rfl (hb hby d13_72) rfl ?_
    refine XS.iloadN X10.here hx rfl (hb hby d13_73) rfl ?_
    refine XS.iadd X10.here hx rfl (hb hby d13_74) rfl ?_
    refine XS.aloadN X10.here hx rfl (hb hby d13_75) rfl rfl ?_
    show Steps p.tables e below (T10.setTop (mkF m 76 #[.val (.ref vr0), .val (.int en0), .val (.int (w_at - w_ps))] [(.ref vr0), (.int (en0 + (w_at - w_ps)))])) _
    refine st11 _ ?_
    show Steps p.tables e below (T11.setTop (mkF m 79 #[.val (.ref vr0), .val (.int en0), .val (.int (w_at - w_ps))] [(.ref P), (.int (en0 + (w_at - w_ps)))])) _
    refine X11.arraylength hx (by rw [e11]; exact Ar12.1) (State.isArrayOf_alike hZ.alike Ar12.2.1) (g := (mkF m 79 #[.val (.ref vr0), .val (.int en0), .val (.int (w_at - w_ps))] [(.ref P), (.int (en0 + (w_at - w_ps)))])) rfl rfl (hb hby d13_79) _ ?_
    rw [len_of Sz12 Ng12]
    show Steps p.tables e below (T11.setTop (mkF m 80 #[.val (.ref vr0), .val (.int en0), .val (.int (w_at - w_ps))] [(.int pn), (.int (en0 + (w_at - w_ps)))])) _
    refine XS.icmpYes X11.here hx rfl (pc0 := 80) (pc' := 113) rfl (hb hby d13_80) rfl (flt hc80).2.2.2 (by decide) (by decide) ?_
    refine XS.aloadN X11.here hx rfl (hb hby d13_113) rfl rfl ?_
    show Steps p.tables e below (T11.setTop (mkF m 114 #[.val (.ref vr0), .val (.int en0), .val (.int (w_at - w_ps))] [(.ref vr0)])) _
    refine st13 _ ?_
    refine XS.aloadN X13.here hx rfl (hb hby d13_117) rfl rfl ?_
    show Steps p.tables e below (T13.setTop (mkF m 118 #[.val (.ref vr0), .val (.int en0), .val (.int (w_at - w_ps))] [(.ref vr0), (.int (1 : Int32))])) _
    refine st14 _ ?_
    show Steps p.tables e below (T14.setTop (mkF m 121 #[.val (.ref vr0), .val (.int en0), .val (.int (w_at - w_ps))] [(.ref EN), (.int (1 : Int32))])) _
    refine X14.arraylength hx (by rw [e14]; exact Ar15.1) (State.isArrayOf_alike hZ.alike Ar15.2.1) (g := (mkF m 121 #[.val (.ref vr0), .val (.int en0), .val (.int (w_at - w_ps))] [(.ref EN), (.int (1 : Int32))])) rfl rfl (hb hby d13_121) _ ?_
    rw [len_of Sz15 Ng15]
    show Steps p.tables e below (T14.setTop (mkF m 122 #[.val (.ref vr0), .val (.int en0), .val (.int (w_at - w_ps))] [(.int (16 : Int32)), (.int (1 : Int32))])) _
    refine XS.icmpYes X14.here hx rfl (pc0 := 122) (pc' := 142) rfl (hb hby d13_122) rfl (feq (by decide : ¬ ((1 : Int32) = (16 : Int32)))).2 (by decide) (by decide) ?_
    refine XS.aloadN X14.here hx rfl (hb hby d13_142) rfl rfl ?_
    show Steps p.tables e below (T14.setTop (mkF m 143 #[.val (.ref vr0), .val (.int en0), .val (.int (w_at - w_ps))] [(.ref vr0)])) _
    refine st16 _ ?_
    refine XS.aloadN X16.here hx rfl (hb hby d13_146) rfl rfl ?_
    show Steps p.tables e below (T16.setTop (mkF m 147 #[.val (.ref vr0), .val (.int en0), .val (.int (w_at - w_ps))] [(.ref vr0), (.ref B)])) _
    refine st17 _ ?_
    refine XS.aloadN X17.here hx rfl (hb hby d13_150) rfl rfl ?_
    show Steps p.tables e below (T17.setTop (mkF m 151 #[.val (.ref vr0), .val (.int en0), .val (.int (w_at - w_ps))] [(.ref vr0), (.int w_ps), (.ref B)])) _
    refine st18 _ ?_
    refine XS.iloadN X18.here hx rfl (hb hby d13_154) rfl ?_
    show Steps p.tables e below (T18.setTop (mkF m 155 #[.val (.ref vr0), .val (.int en0), .val (.int (w_at - w_ps))] [(.int en0), (.ref P), (.int w_ps), (.ref B)])) _
    refine XS.iloadN X18.here hx rfl (hb hby d13_155) rfl ?_
    show Steps p.tables e below (T18.setTop (mkF m 156 #[.val (.ref vr0), .val (.int en0), .val (.int (w_at - w_ps))] [(.int (w_at - w_ps)), (.int en0), (.ref P), (.int w_ps), (.ref B)])) _
    refine st19 _ ?_
    refine XS.aloadN X19.here hx rfl (hb hby d13_159) rfl rfl ?_
    show Steps p.tables e below (T19.setTop (mkF m 160 #[.val (.ref vr0), .val (.int en0), .val (.int (w_at - w_ps))] [(.ref vr0)])) _
    refine st20 _ ?_
    show Steps p.tables e below (T20.setTop (mkF m 163 #[.val (.ref vr0), .val (.int en0), .val (.int (w_at - w_ps))] [(.ref EN)])) _
    refine XS.aloadN X20.here hx rfl (hb hby d13_163) rfl rfl ?_
    show Steps p.tables e below (T20.setTop (mkF m 164 #[.val (.ref vr0), .val (.int en0), .val (.int (w_at - w_ps))] [(.ref vr0), (.ref EN)])) _
    refine st21 _ ?_
    refine XS.iloadN X21.here hx rfl (hb hby d13_167) rfl ?_
    refine XS.iloadN X21.here hx rfl (hb hby d13_168) rfl ?_
    show Steps p.tables e below (T21.setTop (mkF m 169 #[.val (.ref vr0), .val (.int en0), .val (.int (w_at - w_ps))] [(.int (w_at - w_ps)), (.int en0), (.int (1 : Int32)), (.ref EN)])) _
    refine XS.iadd X21.here hx rfl (hb hby d13_169) rfl ?_
    show Steps p.tables e below (T21.setTop (mkF m 170 #[.val (.ref vr0), .val (.int en0), .val (.int (w_at - w_ps))] [(.int (en0 + (w_at - w_ps))), (.int (1 : Int32)), (.ref EN)])) _
    refine st22 _ ?_
    exact X22.returnOut hx Bd.returns (hb hby d13_171) hr
  · show Q13_e1t Z vr0 B w_at u_end P EN TG u_shapeReader w_ps kE pn kP vP kB vB kT en0 en1 en2 tg0 tg1 h0 n0 _ T22.heap _
    rw [e22]
    exact ⟨P, kP, pn, ((vP).take (en0).toNatClampNeg ++ ((List.range ((w_at - w_ps)).toNatClampNeg).map fun i => (vB).getD ((w_ps).toNatClampNeg + i) (.int (0 : Int32))) ++ (vP).drop ((en0).toNatClampNeg + ((w_at - w_ps)).toNatClampNeg)), rfl, N22, K22, (((F_bytes_vr0.other W9 (Or.inr (sl_78 hw))).keep p19_0 (ninS (Ne.symm ne_P_vr0) nin0)).other W22 (Or.inl (Ne.symm ne_EN_vr0))), (((F_at_vr0.other W9 (Or.inr (sl_72 hw))).keep p19_0 (ninS (Ne.symm ne_P_vr0) nin0)).other W22 (Or.inl (Ne.symm ne_EN_vr0))), (((F_end_vr0.other W9 (Or.inr (sl_83 hw))).keep p19_0 (ninS (Ne.symm ne_P_vr0) nin0)).other W22 (Or.inl (Ne.symm ne_EN_vr0))), (((F_parts_vr0.other W9 (Or.inr (sl_87 hw))).keep p19_0 (ninS (Ne.symm ne_P_vr0) nin0)).other W22 (Or.inl (Ne.symm ne_EN_vr0))), (((F_partEnds_vr0.other W9 (Or.inr (sl_91 hw))).keep p19_0 (ninS (Ne.symm ne_P_vr0) nin0)).other W22 (Or.inl (Ne.symm ne_EN_vr0))), (((F_tags_vr0.other W9 (Or.inr (sl_95 hw))).keep p19_0 (ninS (Ne.symm ne_P_vr0) nin0)).other W22 (Or.inl (Ne.symm ne_EN_vr0))), (((F_shapeReader_vr0.other W9 (Or.inr (sl_98 hw))).keep p19_0 (ninS (Ne.symm ne_P_vr0) nin0)).other W22 (Or.inl (Ne.symm ne_EN_vr0))), (((F_values_vr0.other W9 (Or.inr (sl_100 hw))).keep p19_0 (ninS (Ne.symm ne_P_vr0) nin0)).other W22 (Or.inl (Ne.symm ne_EN_vr0))), ((Fw9.keep p19_0 (ninS (Ne.symm ne_P_vr0) nin0)).other W22 (Or.inl (Ne.symm ne_EN_vr0))), (((F_partStart_vr0.other W9 (Or.inr (sl_75 hw))).keep p19_0 (ninS (Ne.symm ne_P_vr0) nin0)).other W22 (Or.inl (Ne.symm ne_EN_vr0))), V_EN_22, (V19.other W22 ne_P_EN), ((own_len own_ul hl19).trans hvP), hp1, hp2, g_P, (Or.inl rfl), ne_P_vr0, ne_P_EN, ne_P_B, ne_P_TG⟩
def QE1 (Z : State) (vr0 : Addr) (B : Addr) (w_at : Int32) (u_end : Value) (P : Addr) (EN : Addr) (TG : Addr) (u_shapeReader : Value) (w_ps : Int32) (kE : ClassId) (pn : Int32) (kP : ClassId) (vP : List Value) (kB : ClassId) (vB : List Value) (kT : ClassId) (en0 : Int32) (en1 : Int32) (en2 : Int32) (tg0 : Value) (tg1 : Value) (h0 : Heap) (n0 : Nat) (v : Option Value) (h : Heap) (L : List Loc) : Prop := ∃ p2 : Addr, ∃ k2 : ClassId, ∃ n2 : Int32, ∃ v2 : List Value, v = none ∧ Fr n0 L ∧ Keep h0 h [vr0, P, EN] ∧ Fld Z h vr0 "com/example/careful_ledger/carefulledger/json/PlainLine" "bytes" "[B" (.ref B) ∧ Fld Z h vr0 "com/example/careful_ledger/carefulledger/json/PlainLine" "at" "I" (.int w_at) ∧ Fld Z h vr0 "com/example/careful_ledger/carefulledger/json/PlainLine" "end" "I" u_end ∧ Fld Z h vr0 "com/example/careful_ledger/carefulledger/json/PlainLine" "parts" "[B" (.ref p2) ∧ Fld Z h vr0 "com/example/careful_ledger/carefulledger/json/PlainLine" "partEnds" "[I" (.ref EN) ∧ Fld Z h vr0 "com/example/careful_ledger/carefulledger/json/PlainLine" "tags" "[Ljava/lang/Object;" (.ref TG) ∧ Fld Z h vr0 "com/example/careful_ledger/carefulledger/json/PlainLine" "shapeReader" "Ljava/lang/Object;" u_shapeReader ∧ Fld Z h vr0 "com/example/careful_ledger/carefulledger/json/PlainLine" "values" "I" (.int (1 : Int32)) ∧ Fld Z h vr0 "com/example/careful_ledger/carefulledger/json/PlainLine" "learning" "Z" (.int (1 : Int32)) ∧ Fld Z h vr0 "com/example/careful_ledger/carefulledger/json/PlainLine" "partStart" "I" (.int w_ps) ∧ Arv Z h EN kE .int (16 : Int32) [(.int en0), (.int (en0 + (w_at - w_ps))), (.int en2)] (.int (0 : Int32)) ∧ Arv Z h p2 k2 .byte n2 v2 (.int (0 : Int32)) ∧ v2.length = n2.toNatClampNeg ∧ ¬ n2 < (64 : Int32) ∧ ¬ (4096 : Int32) < n2 ∧ n0 ≤ p2 ∧ (P = p2 ∨ h0.size ≤ p2) ∧ p2 ≠ vr0 ∧ p2 ≠ EN ∧ p2 ≠ B ∧ p2 ≠ TG
set_option maxRecDepth 65536 in
set_option maxHeartbeats 4000000 in
theorem rmE1 (l : Launch) (Z : State) (a0 : Array Value) (hw : ∀ d ∈ tables_1, d.before a0 Z = true) (ws : List Jvm.Cond) (vr0 : Addr) (B : Addr) (w_at : Int32) (u_end : Value) (P : Addr) (EN : Addr) (TG : Addr) (u_shapeReader : Value) (w_ps : Int32) (kE : ClassId) (pn : Int32) (kP : ClassId) (vP : List Value) (kB : ClassId) (vB : List Value) (kT : ClassId) (en0 : Int32) (en1 : Int32) (en2 : Int32) (tg0 : Value) (tg1 : Value) (h0 : Heap) (n0 : Nat) (Z0 : n0 ≤ h0.size) (E_vr0 : Exa Z h0 vr0 "com/example/careful_ledger/carefulledger/json/PlainLine") (F_bytes_vr0 : Fld Z h0 vr0 "com/example/careful_ledger/carefulledger/json/PlainLine" "bytes" "[B" (.ref B)) (F_at_vr0 : Fld Z h0 vr0 "com/example/careful_ledger/carefulledger/json/PlainLine" "at" "I" (.int w_at)) (F_end_vr0 : Fld Z h0 vr0 "com/example/careful_ledger/carefulledger/json/PlainLine" "end" "I" u_end) (F_parts_vr0 : Fld Z h0 vr0 "com/example/careful_ledger/carefulledger/json/PlainLine" "parts" "[B" (.ref P)) (F_partEnds_vr0 : Fld Z h0 vr0 "com/example/careful_ledger/carefulledger/json/PlainLine" "partEnds" "[I" (.ref EN)) (F_tags_vr0 : Fld Z h0 vr0 "com/example/careful_ledger/carefulledger/json/PlainLine" "tags" "[Ljava/lang/Object;" (.ref TG)) (F_shapeReader_vr0 : Fld Z h0 vr0 "com/example/careful_ledger/carefulledger/json/PlainLine" "shapeReader" "Ljava/lang/Object;" u_shapeReader) (F_values_vr0 : Fld Z h0 vr0 "com/example/careful_ledger/carefulledger/json/PlainLine" "values" "I" (.int (1 : Int32))) (F_learning_vr0 : Fld Z h0 vr0 "com/example/careful_ledger/carefulledger/json/PlainLine" "learning" "Z" (.int (1 : Int32))) (F_partStart_vr0 : Fld Z h0 vr0 "com/example/careful_ledger/carefulledger/json/PlainLine" "partStart" "I" (.int w_ps)) (V_EN : Arv Z h0 EN kE .int (16 : Int32) [(.int en0), (.int en1), (.int en2)] (.int (0 : Int32))) (V_P : Arv Z h0 P kP .byte pn vP (.int (0 : Int32))) (V_B : Arv Z h0 B kB .byte (6144 : Int32) vB (.int (0 : Int32))) (V_TG : Arv Z h0 TG kT (.object "java/lang/Object") (16 : Int32) [tg0, tg1] .null) (hvP : vP.length = pn.toNatClampNeg) (hp1 : ¬ pn < (64 : Int32)) (hp2 : ¬ (4096 : Int32) < pn) (g_vr0 : n0 ≤ vr0) (g_P : n0 ≤ P) (g_EN : n0 ≤ EN) (g_TG : n0 ≤ TG) (ne_P_vr0 : P ≠ vr0) (ne_EN_vr0 : EN ≠ vr0) (ne_TG_vr0 : TG ≠ vr0) (ne_B_vr0 : B ≠ vr0) (ne_P_EN : P ≠ EN) (ne_P_TG : P ≠ TG) (ne_P_B : P ≠ B) (ne_EN_TG : EN ≠ TG) (ne_EN_B : EN ≠ B) (ne_TG_B : TG ≠ B) (OvT : Ovr Z kT "java/lang/Object") (lq1 : ¬ w_ps < 0) (lq2 : ¬ en0 < 0) (lq3 : ¬ (w_at - w_ps) < 0) (lq4 : w_ps.toNatClampNeg + (w_at - w_ps).toNatClampNeg ≤ (6144 : Int32).toNatClampNeg) (lq5 : en0.toNatClampNeg + (w_at - w_ps).toNatClampNeg ≤ (en0 + (w_at - w_ps)).toNatClampNeg) (lq6 : ¬ (en0 + (w_at - w_ps)) < 0) (hc54 : ¬ ((4096 : Int32) < (en0 + (w_at - w_ps)))) :
    MetFree l (⟨"com/example/careful_ledger/carefulledger/json/PlainLine", "endPart", "()V"⟩ : MethodName) (head1 (Jvm.Cond.code (⟨"com/example/careful_ledger/carefulledger/json/PlainLine", "endPart", "()V"⟩ : MethodName) prog_58_method_12_code 3 none :: ws) ({ frames := 2, cells := 1, slots := 4096, locals := 33 } : Room)) (fun a U => a = #[(.ref vr0)] ∧ Z.Warmed39 U.vm ∧ U.heap = h0) (fun _ _ _ _ _ => True) (fun _ U o U' => ∃ v L, o = .returned v ∧ QE1 Z vr0 B w_at u_end P EN TG u_shapeReader w_ps kE pn kP vP kB vB kT en0 en1 en2 tg0 tg1 h0 n0 v U'.heap L ∧ FrameEnd U o U' L ({ frames := 2, cells := 1, slots := 4096, locals := 33 } : Room).cells ({ frames := 2, cells := 1, slots := 4096, locals := 33 } : Room).slots) := by
  by_cases hc80 : pn < (en0 + (w_at - w_ps))
  · exact rm13_e1f l Z a0 hw ws vr0 B w_at u_end P EN TG u_shapeReader w_ps kE pn kP vP kB vB kT en0 en1 en2 tg0 tg1 h0 n0 Z0 E_vr0 F_bytes_vr0 F_at_vr0 F_end_vr0 F_parts_vr0 F_partEnds_vr0 F_tags_vr0 F_shapeReader_vr0 F_values_vr0 F_learning_vr0 F_partStart_vr0 V_EN V_P V_B V_TG hvP hp1 hp2 g_vr0 g_P g_EN g_TG ne_P_vr0 ne_EN_vr0 ne_TG_vr0 ne_B_vr0 ne_P_EN ne_P_TG ne_P_B ne_EN_TG ne_EN_B ne_TG_B OvT lq1 lq2 lq3 lq4 lq5 lq6 hc54 hc80
  · exact rm13_e1t l Z a0 hw ws vr0 B w_at u_end P EN TG u_shapeReader w_ps kE pn kP vP kB vB kT en0 en1 en2 tg0 tg1 h0 n0 Z0 E_vr0 F_bytes_vr0 F_at_vr0 F_end_vr0 F_parts_vr0 F_partEnds_vr0 F_tags_vr0 F_shapeReader_vr0 F_values_vr0 F_learning_vr0 F_partStart_vr0 V_EN V_P V_B V_TG hvP hp1 hp2 g_vr0 g_P g_EN g_TG ne_P_vr0 ne_EN_vr0 ne_TG_vr0 ne_B_vr0 ne_P_EN ne_P_TG ne_P_B ne_EN_TG ne_EN_B ne_TG_B OvT lq1 lq2 lq3 lq4 lq5 lq6 hc54 hc80
theorem ef_13_ov1 (m : MethodId) (x0 : Addr) : entryFrame m #[(.ref x0)] 3 = mkF m 0 #[.val (.ref x0), .unset, .unset] [] := by first | (simp [entryFrame, mkF, argsToLocals, Value.category]; done) | rfl
def Q13_ov1 (Z : State) (vr0 : Addr) (B : Addr) (w_at : Int32) (u_end : Value) (P : Addr) (EN : Addr) (TG : Addr) (u_shapeReader : Value) (w_ps : Int32) (kE : ClassId) (pn : Int32) (kP : ClassId) (vP : List Value) (kB : ClassId) (vB : List Value) (kT : ClassId) (en0 : Int32) (en1 : Int32) (en2 : Int32) (tg0 : Value) (tg1 : Value) (h0 : Heap) (n0 : Nat) (v : Option Value) (h : Heap) (L : List Loc) : Prop := v = none ∧ Fr n0 L ∧ Keep h0 h [vr0] ∧ Fld Z h vr0 "com/example/careful_ledger/carefulledger/json/PlainLine" "bytes" "[B" (.ref B) ∧ Fld Z h vr0 "com/example/careful_ledger/carefulledger/json/PlainLine" "at" "I" (.int w_at) ∧ Fld Z h vr0 "com/example/careful_ledger/carefulledger/json/PlainLine" "end" "I" u_end ∧ Fld Z h vr0 "com/example/careful_ledger/carefulledger/json/PlainLine" "parts" "[B" (.ref P) ∧ Fld Z h vr0 "com/example/careful_ledger/carefulledger/json/PlainLine" "partEnds" "[I" (.ref EN) ∧ Fld Z h vr0 "com/example/careful_ledger/carefulledger/json/PlainLine" "tags" "[Ljava/lang/Object;" (.ref TG) ∧ Fld Z h vr0 "com/example/careful_ledger/carefulledger/json/PlainLine" "shapeReader" "Ljava/lang/Object;" u_shapeReader ∧ Fld Z h vr0 "com/example/careful_ledger/carefulledger/json/PlainLine" "values" "I" (.int (1 : Int32)) ∧ Fld Z h vr0 "com/example/careful_ledger/carefulledger/json/PlainLine" "learning" "Z" (.int (0 : Int32)) ∧ Fld Z h vr0 "com/example/careful_ledger/carefulledger/json/PlainLine" "partStart" "I" (.int w_ps)
set_option maxRecDepth 65536 in
set_option maxHeartbeats 40000000 in
theorem rm13_ov1 (l : Launch) (Z : State) (a0 : Array Value) (hw : ∀ d ∈ tables_1, d.before a0 Z = true) (ws : List Jvm.Cond) (vr0 : Addr) (B : Addr) (w_at : Int32) (u_end : Value) (P : Addr) (EN : Addr) (TG : Addr) (u_shapeReader : Value) (w_ps : Int32) (kE : ClassId) (pn : Int32) (kP : ClassId) (vP : List Value) (kB : ClassId) (vB : List Value) (kT : ClassId) (en0 : Int32) (en1 : Int32) (en2 : Int32) (tg0 : Value) (tg1 : Value) (h0 : Heap) (n0 : Nat) (Z0 : n0 ≤ h0.size) (E_vr0 : Exa Z h0 vr0 "com/example/careful_ledger/carefulledger/json/PlainLine") (F_bytes_vr0 : Fld Z h0 vr0 "com/example/careful_ledger/carefulledger/json/PlainLine" "bytes" "[B" (.ref B)) (F_at_vr0 : Fld Z h0 vr0 "com/example/careful_ledger/carefulledger/json/PlainLine" "at" "I" (.int w_at)) (F_end_vr0 : Fld Z h0 vr0 "com/example/careful_ledger/carefulledger/json/PlainLine" "end" "I" u_end) (F_parts_vr0 : Fld Z h0 vr0 "com/example/careful_ledger/carefulledger/json/PlainLine" "parts" "[B" (.ref P)) (F_partEnds_vr0 : Fld Z h0 vr0 "com/example/careful_ledger/carefulledger/json/PlainLine" "partEnds" "[I" (.ref EN)) (F_tags_vr0 : Fld Z h0 vr0 "com/example/careful_ledger/carefulledger/json/PlainLine" "tags" "[Ljava/lang/Object;" (.ref TG)) (F_shapeReader_vr0 : Fld Z h0 vr0 "com/example/careful_ledger/carefulledger/json/PlainLine" "shapeReader" "Ljava/lang/Object;" u_shapeReader) (F_values_vr0 : Fld Z h0 vr0 "com/example/careful_ledger/carefulledger/json/PlainLine" "values" "I" (.int (1 : Int32))) (F_learning_vr0 : Fld Z h0 vr0 "com/example/careful_ledger/carefulledger/json/PlainLine" "learning" "Z" (.int (1 : Int32))) (F_partStart_vr0 : Fld Z h0 vr0 "com/example/careful_ledger/carefulledger/json/PlainLine" "partStart" "I" (.int w_ps)) (V_EN : Arv Z h0 EN kE .int (16 : Int32) [(.int en0), (.int en1), (.int en2)] (.int (0 : Int32))) (V_P : Arv Z h0 P kP .byte pn vP (.int (0 : Int32))) (V_B : Arv Z h0 B kB .byte (6144 : Int32) vB (.int (0 : Int32))) (V_TG : Arv Z h0 TG kT (.object "java/lang/Object") (16 : Int32) [tg0, tg1] .null) (hvP : vP.length = pn.toNatClampNeg) (hp1 : ¬ pn < (64 : Int32)) (hp2 : ¬ (4096 : Int32) < pn) (g_vr0 : n0 ≤ vr0) (g_P : n0 ≤ P) (g_EN : n0 ≤ EN) (g_TG : n0 ≤ TG) (ne_P_vr0 : P ≠ vr0) (ne_EN_vr0 : EN ≠ vr0) (ne_TG_vr0 : TG ≠ vr0) (ne_B_vr0 : B ≠ vr0) (ne_P_EN : P ≠ EN) (ne_P_TG : P ≠ TG) (ne_P_B : P ≠ B) (ne_EN_TG : EN ≠ TG) (ne_EN_B : EN ≠ B) (ne_TG_B : TG ≠ B) (OvT : Ovr Z kT "java/lang/Object") (hc54 : (4096 : Int32) < (en0 + (w_at - w_ps))) :
    MetFree l (⟨"com/example/careful_ledger/carefulledger/json/PlainLine", "endPart", "()V"⟩ : MethodName) (head1 (Jvm.Cond.code (⟨"com/example/careful_ledger/carefulledger/json/PlainLine", "endPart", "()V"⟩ : MethodName) prog_58_method_12_code 3 none :: ws) ({ frames := 0, cells := 0, slots := 0, locals := 0 } : Room)) (fun a U => a = #[(.ref vr0)] ∧ Z.Warmed39 U.vm ∧ U.heap = h0) (fun _ _ _ _ _ => True) (fun _ U o U' => ∃ v L, o = .returned v ∧ Q13_ov1 Z vr0 B w_at u_end P EN TG u_shapeReader w_ps kE pn kP vP kB vB kT en0 en1 en2 tg0 tg1 h0 n0 v U'.heap L ∧ FrameEnd U o U' L ({ frames := 0, cells := 0, slots := 0, locals := 0 } : Room).cells ({ frames := 0, cells := 0, slots := 0, locals := 0 } : Room).slots) := by
  refine MetFree.of_bodySF (plainFor_of_name pn_com_example_careful_ledger_carefulledger_json_PlainLine) hisR ?_
  intro p e s m args below meth c s₁ Bd hml0 hP hK
  obtain ⟨rfl, hZ, hh⟩ := hP
  have hx := Bd.exec
  have hby := Bd.bytes
  have hml : c.maxLocals = 3 := hml0
  have hown : s.vm.findClass "com/example/careful_ledger/carefulledger/json/PlainLine" = some m.cls := findClass_of_methodNamed Bd.named
  have hnm := (name_of_methodNamed Bd.named Bd.method).1
  have X0 : Stand p l e ({ frames := 0, cells := 0, slots := 0, locals := 0 } : Room) s m #[(.ref vr0)] below meth c s₁ [] 0 0 := Stand.of_body Bd
  have e0 : s₁.heap = h0 := by rw [← hh, Bd.state]; rfl
  have N0 := Fr.nil n0
  have pre0 : ∀ t, Steps p.tables e below (s₁.setTop (mkF m 0 #[.val (.ref vr0), .unset, .unset] [])) t → Steps p.tables e below (s₁.setTop (entryFrame m #[(.ref vr0)] 3)) t := fun t k => castTop (ef_13_ov1 m vr0) k
  obtain ⟨T1, X1, e1, st1⟩ := getF X0 hx hZ hown (host := "") (Or.inl (wd_80 hw)) Via.refl e0 F_learning_vr0 (g := (mkF m 1 #[.val (.ref vr0), .unset, .unset] [(.ref vr0)])) rfl rfl (hb hby d13_1)
  obtain ⟨T2, X2, e2, st2⟩ := getF X1 hx hZ hown (host := "") (Or.inl (wd_78 hw)) Via.refl e1 F_values_vr0 (g := (mkF m 8 #[.val (.ref vr0), .unset, .unset] [(.ref vr0)])) rfl rfl (hb hby d13_8)
  obtain ⟨T3, X3, e3, st3⟩ := getF X2 hx hZ hown (host := "") (Or.inl (wd_56 hw)) Via.refl e2 F_partEnds_vr0 (g := (mkF m 15 #[.val (.ref vr0), .unset, .unset] [(.ref vr0)])) rfl rfl (hb hby d13_15)
  obtain ⟨T4, X4, e4, st4⟩ := getF X3 hx hZ hown (host := "") (Or.inl (wd_78 hw)) Via.refl e3 F_values_vr0 (g := (mkF m 19 #[.val (.ref vr0), .unset, .unset] [(.ref vr0), (.ref EN)])) rfl rfl (hb hby d13_19)
  obtain ⟨cl5, Ar5, q5, Sz5, Ng5, Hh5, Gg5⟩ := (id V_EN)
  have hin5 : ¬ ((0 : Int32) < 0 ∨ cl5.slots.size ≤ ((0 : Int32)).toNatClampNeg) := inb_of Sz5 ⟨by decide, by decide⟩
  have hat5 : cl5.slots[((0 : Int32)).toNatClampNeg]? = some (.int en0) := Hh5.at hin5 rfl
  obtain ⟨T6, X6, e6, st6⟩ := getF X4 hx hZ hown (host := "") (Or.inl (wd_67 hw)) Via.refl e4 F_at_vr0 (g := (mkF m 31 #[.val (.ref vr0), .val (.int en0), .unset] [(.ref vr0)])) rfl rfl (hb hby d13_31)
  obtain ⟨T7, X7, e7, st7⟩ := getF X6 hx hZ hown (host := "") (Or.inl (wd_82 hw)) Via.refl e6 F_partStart_vr0 (g := (mkF m 35 #[.val (.ref vr0), .val (.int en0), .unset] [(.ref vr0), (.int w_at)])) rfl rfl (hb hby d13_35)
  obtain ⟨T8, X8, e8, st8⟩ := getF X7 hx hZ hown (host := "") (Or.inl (wd_80 hw)) Via.refl e7 F_learning_vr0 (g := (mkF m 42 #[.val (.ref vr0), .val (.int en0), .val (.int (w_at - w_ps))] [(.ref vr0), (.ref vr0)])) rfl rfl (hb hby d13_42)
  obtain ⟨T9, h9, X9, e9, W9, st9⟩ := putFN X8 hx hZ hown (wd_80 hw) Via.refl e8 F_learning_vr0 E_vr0 (Or.inl (wd_81 hw)) (wd_32 hw) (ty := .boolean) (v := (.int (0 : Int32))) (v' := (.int (0 : Int32))) (by decide) rfl (by decide) (g := (mkF m 62 #[.val (.ref vr0), .val (.int en0), .val (.int (w_at - w_ps))] [(.int (0 : Int32)), (.ref vr0)])) rfl rfl (hb hby d13_62)
  have Fw9 := F_learning_vr0.same W9
  have N9 := Fr.snoc X9 N0 g_vr0
  have K9 : Keep h0 h9 [vr0] := (Keep.refl h0 [vr0]).wr W9 (Or.inl (List.mem_of_getElem? (i := 0) rfl))
  obtain ⟨T10, X10, e10, st10⟩ := getF X9 hx hZ hown (host := "") (Or.inl (wd_80 hw)) Via.refl e9 Fw9 (g := (mkF m 66 #[.val (.ref vr0), .val (.int en0), .val (.int (w_at - w_ps))] [(.ref vr0)])) rfl rfl (hb hby d13_66)
  obtain ⟨fs, hr, hrun, hended, hW, hsame⟩ := X10.leave (v := none) (fun _ => rfl)
  refine ⟨_, _, pre0 _ ?_, hrun, hended, _, _, rfl, ?_, ⟨_, rfl⟩, hW, hsame.mono (by decide) (by decide)⟩
  · show Steps p.tables e below (s₁.setTop (mkF m 0 #[.val (.ref vr0), .unset, .unset] [])) _
    refine XS.aloadN X0.here hx rfl (hb hby d13_0) rfl rfl ?_
    show Steps p.tables e below (s₁.setTop (mkF m 1 #[.val (.ref vr0), .unset, .unset] [(.ref vr0)])) _
    refine st1 _ ?_
    show Steps p.tables e below (T1.setTop (mkF m 4 #[.val (.ref vr0), .unset, .unset] [(.int (1 : Int32))])) _
    refine XS.ifNo X1.here hx rfl (hb hby d13_4) rfl ((if0 _ _).trans (feq (by decide : ¬ ((1 : Int32) = (0 : Int32)))).1) ?_
    refine XS.aloadN X1.here hx rfl (hb hby d13_7) rfl rfl ?_
    show Steps p.tables e below (T1.setTop (mkF m 8 #[.val (.ref vr0), .unset, .unset] [(.ref vr0)])) _
    refine st2 _ ?_
    show Steps p.tables e below (T2.setTop (mkF m 11 #[.val (.ref vr0), .unset, .unset] [(.int (1 : Int32))])) _
    refine XS.ifNo X2.here hx rfl (hb hby d13_11) rfl ((if0 _ _).trans (tlt (by decide : (0 : Int32) < (1 : Int32))).2.2.2) ?_
    refine XS.aloadN X2.here hx rfl (hb hby d13_14) rfl rfl ?_
    show Steps p.tables e below (T2.setTop (mkF m 15 #[.val (.ref vr0), .unset, .unset] [(.ref vr0)])) _
    refine st3 _ ?_
    show Steps p.tables e below (T3.setTop (mkF m 18 #[.val (.ref vr0), .unset, .unset] [(.ref EN)])) _
    refine XS.aloadN X3.here hx rfl (hb hby d13_18) rfl rfl ?_
    show Steps p.tables e below (T3.setTop (mkF m 19 #[.val (.ref vr0), .unset, .unset] [(.ref vr0), (.ref EN)])) _
    refine st4 _ ?_
    refine XS.iconst X4.here hx rfl (hb hby d13_22) ?_
    refine XS.isub X4.here hx rfl (hb hby d13_23) rfl ?_
    show Steps p.tables e below (T4.setTop (mkF m 24 #[.val (.ref vr0), .unset, .unset] [(.int (0 : Int32)), (.ref EN)])) _
    refine X4.iaload hx (j := (0 : Int32)) (v := (.int en0)) (by rw [e4]; exact Ar5.1) (State.isArrayOf_alike hZ.alike Ar5.2.1) Ar5.2.2 hin5 hat5 (g := (mkF m 24 #[.val (.ref vr0), .unset, .unset] [(.int (0 : Int32)), (.ref EN)])) rfl rfl (hb hby d13_24) _ ?_
    refine XS.goto X4.here hx rfl (pc0 := 25) (pc' := 29) rfl (hb hby d13_25) (by decide) (by decide) ?_
    refine XS.istoreN X4.here hx rfl (hb hby d13_29) rfl (l' := #[.val (.ref vr0), .val (.int en0), .unset]) rfl ?_
    refine XS.aloadN X4.here hx rfl (hb hby d13_30) rfl rfl ?_
    show Steps p.tables e below (T4.setTop (mkF m 31 #[.val (.ref vr0), .val (.int en0), .unset] [(.ref vr0)])) _
    refine st6 _ ?_
    refine XS.aloadN X6.here hx rfl (hb hby d13_34) rfl rfl ?_
    show Steps p.tables e below (T6.setTop (mkF m 35 #[.val (.ref vr0), .val (.int en0), .unset] [(.ref vr0), (.int w_at)])) _
    refine st7 _ ?_
    refine XS.isub X7.here hx rfl (hb hby d13_38) rfl ?_
    show Steps p.tables e below (T7.setTop (mkF m 39 #[.val (.ref vr0), .val (.int en0), .unset] [(.int (w_at - w_ps))])) _
    refine XS.istoreN X7.here hx rfl (hb hby d13_39) rfl (l' := #[.val (.ref vr0), .val (.int en0), .val (.int (w_at - w_ps))]) rfl ?_
    refine XS.aloadN X7.here hx rfl (hb hby d13_40) rfl rfl ?_
    refine XS.aloadN X7.here hx rfl (hb hby d13_41) rfl rfl ?_
    show Steps p.tables e below (T7.setTop (mkF m 42 #[.val (.ref vr0), .val (.int en0), .val (.int (w_at - w_ps))] [(.ref vr0), (.ref vr0)])) _
    refine st8 _ ?_
    show Steps p.tables e below (T8.setTop (mkF m 45 #[.val (.ref vr0), .val (.int en0), .val (.int (w_at - w_ps))] [(.int (1 : Int32)), (.ref vr0)])) _
    refine XS.ifNo X8.here hx rfl (hb hby d13_45) rfl ((if0 _ _).trans (feq (by decide : ¬ ((1 : Int32) = (0 : Int32)))).1) ?_
    refine XS.iloadN X8.here hx rfl (hb hby d13_48) rfl ?_
    refine XS.iloadN X8.here hx rfl (hb hby d13_49) rfl ?_
    refine XS.iadd X8.here hx rfl (hb hby d13_50) rfl ?_
    show Steps p.tables e below (T8.setTop (mkF m 51 #[.val (.ref vr0), .val (.int en0), .val (.int (w_at - w_ps))] [(.int (en0 + (w_at - w_ps))), (.ref vr0)])) _
    refine XS.sipush X8.here hx rfl (hb hby d13_51) ?_
    show Steps p.tables e below (T8.setTop (mkF m 54 #[.val (.ref vr0), .val (.int en0), .val (.int (w_at - w_ps))] [(.int (4096 : Int32)), (.int (en0 + (w_at - w_ps))), (.ref vr0)])) _
    refine XS.icmpYes X8.here hx rfl (pc0 := 54) (pc' := 61) rfl (hb hby d13_54) rfl (tlt hc54).2.2.1 (by decide) (by decide) ?_
    refine XS.iconst X8.here hx rfl (hb hby d13_61) ?_
    show Steps p.tables e below (T8.setTop (mkF m 62 #[.val (.ref vr0), .val (.int en0), .val (.int (w_at - w_ps))] [(.int (0 : Int32)), (.ref vr0)])) _
    refine st9 _ ?_
    show Steps p.tables e below (T9.setTop (mkF m 65 #[.val (.ref vr0), .val (.int en0), .val (.int (w_at - w_ps))] [])) _
    refine XS.aloadN X9.here hx rfl (hb hby d13_65) rfl rfl ?_
    show Steps p.tables e below (T9.setTop (mkF m 66 #[.val (.ref vr0), .val (.int en0), .val (.int (w_at - w_ps))] [(.ref vr0)])) _
    refine st10 _ ?_
    show Steps p.tables e below (T10.setTop (mkF m 69 #[.val (.ref vr0), .val (.int en0), .val (.int (w_at - w_ps))] [(.int (0 : Int32))])) _
    refine XS.ifYes X10.here hx rfl (pc0 := 69) (pc' := 171) rfl (hb hby d13_69) rfl ((if0 _ _).trans (teq (rfl : (0 : Int32) = (0 : Int32))).1) (by decide) (by decide) ?_
    exact X10.returnOut hx Bd.returns (hb hby d13_171) hr
  · show Q13_ov1 Z vr0 B w_at u_end P EN TG u_shapeReader w_ps kE pn kP vP kB vB kT en0 en1 en2 tg0 tg1 h0 n0 _ T10.heap _
    rw [e10]
    exact ⟨rfl, N9, K9, (F_bytes_vr0.other W9 (Or.inr (sl_78 hw))), (F_at_vr0.other W9 (Or.inr (sl_72 hw))), (F_end_vr0.other W9 (Or.inr (sl_83 hw))), (F_parts_vr0.other W9 (Or.inr (sl_87 hw))), (F_partEnds_vr0.other W9 (Or.inr (sl_91 hw))), (F_tags_vr0.other W9 (Or.inr (sl_95 hw))), (F_shapeReader_vr0.other W9 (Or.inr (sl_98 hw))), (F_values_vr0.other W9 (Or.inr (sl_100 hw))), Fw9, (F_partStart_vr0.other W9 (Or.inr (sl_75 hw)))⟩
theorem ef_13_e2f (m : MethodId) (x0 : Addr) : entryFrame m #[(.ref x0)] 3 = mkF m 0 #[.val (.ref x0), .unset, .unset] [] := by first | (simp [entryFrame, mkF, argsToLocals, Value.category]; done) | rfl
def Q13_e2f (Z : State) (vr0 : Addr) (B : Addr) (w_at : Int32) (u_end : Value) (P : Addr) (EN : Addr) (TG : Addr) (u_shapeReader : Value) (w_ps : Int32) (kE : ClassId) (pn : Int32) (kP : ClassId) (vP : List Value) (kB : ClassId) (vB : List Value) (kT : ClassId) (en0 : Int32) (en1 : Int32) (en2 : Int32) (tg0 : Value) (tg1 : Value) (h0 : Heap) (n0 : Nat) (v : Option Value) (h : Heap) (L : List Loc) : Prop := ∃ p2 : Addr, ∃ k2 : ClassId, ∃ n2 : Int32, ∃ v2 : List Value, v = none ∧ Fr n0 L ∧ Keep h0 h [vr0, P, EN] ∧ Fld Z h vr0 "com/example/careful_ledger/carefulledger/json/PlainLine" "bytes" "[B" (.ref B) ∧ Fld Z h vr0 "com/example/careful_ledger/carefulledger/json/PlainLine" "at" "I" (.int w_at) ∧ Fld Z h vr0 "com/example/careful_ledger/carefulledger/json/PlainLine" "end" "I" u_end ∧ Fld Z h vr0 "com/example/careful_ledger/carefulledger/json/PlainLine" "parts" "[B" (.ref p2) ∧ Fld Z h vr0 "com/example/careful_ledger/carefulledger/json/PlainLine" "partEnds" "[I" (.ref EN) ∧ Fld Z h vr0 "com/example/careful_ledger/carefulledger/json/PlainLine" "tags" "[Ljava/lang/Object;" (.ref TG) ∧ Fld Z h vr0 "com/example/careful_ledger/carefulledger/json/PlainLine" "shapeReader" "Ljava/lang/Object;" u_shapeReader ∧ Fld Z h vr0 "com/example/careful_ledger/carefulledger/json/PlainLine" "values" "I" (.int (2 : Int32)) ∧ Fld Z h vr0 "com/example/careful_ledger/carefulledger/json/PlainLine" "learning" "Z" (.int (1 : Int32)) ∧ Fld Z h vr0 "com/example/careful_ledger/carefulledger/json/PlainLine" "partStart" "I" (.int w_ps) ∧ Arv Z h EN kE .int (16 : Int32) [(.int en0), (.int en1), (.int (en1 + (w_at - w_ps)))] (.int (0 : Int32)) ∧ Arv Z h p2 k2 .byte n2 v2 (.int (0 : Int32)) ∧ v2.length = n2.toNatClampNeg ∧ ¬ n2 < (64 : Int32) ∧ ¬ (4096 : Int32) < n2 ∧ n0 ≤ p2 ∧ (P = p2 ∨ h0.size ≤ p2) ∧ p2 ≠ vr0 ∧ p2 ≠ EN ∧ p2 ≠ B ∧ p2 ≠ TG
set_option maxRecDepth 65536 in
set_option maxHeartbeats 40000000 in
theorem rm13_e2f (l : Launch) (Z : State) (a0 : Array Value) (hw : ∀ d ∈ tables_1, d.before a0 Z = true) (ws : List Jvm.Cond) (vr0 : Addr) (B : Addr) (w_at : Int32) (u_end : Value) (P : Addr) (EN : Addr) (TG : Addr) (u_shapeReader : Value) (w_ps : Int32) (kE : ClassId) (pn : Int32) (kP : ClassId) (vP : List Value) (kB : ClassId) (vB : List Value) (kT : ClassId) (en0 : Int32) (en1 : Int32) (en2 : Int32) (tg0 : Value) (tg1 : Value) (h0 : Heap) (n0 : Nat) (Z0 : n0 ≤ h0.size) (E_vr0 : Exa Z h0 vr0 "com/example/careful_ledger/carefulledger/json/PlainLine") (F_bytes_vr0 : Fld Z h0 vr0 "com/example/careful_ledger/carefulledger/json/PlainLine" "bytes" "[B" (.ref B)) (F_at_vr0 : Fld Z h0 vr0 "com/example/careful_ledger/carefulledger/json/PlainLine" "at" "I" (.int w_at)) (F_end_vr0 : Fld Z h0 vr0 "com/example/careful_ledger/carefulledger/json/PlainLine" "end" "I" u_end) (F_parts_vr0 : Fld Z h0 vr0 "com/example/careful_ledger/carefulledger/json/PlainLine" "parts" "[B" (.ref P)) (F_partEnds_vr0 : Fld Z h0 vr0 "com/example/careful_ledger/carefulledger/json/PlainLine" "partEnds" "[I" (.ref EN)) (F_tags_vr0 : Fld Z h0 vr0 "com/example/careful_ledger/carefulledger/json/PlainLine" "tags" "[Ljava/lang/Object;" (.ref TG)) (F_shapeReader_vr0 : Fld Z h0 vr0 "com/example/careful_ledger/carefulledger/json/PlainLine" "shapeReader" "Ljava/lang/Object;" u_shapeReader) (F_values_vr0 : Fld Z h0 vr0 "com/example/careful_ledger/carefulledger/json/PlainLine" "values" "I" (.int (2 : Int32))) (F_learning_vr0 : Fld Z h0 vr0 "com/example/careful_ledger/carefulledger/json/PlainLine" "learning" "Z" (.int (1 : Int32))) (F_partStart_vr0 : Fld Z h0 vr0 "com/example/careful_ledger/carefulledger/json/PlainLine" "partStart" "I" (.int w_ps)) (V_EN : Arv Z h0 EN kE .int (16 : Int32) [(.int en0), (.int en1), (.int en2)] (.int (0 : Int32))) (V_P : Arv Z h0 P kP .byte pn vP (.int (0 : Int32))) (V_B : Arv Z h0 B kB .byte (6144 : Int32) vB (.int (0 : Int32))) (V_TG : Arv Z h0 TG kT (.object "java/lang/Object") (16 : Int32) [tg0, tg1] .null) (hvP : vP.length = pn.toNatClampNeg) (hp1 : ¬ pn < (64 : Int32)) (hp2 : ¬ (4096 : Int32) < pn) (g_vr0 : n0 ≤ vr0) (g_P : n0 ≤ P) (g_EN : n0 ≤ EN) (g_TG : n0 ≤ TG) (ne_P_vr0 : P ≠ vr0) (ne_EN_vr0 : EN ≠ vr0) (ne_TG_vr0 : TG ≠ vr0) (ne_B_vr0 : B ≠ vr0) (ne_P_EN : P ≠ EN) (ne_P_TG : P ≠ TG) (ne_P_B : P ≠ B) (ne_EN_TG : EN ≠ TG) (ne_EN_B : EN ≠ B) (ne_TG_B : TG ≠ B) (OvT : Ovr Z kT "java/lang/Object") (lq1 : ¬ w_ps < 0) (lq2 : ¬ en1 < 0) (lq3 : ¬ (w_at - w_ps) < 0) (lq4 : w_ps.toNatClampNeg + (w_at - w_ps).toNatClampNeg ≤ (6144 : Int32).toNatClampNeg) (lq5 : en1.toNatClampNeg + (w_at - w_ps).toNatClampNeg ≤ (en1 + (w_at - w_ps)).toNatClampNeg) (lq6 : ¬ (en1 + (w_at - w_ps)) < 0) (hc54 : ¬ ((4096 : Int32) < (en1 + (w_at - w_ps)))) (hc80 : pn < (en1 + (w_at - w_ps))) :
    MetFree l (⟨"com/example/careful_ledger/carefulledger/json/PlainLine", "endPart", "()V"⟩ : MethodName) (head1 (Jvm.Cond.code (⟨"com/example/careful_ledger/carefulledger/json/PlainLine", "endPart", "()V"⟩ : MethodName) prog_58_method_12_code 3 none :: ws) ({ frames := 2, cells := 1, slots := 4096, locals := 33 } : Room)) (fun a U => a = #[(.ref vr0)] ∧ Z.Warmed39 U.vm ∧ U.heap = h0) (fun _ _ _ _ _ => True) (fun _ U o U' => ∃ v L, o = .returned v ∧ Q13_e2f Z vr0 B w_at u_end P EN TG u_shapeReader w_ps kE pn kP vP kB vB kT en0 en1 en2 tg0 tg1 h0 n0 v U'.heap L ∧ FrameEnd U o U' L ({ frames := 2, cells := 1, slots := 4096, locals := 33 } : Room).cells ({ frames := 2, cells := 1, slots := 4096, locals := 33 } : Room).slots) := by
  refine MetFree.of_bodySF (plainFor_of_name pn_com_example_careful_ledger_carefulledger_json_PlainLine) hisR ?_
  intro p e s m args below meth c s₁ Bd hml0 hP hK
  obtain ⟨rfl, hZ, hh⟩ := hP
  have hx := Bd.exec
  have hby := Bd.bytes
  have hml : c.maxLocals = 3 := hml0
  have hown : s.vm.findClass "com/example/careful_ledger/carefulledger/json/PlainLine" = some m.cls := findClass_of_methodNamed Bd.named
  have hnm := (name_of_methodNamed Bd.named Bd.method).1
  have X0 : Stand p l e ({ frames := 2, cells := 1, slots := 4096, locals := 33 } : Room) s m #[(.ref vr0)] below meth c s₁ [] 0 0 := Stand.of_body Bd
  have e0 : s₁.heap = h0 := by rw [← hh, Bd.state]; rfl
  have N0 := Fr.nil n0
  have pre0 : ∀ t, Steps p.tables e below (s₁.setTop (mkF m 0 #[.val (.ref vr0), .unset, .unset] [])) t → Steps p.tables e below (s₁.setTop (entryFrame m #[(.ref vr0)] 3)) t := fun t k => castTop (ef_13_e2f m vr0) k
  obtain ⟨T1, X1, e1, st1⟩ := getF X0 hx hZ hown (host := "") (Or.inl (wd_80 hw)) Via.refl e0 F_learning_vr0 (g := (mkF m 1 #[.val (.ref vr0), .unset, .unset] [(.ref vr0)])) rfl rfl (hb hby d13_1)
  obtain ⟨T2, X2, e2, st2⟩ := getF X1 hx hZ hown (host := "") (Or.inl (wd_78 hw)) Via.refl e1 F_values_vr0 (g := (mkF m 8 #[.val (.ref vr0), .unset, .unset] [(.ref vr0)])) rfl rfl (hb hby d13_8)
  obtain ⟨T3, X3, e3, st3⟩ := getF X2 hx hZ hown (host := "") (Or.inl (wd_56 hw)) Via.refl e2 F_partEnds_vr0 (g := (mkF m 15 #[.val (.ref vr0), .unset, .unset] [(.ref vr0)])) rfl rfl (hb hby d13_15)
  obtain ⟨T4, X4, e4, st4⟩ := getF X3 hx hZ hown (host := "") (Or.inl (wd_78 hw)) Via.refl e3 F_values_vr0 (g := (mkF m 19 #[.val (.ref vr0), .unset, .unset] [(.ref vr0), (.ref EN)])) rfl rfl (hb hby d13_19)
  obtain ⟨cl5, Ar5, q5, Sz5, Ng5, Hh5, Gg5⟩ := (id V_EN)
  have hin5 : ¬ ((1 : Int32) < 0 ∨ cl5.slots.size ≤ ((1 : Int32)).toNatClampNeg) := inb_of Sz5 ⟨by decide, by decide⟩
  have hat5 : cl5.slots[((1 : Int32)).toNatClampNeg]? = some (.int en1) := Hh5.at hin5 rfl
  obtain ⟨T6, X6, e6, st6⟩ := getF X4 hx hZ hown (host := "") (Or.inl (wd_67 hw)) Via.refl e4 F_at_vr0 (g := (mkF m 31 #[.val (.ref vr0), .val (.int en1), .unset] [(.ref vr0)])) rfl rfl (hb hby d13_31)
  obtain ⟨T7, X7, e7, st7⟩ := getF X6 hx hZ hown (host := "") (Or.inl (wd_82 hw)) Via.refl e6 F_partStart_vr0 (g := (mkF m 35 #[.val (.ref vr0), .val (.int en1), .unset] [(.ref vr0), (.int w_at)])) rfl rfl (hb hby d13_35)
  obtain ⟨T8, X8, e8, st8⟩ := getF X7 hx hZ hown (host := "") (Or.inl (wd_80 hw)) Via.refl e7 F_learning_vr0 (g := (mkF m 42 #[.val (.ref vr0), .val (.int en1), .val (.int (w_at - w_ps))] [(.ref vr0), (.ref vr0)])) rfl rfl (hb hby d13_42)
  obtain ⟨T9, h9, X9, e9, W9, st9⟩ := putFN X8 hx hZ hown (wd_80 hw) Via.refl e8 F_learning_vr0 E_vr0 (Or.inl (wd_81 hw)) (wd_32 hw) (ty := .boolean) (v := (.int (1 : Int32))) (v' := (.int (1 : Int32))) (by decide) rfl (by decide) (g := (mkF m 62 #[.val (.ref vr0), .val (.int en1), .val (.int (w_at - w_ps))] [(.int (1 : Int32)), (.ref vr0)])) rfl rfl (hb hby d13_62)
  have Fw9 := F_learning_vr0.same W9
  have N9 := Fr.snoc X9 N0 g_vr0
  have K9 : Keep h0 h9 [vr0, P, EN] := (Keep.refl h0 [vr0, P, EN]).wr W9 (Or.inl (List.mem_of_getElem? (i := 0) rfl))
  obtain ⟨T10, X10, e10, st10⟩ := getF X9 hx hZ hown (host := "") (Or.inl (wd_80 hw)) Via.refl e9 Fw9 (g := (mkF m 66 #[.val (.ref vr0), .val (.int en1), .val (.int (w_at - w_ps))] [(.ref vr0)])) rfl rfl (hb hby d13_66)
  obtain ⟨T11, X11, e11, st11⟩ := getF X10 hx hZ hown (host := "") (Or.inl (wd_53 hw)) Via.refl e10 (F_parts_vr0.other W9 (Or.inr (sl_87 hw))) (g := (mkF m 76 #[.val (.ref vr0), .val (.int en1), .val (.int (w_at - w_ps))] [(.ref vr0), (.int (en1 + (w_at - w_ps)))])) rfl rfl (hb hby d13_76)
  obtain ⟨cl12, Ar12, -, Sz12, Ng12, -, -⟩ := (id (V_P.other W9 ne_P_vr0))
  obtain ⟨T13, X13, e13, st13⟩ := getF X11 hx hZ hown (host := "") (Or.inl (wd_53 hw)) Via.refl e11 (F_parts_vr0.other W9 (Or.inr (sl_87 hw))) (g := (mkF m 85 #[.val (.ref vr0), .val (.int en1), .val (.int (w_at - w_ps))] [(.ref vr0), (.ref vr0)])) rfl rfl (hb hby d13_85)
  obtain ⟨T14, X14, e14, st14⟩ := getF X13 hx hZ hown (host := "") (Or.inl (wd_53 hw)) Via.refl e13 (F_parts_vr0.other W9 (Or.inr (sl_87 hw))) (g := (mkF m 93 #[.val (.ref vr0), .val (.int en1), .val (.int (w_at - w_ps))] [(.ref vr0), (.int (2 : Int32)), (.int (en1 + (w_at - w_ps))), (.ref P), (.ref vr0)])) rfl rfl (hb hby d13_93)
  obtain ⟨cl15, Ar15, -, Sz15, Ng15, -, -⟩ := (id (V_P.other W9 ne_P_vr0))
  obtain ⟨_, _, ⟨T16, L16, k16, n16⟩, -, X16, ⟨Lc16, hQ16, l16, y16, z16⟩, st16⟩ := Jvm.LawKit.callS X14 hx (y := (⟨"java/lang/Math", "max", "(II)I"⟩ : MethodName)) hown (mvT hZ (wd_112 hw)) (mvT hZ (wd_113 hw)) (mvT hZ (wd_114 hw)) (mvT hZ (wd_115 hw)) (by decide) (backOf (W := 2) (rm_max l Z a0 hw [] (en1 + (w_at - w_ps)) ((2 : Int32) * pn) h9 n0 (Nat.le_trans Z0 (Keep.of_wr W9).1) ) hZ (wd_115 hw) (wd_114 hw) (by decide) (by decide)) (g := (mkF m 98 #[.val (.ref vr0), .val (.int en1), .val (.int (w_at - w_ps))] [(.int ((2 : Int32) * pn)), (.int (en1 + (w_at - w_ps))), (.ref P), (.ref vr0)])) rfl (by rw [hml]; rfl) (argsL := [(.int (en1 + (w_at - w_ps))), (.int ((2 : Int32) * pn))]) (rest := [(.ref P), (.ref vr0)]) (lenOf pd_11 rfl) rfl (by show 2 * 0 + _ ≤ _; exact Nat.le_of_eq rfl) (hb hby d13_98) (fun _ _ => ⟨rfl, e14, (by decide : 0 + 0 ≤ _), (by decide : 0 + 0 ≤ _)⟩)
  dsimp only [Pt.U, Pt.locs, Pt.cells, Pt.slots] at X16 l16 y16 z16 st16 hQ16
  subst l16 y16 z16
  obtain ⟨rfl, N16q, p16_0⟩ := hQ16
  have N16 := Fr.app N9 N16q
  have e16 : T16.heap = h9 := p16_0
  obtain ⟨_, _, ⟨T17, L17, k17, n17⟩, -, X17, ⟨Lc17, hQ17, l17, y17, z17⟩, st17⟩ := Jvm.LawKit.callS X16 hx (y := (⟨"java/lang/Math", "min", "(II)I"⟩ : MethodName)) hown (mvT hZ (wd_116 hw)) (mvT hZ (wd_117 hw)) (mvT hZ (wd_114 hw)) (mvT hZ (wd_118 hw)) (by decide) (backOf (W := 2) (rm_min l Z a0 hw [] (own_max (en1 + (w_at - w_ps)) ((2 : Int32) * pn)) (4096 : Int32) h9 n0 (Nat.le_trans Z0 (Keep.of_wr W9).1) ) hZ (wd_118 hw) (wd_114 hw) (by decide) (by decide)) (g := (mkF m 104 #[.val (.ref vr0), .val (.int en1), .val (.int (w_at - w_ps))] [(.int (4096 : Int32)), (.int (own_max (en1 + (w_at - w_ps)) ((2 : Int32) * pn))), (.ref P), (.ref vr0)])) rfl (by rw [hml]; rfl) (argsL := [(.int (own_max (en1 + (w_at - w_ps)) ((2 : Int32) * pn))), (.int (4096 : Int32))]) (rest := [(.ref P), (.ref vr0)]) (lenOf pd_11 rfl) rfl (by show 2 * 0 + _ ≤ _; exact Nat.le_of_eq rfl) (hb hby d13_104) (fun _ _ => ⟨rfl, e16, (by decide : 0 + 0 ≤ _), (by decide : 0 + 0 ≤ _)⟩)
  dsimp only [Pt.U, Pt.locs, Pt.cells, Pt.slots] at X17 l17 y17 z17 st17 hQ17
  subst l17 y17 z17
  obtain ⟨rfl, N17q, p17_0⟩ := hQ17
  have N17 := Fr.app N16 N17q
  have e17 : T17.heap = h9 := p17_0
  obtain ⟨_, _, ⟨T18, L18, k18, n18⟩, -, X18, ⟨Lc18, hQ18, l18, y18, z18⟩, st18⟩ := Jvm.LawKit.callS X17 hx (y := (⟨"java/util/Arrays", "copyOf", "([BI)[B"⟩ : MethodName)) hown (mvT hZ (wd_119 hw)) (mvT hZ (wd_120 hw)) (mvT hZ (wd_121 hw)) (mvT hZ (wd_122 hw)) (by decide) (backOf (W := 1) (rm18 l Z a0 hw [] P (own_min (own_max (en1 + (w_at - w_ps)) ((2 : Int32) * pn)) (4096 : Int32)) pn kP vP h9 n0 (Nat.le_trans Z0 (Keep.of_wr W9).1) (V_P.other W9 ne_P_vr0) (own_L hp1 hp2 hc80 hc54).1 (own_L hp1 hp2 hc80 hc54).2.1 (own_L hp1 hp2 hc80 hc54).2.2.1 (own_L hp1 hp2 hc80 hc54).2.2.2.1) hZ (wd_122 hw) (wd_121 hw) (by decide) (by decide)) (g := (mkF m 107 #[.val (.ref vr0), .val (.int en1), .val (.int (w_at - w_ps))] [(.int (own_min (own_max (en1 + (w_at - w_ps)) ((2 : Int32) * pn)) (4096 : Int32))), (.ref P), (.ref vr0)])) rfl (by rw [hml]; rfl) (argsL := [(.ref P), (.int (own_min (own_max (en1 + (w_at - w_ps)) ((2 : Int32) * pn)) (4096 : Int32)))]) (rest := [(.ref vr0)]) (lenOf pd_12 rfl) rfl (by show 2 * 0 + _ ≤ _; exact Nat.le_of_eq rfl) (hb hby d13_107) (fun _ _ => ⟨rfl, e17, (by decide : 0 + 1 ≤ _), (by decide : 0 + 4096 ≤ _)⟩)
  dsimp only [Pt.U, Pt.locs, Pt.cells, Pt.slots] at X18 l18 y18 z18 st18 hQ18
  subst l18 y18 z18
  obtain ⟨t18, kt18, vt18, rfl, N18q, p18_0, p18_1, p18_2, p18_3⟩ := hQ18
  have N18 := Fr.app N17 N18q
  have g_t18 : n0 ≤ t18 := Nat.le_trans (Nat.le_trans Z0 (Keep.of_wr W9).1) p18_1
  have sz_t18 : h0.size ≤ t18 := Nat.le_trans K9.1 p18_1
  have K18 : Keep h0 T18.heap [vr0, P, EN] := K9.trans p18_0 all0
  obtain ⟨T19, h19, X19, e19, W19, st19⟩ := putF X18 hx hZ hown (host := "") (Or.inl (wd_53 hw)) Via.refl rfl ((F_parts_vr0.other W9 (Or.inr (sl_87 hw))).keep p18_0 nin0) ((E_vr0.wr W9).keep p18_0) (Or.inl (wd_54 hw)) (wd_32 hw) (ty := (.array .byte)) (by decide) rfl rfl (g := (mkF m 110 #[.val (.ref vr0), .val (.int en1), .val (.int (w_at - w_ps))] [(.ref t18), (.ref vr0)])) rfl rfl (hb hby d13_110)
  have Fw19 := ((F_parts_vr0.other W9 (Or.inr (sl_87 hw))).keep p18_0 nin0).same W19
  have N19 := Fr.snoc X19 N18 g_vr0
  have K19 : Keep h0 h19 [vr0, P, EN] := K18.wr W19 (Or.inl (List.mem_of_getElem? (i := 0) rfl))
  obtain ⟨T20, X20, e20, st20⟩ := getF X19 hx hZ hown (host := "") (Or.inl (wd_78 hw)) Via.refl e19 (((F_values_vr0.other W9 (Or.inr (sl_100 hw))).keep p18_0 nin0).other W19 (Or.inr (sl_36 hw))) (g := (mkF m 114 #[.val (.ref vr0), .val (.int en1), .val (.int (w_at - w_ps))] [(.ref vr0)])) rfl rfl (hb hby d13_114)
  obtain ⟨T21, X21, e21, st21⟩ := getF X20 hx hZ hown (host := "") (Or.inl (wd_56 hw)) Via.refl e20 (((F_partEnds_vr0.other W9 (Or.inr (sl_91 hw))).keep p18_0 nin0).other W19 (Or.inr (sl_7 hw))) (g := (mkF m 118 #[.val (.ref vr0), .val (.int en1), .val (.int (w_at - w_ps))] [(.ref vr0), (.int (2 : Int32))])) rfl rfl (hb hby d13_118)
  obtain ⟨cl22, Ar22, -, Sz22, Ng22, -, -⟩ := (id (((V_EN.other W9 ne_EN_vr0).keep p18_0 nin0).other W19 ne_EN_vr0))
  obtain ⟨T23, X23, e23, st23⟩ := getF X21 hx hZ hown (host := "") (Or.inl (wd_38 hw)) Via.refl e21 (((F_bytes_vr0.other W9 (Or.inr (sl_78 hw))).keep p18_0 nin0).other W19 (Or.inr (sl_13 hw))) (g := (mkF m 143 #[.val (.ref vr0), .val (.int en1), .val (.int (w_at - w_ps))] [(.ref vr0)])) rfl rfl (hb hby d13_143)
  obtain ⟨T24, X24, e24, st24⟩ := getF X23 hx hZ hown (host := "") (Or.inl (wd_82 hw)) Via.refl e23 (((F_partStart_vr0.other W9 (Or.inr (sl_75 hw))).keep p18_0 nin0).other W19 (Or.inr (sl_46 hw))) (g := (mkF m 147 #[.val (.ref vr0), .val (.int en1), .val (.int (w_at - w_ps))] [(.ref vr0), (.ref B)])) rfl rfl (hb hby d13_147)
  obtain ⟨T25, X25, e25, st25⟩ := getF X24 hx hZ hown (host := "") (Or.inl (wd_53 hw)) Via.refl e24 Fw19 (g := (mkF m 151 #[.val (.ref vr0), .val (.int en1), .val (.int (w_at - w_ps))] [(.ref vr0), (.int w_ps), (.ref B)])) rfl rfl (hb hby d13_151)
  have hl26 : (en1).toNatClampNeg + ((w_at - w_ps)).toNatClampNeg ≤ (vt18).length := by rw [p18_3]; exact (Nat.le_trans lq5 (own_clamp lq6 (own_L hp1 hp2 hc80 hc54).2.2.2.2.1))
  obtain ⟨T26, h26, L26, X26, e26, N26, p26_0, V26, st26⟩ := cpA X25 hx hZ hown (wd_98 hw) (wd_101 hw) (wd_99 hw) (wd_100 hw) e25 (((V_B.other W9 ne_B_vr0).keep p18_0 nin0).other W19 ne_B_vr0) (p18_2.other W19 (Ne.symm (Nat.ne_of_lt (Nat.lt_of_lt_of_le (E_vr0.wr W9).lt p18_1)))) (Or.inl ⟨rfl, rfl⟩) lq1 lq2 lq3 lq4 (Nat.le_trans lq5 (own_clamp lq6 (own_L hp1 hp2 hc80 hc54).2.2.2.2.1)) (us := _) rfl hl26 N19 g_t18 (g := (mkF m 156 #[.val (.ref vr0), .val (.int en1), .val (.int (w_at - w_ps))] [(.int (w_at - w_ps)), (.int en1), (.ref t18), (.int w_ps), (.ref B)])) rfl (by rw [hml]; rfl) rfl (hb hby d13_156) (by decide) (W := 0) (by show 2 * 0 + _ ≤ _; exact Nat.le_of_eq rfl) (by decide)
  have K26 : Keep h0 h26 [vr0, P, EN] := K19.trans p26_0 (allS (Or.inr sz_t18) all0)
  obtain ⟨T27, X27, e27, st27⟩ := getF X26 hx hZ hown (host := "") (Or.inl (wd_56 hw)) Via.refl e26 ((((F_partEnds_vr0.other W9 (Or.inr (sl_91 hw))).keep p18_0 nin0).other W19 (Or.inr (sl_7 hw))).keep p26_0 (ninS (Nat.ne_of_lt (Nat.lt_of_lt_of_le (E_vr0.wr W9).lt p18_1)) nin0)) (g := (mkF m 160 #[.val (.ref vr0), .val (.int en1), .val (.int (w_at - w_ps))] [(.ref vr0)])) rfl rfl (hb hby d13_160)
  obtain ⟨T28, X28, e28, st28⟩ := getF X27 hx hZ hown (host := "") (Or.inl (wd_78 hw)) Via.refl e27 ((((F_values_vr0.other W9 (Or.inr (sl_100 hw))).keep p18_0 nin0).other W19 (Or.inr (sl_36 hw))).keep p26_0 (ninS (Nat.ne_of_lt (Nat.lt_of_lt_of_le (E_vr0.wr W9).lt p18_1)) nin0)) (g := (mkF m 164 #[.val (.ref vr0), .val (.int en1), .val (.int (w_at - w_ps))] [(.ref vr0), (.ref EN)])) rfl rfl (hb hby d13_164)
  obtain ⟨cl29, Ar29, q29, Sz29, Ng29, Hh29, Gg29⟩ := (id ((((V_EN.other W9 ne_EN_vr0).keep p18_0 nin0).other W19 ne_EN_vr0).keep p26_0 (ninS (Nat.ne_of_lt (Nat.lt_of_lt_of_le (V_EN.other W9 ne_EN_vr0).lt p18_1)) nin0)))
  have hin29 : ¬ ((2 : Int32) < 0 ∨ cl29.slots.size ≤ ((2 : Int32)).toNatClampNeg) := inb_of Sz29 ⟨by decide, by decide⟩
  obtain ⟨T29, h29, X29, e29, W29, st29⟩ := stI X28 hx hZ e28 Ar29 (j := (2 : Int32)) hin29 (g := (mkF m 170 #[.val (.ref vr0), .val (.int en1), .val (.int (w_at - w_ps))] [(.int (en1 + (w_at - w_ps))), (.int (2 : Int32)), (.ref EN)])) rfl rfl (hb hby d13_170)
  have V_EN_29 : Arv Z h29 EN kE .int (16 : Int32) [(.int en0), (.int en1), (.int (en1 + (w_at - w_ps)))] (.int (0 : Int32)) := Arv.set Ar29 q29 Sz29 Ng29 Hh29 Gg29 rfl W29 2 rfl (Nat.le_of_ble_eq_true rfl)
  have N29 := Fr.snoc X29 N26 g_EN
  have K29 : Keep h0 h29 [vr0, P, EN] := K26.wr W29 (Or.inl (List.mem_of_getElem? (i := 2) rfl))
  obtain ⟨fs, hr, hrun, hended, hW, hsame⟩ := X29.leave (v := none) (fun _ => rfl)
  refine ⟨_, _, pre0 _ ?_, hrun, hended, _, _, rfl, ?_, ⟨_, rfl⟩, hW, hsame.mono (by decide) (by decide)⟩
  · show Steps p.tables e below (s₁.setTop (mkF m 0 #[.val (.ref vr0), .unset, .unset] [])) _
    refine XS.aloadN X0.here hx rfl (hb hby d13_0) rfl rfl ?_
    show Steps p.tables e below (s₁.setTop (mkF m 1 #[.val (.ref vr0), .unset, .unset] [(.ref vr0)])) _
    refine st1 _ ?_
    show Steps p.tables e below (T1.setTop (mkF m 4 #[.val (.ref vr0), .unset, .unset] [(.int (1 : Int32))])) _
    refine XS.ifNo X1.here hx rfl (hb hby d13_4) rfl ((if0 _ _).trans (feq (by decide : ¬ ((1 : Int32) = (0 : Int32)))).1) ?_
    refine XS.aloadN X1.here hx rfl (hb hby d13_7) rfl rfl ?_
    show Steps p.tables e below (T1.setTop (mkF m 8 #[.val (.ref vr0), .unset, .unset] [(.ref vr0)])) _
    refine st2 _ ?_
    show Steps p.tables e below (T2.setTop (mkF m 11 #[.val (.ref vr0), .unset, .unset] [(.int (2 : Int32))])) _
    refine XS.ifNo X2.here hx rfl (hb hby d13_11) rfl ((if0 _ _).trans (tlt (by decide : (0 : Int32) < (2 : Int32))).2.2.2) ?_
    refine XS.aloadN X2.here hx rfl (hb hby d13_14) rfl rfl ?_
    show Steps p.tables e below (T2.setTop (mkF m 15 #[.val (.ref vr0), .unset, .unset] [(.ref vr0)])) _
    refine st3 _ ?_
    show Steps p.tables e below (T3.setTop (mkF m 18 #[.val (.ref vr0), .unset, .unset] [(.ref EN)])) _
    refine XS.aloadN X3.here hx rfl (hb hby d13_18) rfl rfl ?_
    show Steps p.tables e below (T3.setTop (mkF m 19 #[.val (.ref vr0), .unset, .unset] [(.ref vr0), (.ref EN)])) _
    refine st4 _ ?_
    refine XS.iconst X4.here hx rfl (hb hby d13_22) ?_
    refine XS.isub X4.here hx rfl (hb hby d13_23) rfl ?_
    show Steps p.tables e below (T4.setTop (mkF m 24 #[.val (.ref vr0), .unset, .unset] [(.int (1 : Int32)), (.ref EN)])) _
    refine X4.iaload hx (j := (1 : Int32)) (v := (.int en1)) (by rw [e4]; exact Ar5.1) (State.isArrayOf_alike hZ.alike Ar5.2.1) Ar5.2.2 hin5 hat5 (g := (mkF m 24 #[.val (.ref vr0), .unset, .unset] [(.int (1 : Int32)), (.ref EN)])) rfl rfl (hb hby d13_24) _ ?_
    refine XS.goto X4.here hx rfl (pc0 := 25) (pc' := 29) rfl (hb hby d13_25) (by decide) (by decide) ?_
    refine XS.istoreN X4.here hx rfl (hb hby d13_29) rfl (l' := #[.val (.ref vr0), .val (.int en1), .unset]) rfl ?_
    refine XS.aloadN X4.here hx rfl (hb hby d13_30) rfl rfl ?_
    show Steps p.tables e below (T4.setTop (mkF m 31 #[.val (.ref vr0), .val (.int en1), .unset] [(.ref vr0)])) _
    refine st6 _ ?_
    refine XS.aloadN X6.here hx rfl (hb hby d13_34) rfl rfl ?_
    show Steps p.tables e below (T6.setTop (mkF m 35 #[.val (.ref vr0), .val (.int en1), .unset] [(.ref vr0), (.int w_at)])) _
    refine st7 _ ?_
    refine XS.isub X7.here hx rfl (hb hby d13_38) rfl ?_
    show Steps p.tables e below (T7.setTop (mkF m 39 #[.val (.ref vr0), .val (.int en1), .unset] [(.int (w_at - w_ps))])) _
    refine XS.istoreN X7.here hx rfl (hb hby d13_39) rfl (l' := #[.val (.ref vr0), .val (.int en1), .val (.int (w_at - w_ps))]) rfl ?_
    refine XS.aloadN X7.here hx rfl (hb hby d13_40) rfl rfl ?_
    refine XS.aloadN X7.here hx rfl (hb hby d13_41) rfl rfl ?_
    show Steps p.tables e below (T7.setTop (mkF m 42 #[.val (.ref vr0), .val (.int en1), .val (.int (w_at - w_ps))] [(.ref vr0), (.ref vr0)])) _
    refine st8 _ ?_
    show Steps p.tables e below (T8.setTop (mkF m 45 #[.val (.ref vr0), .val (.int en1), .val (.int (w_at - w_ps))] [(.int (1 : Int32)), (.ref vr0)])) _
    refine XS.ifNo X8.here hx rfl (hb hby d13_45) rfl ((if0 _ _).trans (feq (by decide : ¬ ((1 : Int32) = (0 : Int32)))).1) ?_
    refine XS.iloadN X8.here hx rfl (hb hby d13_48) rfl ?_
    refine XS.iloadN X8.here hx rfl (hb hby d13_49) rfl ?_
    refine XS.iadd X8.here hx rfl (hb hby d13_50) rfl ?_
    show Steps p.tables e below (T8.setTop (mkF m 51 #[.val (.ref vr0), .val (.int en1), .val (.int (w_at - w_ps))] [(.int (en1 + (w_at - w_ps))), (.ref vr0)])) _
    refine XS.sipush X8.here hx rfl (hb hby d13_51) ?_
    show Steps p.tables e below (T8.setTop (mkF m 54 #[.val (.ref vr0), .val (.int en1), .val (.int (w_at - w_ps))] [(.int (4096 : Int32)), (.int (en1 + (w_at - w_ps))), (.ref vr0)])) _
    refine XS.icmpNo X8.here hx rfl (hb hby d13_54) rfl (flt hc54).2.2.1 ?_
    refine XS.iconst X8.here hx rfl (hb hby d13_57) ?_
    refine XS.goto X8.here hx rfl (pc0 := 58) (pc' := 62) rfl (hb hby d13_58) (by decide) (by decide) ?_
    show Steps p.tables e below (T8.setTop (mkF m 62 #[.val (.ref vr0), .val (.int en1), .val (.int (w_at - w_ps))] [(.int (1 : Int32)), (.ref vr0)])) _
    refine st9 _ ?_
    refine XS.aloadN X9.here hx rfl (hb hby d13_65) rfl rfl ?_
    show Steps p.tables e below (T9.setTop (mkF m 66 #[.val (.ref vr0), .val (.int en1), .val (.int (w_at - w_ps))] [(.ref vr0)])) _
    refine st10 _ ?_
    show Steps p.tables e below (T10.setTop (mkF m 69 #[.val (.ref vr0), .val (.int en1), .val (.int (w_at - w_ps))] [(.int (1 : Int32))])) _
    refine XS.ifNo X10.here hx rfl (hb hby d13_69) rfl ((if0 _ _).trans (feq (by decide : ¬ ((1 : Int32) = (0 : Int32)))).1) ?_
    show Steps p.tables e below (T10.setTop (mkF m 72 #[.val (.ref vr0), .val (.int en1), .val (.int (w_at - w_ps))] [])) _
    refine XS.iloadN X10.here hx rfl (hb hby d13_72) rfl ?_
    refine XS.iloadN X10.here hx rfl (hb hby d13_73) rfl ?_
    refine XS.iadd X10.here hx rfl (hb hby d13_74) rfl ?_
    refine XS.aloadN X10.here hx rfl (hb hby d13_75) rfl rfl ?_
    show Steps p.tables e below (T10.setTop (mkF m 76 #[.val (.ref vr0), .val (.int en1), .val (.int (w_at - w_ps))] [(.ref vr0), (.int (en1 + (w_at - w_ps)))])) _
    refine st11 _ ?_
    show Steps p.tables e below (T11.setTop (mkF m 79 #[.val (.ref vr0), .val (.int en1), .val (.int (w_at - w_ps))] [(.ref P), (.int (en1 + (w_at - w_ps)))])) _
    refine X11.arraylength hx (by rw [e11]; exact Ar12.1) (State.isArrayOf_alike hZ.alike Ar12.2.1) (g := (mkF m 79 #[.val (.ref vr0), .val (.int en1), .val (.int (w_at - w_ps))] [(.ref P), (.int (en1 + (w_at - w_ps)))])) rfl rfl (hb hby d13_79) _ ?_
    rw [len_of Sz12 Ng12]
    show Steps p.tables e below (T11.setTop (mkF m 80 #[.val (.ref vr0), .val (.int en1), .val (.int (w_at - w_ps))] [(.int pn), (.int (en1 + (w_at - w_ps)))])) _
    refine XS.icmpNo X11.here hx rfl (hb hby d13_80) rfl (tlt hc80).2.2.2 ?_
    refine XS.aloadN X11.here hx rfl (hb hby d13_83) rfl rfl ?_
    show Steps p.tables e below (T11.setTop (mkF m 84 #[.val (.ref vr0), .val (.int en1), .val (.int (w_at - w_ps))] [(.ref vr0)])) _
    refine XS.aloadN X11.here hx rfl (hb hby d13_84) rfl rfl ?_
    show Steps p.tables e below (T11.setTop (mkF m 85 #[.val (.ref vr0), .val (.int en1), .val (.int (w_at - w_ps))] [(.ref vr0), (.ref vr0)])) _
    refine st13 _ ?_
    refine XS.iloadN X13.here hx rfl (hb hby d13_88) rfl ?_
    refine XS.iloadN X13.here hx rfl (hb hby d13_89) rfl ?_
    show Steps p.tables e below (T13.setTop (mkF m 90 #[.val (.ref vr0), .val (.int en1), .val (.int (w_at - w_ps))] [(.int (w_at - w_ps)), (.int en1), (.ref P), (.ref vr0)])) _
    refine XS.iadd X13.here hx rfl (hb hby d13_90) rfl ?_
    refine XS.iconst X13.here hx rfl (hb hby d13_91) ?_
    refine XS.aloadN X13.here hx rfl (hb hby d13_92) rfl rfl ?_
    show Steps p.tables e below (T13.setTop (mkF m 93 #[.val (.ref vr0), .val (.int en1), .val (.int (w_at - w_ps))] [(.ref vr0), (.int (2 : Int32)), (.int (en1 + (w_at - w_ps))), (.ref P), (.ref vr0)])) _
    refine st14 _ ?_
    show Steps p.tables e below (T14.setTop (mkF m 96 #[.val (.ref vr0), .val (.int en1), .val (.int (w_at - w_ps))] [(.ref P), (.int (2 : Int32)), (.int (en1 + (w_at - w_ps))), (.ref P), (.ref vr0)])) _
    refine X14.arraylength hx (by rw [e14]; exact Ar15.1) (State.isArrayOf_alike hZ.alike Ar15.2.1) (g := (mkF m 96 #[.val (.ref vr0), .val (.int en1), .val (.int (w_at - w_ps))] [(.ref P), (.int (2 : Int32)), (.int (en1 + (w_at - w_ps))), (.ref P), (.ref vr0)])) rfl rfl (hb hby d13_96) _ ?_
    rw [len_of Sz15 Ng15]
    refine XS.imul X14.here hx rfl (hb hby d13_97) rfl ?_
    show Steps p.tables e below (T14.setTop (mkF m 98 #[.val (.ref vr0), .val (.int en1), .val (.int (w_at - w_ps))] [(.int ((2 : Int32) * pn)), (.int (en1 + (w_at - w_ps))), (.ref P), (.ref vr0)])) _
    refine st16 _ ?_
    refine XS.sipush X16.here hx rfl (hb hby d13_101) ?_
    show Steps p.tables e below (T16.setTop (mkF m 104 #[.val (.ref vr0), .val (.int en1), .val (.int (w_at - w_ps))] [(.int (4096 : Int32)), (.int (own_max (en1 + (w_at - w_ps)) ((2 : Int32) * pn))), (.ref P), (.ref vr0)])) _
    refine st17 _ ?_
    show Steps p.tables e below (T17.setTop (mkF m 107 #[.val (.ref vr0), .val (.int en1), .val (.int (w_at - w_ps))] [(.int (own_min (own_max (en1 + (w_at - w_ps)) ((2 : Int32) * pn)) (4096 : Int32))), (.ref P), (.ref vr0)])) _
    refine st18 _ ?_
    show Steps p.tables e below (T18.setTop (mkF m 110 #[.val (.ref vr0), .val (.int en1), .val (.int (w_at - w_ps))] [(.ref t18), (.ref vr0)])) _
    refine st19 _ ?_
    refine XS.aloadN X19.here hx rfl (hb hby d13_113) rfl rfl ?_
    show Steps p.tables e below (T19.setTop (mkF m 114 #[.val (.ref vr0), .val (.int en1), .val (.int (w_at - w_ps))] [(.ref vr0)])) _
    refine st20 _ ?_
    refine XS.aloadN X20.here hx rfl (hb hby d13_117) rfl rfl ?_
    show Steps p.tables e below (T20.setTop (mkF m 118 #[.val (.ref vr0), .val (.int en1), .val (.int (w_at - w_ps))] [(.ref vr0), (.int (2 : Int32))])) _
    refine st21 _ ?_
    show Steps p.tables e below (T21.setTop (mkF m 121 #[.val (.ref vr0), .val (.int en1), .val (.int (w_at - w_ps))] [(.ref EN), (.int (2 : Int32))])) _
    refine X21.arraylength hx (by rw [e21]; exact Ar22.1) (State.isArrayOf_alike hZ.alike Ar22.2.1) (g := (mkF m 121 #[.val (.ref vr0), .val (.int en1), .val (.int (w_at - w_ps))] [(.ref EN), (.int (2 : Int32))])) rfl rfl (hb hby d13_121) _ ?_
    rw [len_of Sz22 Ng22]
    show Steps p.tables e below (T21.setTop (mkF m 122 #[.val (.ref vr0), .val (.int en1), .val (.int (w_at - w_ps))] [(.int (16 : Int32)), (.int (2 : Int32))])) _
    refine XS.icmpYes X21.here hx rfl (pc0 := 122) (pc' := 142) rfl (hb hby d13_122) rfl (feq (by decide : ¬ ((2 : Int32) = (16 : Int32)))).2 (by decide) (by decide) ?_
    refine XS.aloadN X21.here hx rfl (hb hby d13_142) rfl rfl ?_
    show Steps p.tables e below (T21.setTop (mkF m 143 #[.val (.ref vr0), .val (.int en1), .val (.int (w_at - w_ps))] [(.ref vr0)])) _
    refine st23 _ ?_
    refine XS.aloadN X23.here hx rfl (hb hby d13_146) rfl rfl ?_
    show Steps p.tables e below (T23.setTop (mkF m 147 #[.val (.ref vr0), .val (.int en1), .val (.int (w_at - w_ps))] [(.ref vr0), (.ref B)])) _
    refine st24 _ ?_
    refine XS.aloadN X24.here hx rfl (hb hby d13_150) rfl rfl ?_
    show Steps p.tables e below (T24.setTop (mkF m 151 #[.val (.ref vr0), .val (.int en1), .val (.int (w_at - w_ps))] [(.ref vr0), (.int w_ps), (.ref B)])) _
    refine st25 _ ?_
    refine XS.iloadN X25.here hx rfl (hb hby d13_154) rfl ?_
    show Steps p.tables e below (T25.setTop (mkF m 155 #[.val (.ref vr0), .val (.int en1), .val (.int (w_at - w_ps))] [(.int en1), (.ref t18), (.int w_ps), (.ref B)])) _
    refine XS.iloadN X25.here hx rfl (hb hby d13_155) rfl ?_
    show Steps p.tables e below (T25.setTop (mkF m 156 #[.val (.ref vr0), .val (.int en1), .val (.int (w_at - w_ps))] [(.int (w_at - w_ps)), (.int en1), (.ref t18), (.int w_ps), (.ref B)])) _
    refine st26 _ ?_
    refine XS.aloadN X26.here hx rfl (hb hby d13_159) rfl rfl ?_
    show Steps p.tables e below (T26.setTop (mkF m 160 #[.val (.ref vr0), .val (.int en1), .val (.int (w_at - w_ps))] [(.ref vr0)])) _
    refine st27 _ ?_
    show Steps p.tables e below (T27.setTop (mkF m 163 #[.val (.ref vr0), .val (.int en1), .val (.int (w_at - w_ps))] [(.ref EN)])) _
    refine XS.aloadN X27.here hx rfl (hb hby d13_163) rfl rfl ?_
    show Steps p.tables e below (T27.setTop (mkF m 164 #[.val (.ref vr0), .val (.int en1), .val (.int (w_at - w_ps))] [(.ref vr0), (.ref EN)])) _
    refine st28 _ ?_
    refine XS.iloadN X28.here hx rfl (hb hby d13_167) rfl ?_
    refine XS.iloadN X28.here hx rfl (hb hby d13_168) rfl ?_
    show Steps p.tables e below (T28.setTop (mkF m 169 #[.val (.ref vr0), .val (.int en1), .val (.int (w_at - w_ps))] [(.int (w_at - w_ps)), (.int en1), (.int (2 : Int32)), (.ref EN)])) _
    refine XS.iadd X28.here hx rfl (hb hby d13_169) rfl ?_
    show Steps p.tables e below (T28.setTop (mkF m 170 #[.val (.ref vr0), .val (.int en1), .val (.int (w_at - w_ps))] [(.int (en1 + (w_at - w_ps))), (.int (2 : Int32)), (.ref EN)])) _
    refine st29 _ ?_
    exact X29.returnOut hx Bd.returns (hb hby d13_171) hr
  · show Q13_e2f Z vr0 B w_at u_end P EN TG u_shapeReader w_ps kE pn kP vP kB vB kT en0 en1 en2 tg0 tg1 h0 n0 _ T29.heap _
    rw [e29]
    exact ⟨t18, kt18, (own_min (own_max (en1 + (w_at - w_ps)) ((2 : Int32) * pn)) (4096 : Int32)), ((vt18).take (en1).toNatClampNeg ++ ((List.range ((w_at - w_ps)).toNatClampNeg).map fun i => (vB).getD ((w_ps).toNatClampNeg + i) (.int (0 : Int32))) ++ (vt18).drop ((en1).toNatClampNeg + ((w_at - w_ps)).toNatClampNeg)), rfl, N29, K29, (((((F_bytes_vr0.other W9 (Or.inr (sl_78 hw))).keep p18_0 nin0).other W19 (Or.inr (sl_13 hw))).keep p26_0 (ninS (Nat.ne_of_lt (Nat.lt_of_lt_of_le (E_vr0.wr W9).lt p18_1)) nin0)).other W29 (Or.inl (Ne.symm ne_EN_vr0))), (((((F_at_vr0.other W9 (Or.inr (sl_72 hw))).keep p18_0 nin0).other W19 (Or.inr (sl_18 hw))).keep p26_0 (ninS (Nat.ne_of_lt (Nat.lt_of_lt_of_le (E_vr0.wr W9).lt p18_1)) nin0)).other W29 (Or.inl (Ne.symm ne_EN_vr0))), (((((F_end_vr0.other W9 (Or.inr (sl_83 hw))).keep p18_0 nin0).other W19 (Or.inr (sl_23 hw))).keep p26_0 (ninS (Nat.ne_of_lt (Nat.lt_of_lt_of_le (E_vr0.wr W9).lt p18_1)) nin0)).other W29 (Or.inl (Ne.symm ne_EN_vr0))), ((Fw19.keep p26_0 (ninS (Nat.ne_of_lt (Nat.lt_of_lt_of_le (E_vr0.wr W9).lt p18_1)) nin0)).other W29 (Or.inl (Ne.symm ne_EN_vr0))), (((((F_partEnds_vr0.other W9 (Or.inr (sl_91 hw))).keep p18_0 nin0).other W19 (Or.inr (sl_7 hw))).keep p26_0 (ninS (Nat.ne_of_lt (Nat.lt_of_lt_of_le (E_vr0.wr W9).lt p18_1)) nin0)).other W29 (Or.inl (Ne.symm ne_EN_vr0))), (((((F_tags_vr0.other W9 (Or.inr (sl_95 hw))).keep p18_0 nin0).other W19 (Or.inr (sl_10 hw))).keep p26_0 (ninS (Nat.ne_of_lt (Nat.lt_of_lt_of_le (E_vr0.wr W9).lt p18_1)) nin0)).other W29 (Or.inl (Ne.symm ne_EN_vr0))), (((((F_shapeReader_vr0.other W9 (Or.inr (sl_98 hw))).keep p18_0 nin0).other W19 (Or.inr (sl_31 hw))).keep p26_0 (ninS (Nat.ne_of_lt (Nat.lt_of_lt_of_le (E_vr0.wr W9).lt p18_1)) nin0)).other W29 (Or.inl (Ne.symm ne_EN_vr0))), (((((F_values_vr0.other W9 (Or.inr (sl_100 hw))).keep p18_0 nin0).other W19 (Or.inr (sl_36 hw))).keep p26_0 (ninS (Nat.ne_of_lt (Nat.lt_of_lt_of_le (E_vr0.wr W9).lt p18_1)) nin0)).other W29 (Or.inl (Ne.symm ne_EN_vr0))), ((((Fw9.keep p18_0 nin0).other W19 (Or.inr (sl_41 hw))).keep p26_0 (ninS (Nat.ne_of_lt (Nat.lt_of_lt_of_le (E_vr0.wr W9).lt p18_1)) nin0)).other W29 (Or.inl (Ne.symm ne_EN_vr0))), (((((F_partStart_vr0.other W9 (Or.inr (sl_75 hw))).keep p18_0 nin0).other W19 (Or.inr (sl_46 hw))).keep p26_0 (ninS (Nat.ne_of_lt (Nat.lt_of_lt_of_le (E_vr0.wr W9).lt p18_1)) nin0)).other W29 (Or.inl (Ne.symm ne_EN_vr0))), V_EN_29, (V26.other W29 (Ne.symm (Nat.ne_of_lt (Nat.lt_of_lt_of_le (V_EN.other W9 ne_EN_vr0).lt p18_1)))), ((own_len own_ul hl26).trans p18_3), (own_L hp1 hp2 hc80 hc54).2.2.2.2.2.1, (own_L hp1 hp2 hc80 hc54).2.2.2.2.2.2, g_t18, (Or.inr sz_t18), (Ne.symm (Nat.ne_of_lt (Nat.lt_of_lt_of_le (E_vr0.wr W9).lt p18_1))), (Ne.symm (Nat.ne_of_lt (Nat.lt_of_lt_of_le (V_EN.other W9 ne_EN_vr0).lt p18_1))), (Ne.symm (Nat.ne_of_lt (Nat.lt_of_lt_of_le (V_B.other W9 ne_B_vr0).lt p18_1))), (Ne.symm (Nat.ne_of_lt (Nat.lt_of_lt_of_le (V_TG.other W9 ne_TG_vr0).lt p18_1)))⟩
theorem ef_13_e2t (m : MethodId) (x0 : Addr) : entryFrame m #[(.ref x0)] 3 = mkF m 0 #[.val (.ref x0), .unset, .unset] [] := by first | (simp [entryFrame, mkF, argsToLocals, Value.category]; done) | rfl
def Q13_e2t (Z : State) (vr0 : Addr) (B : Addr) (w_at : Int32) (u_end : Value) (P : Addr) (EN : Addr) (TG : Addr) (u_shapeReader : Value) (w_ps : Int32) (kE : ClassId) (pn : Int32) (kP : ClassId) (vP : List Value) (kB : ClassId) (vB : List Value) (kT : ClassId) (en0 : Int32) (en1 : Int32) (en2 : Int32) (tg0 : Value) (tg1 : Value) (h0 : Heap) (n0 : Nat) (v : Option Value) (h : Heap) (L : List Loc) : Prop := ∃ p2 : Addr, ∃ k2 : ClassId, ∃ n2 : Int32, ∃ v2 : List Value, v = none ∧ Fr n0 L ∧ Keep h0 h [vr0, P, EN] ∧ Fld Z h vr0 "com/example/careful_ledger/carefulledger/json/PlainLine" "bytes" "[B" (.ref B) ∧ Fld Z h vr0 "com/example/careful_ledger/carefulledger/json/PlainLine" "at" "I" (.int w_at) ∧ Fld Z h vr0 "com/example/careful_ledger/carefulledger/json/PlainLine" "end" "I" u_end ∧ Fld Z h vr0 "com/example/careful_ledger/carefulledger/json/PlainLine" "parts" "[B" (.ref p2) ∧ Fld Z h vr0 "com/example/careful_ledger/carefulledger/json/PlainLine" "partEnds" "[I" (.ref EN) ∧ Fld Z h vr0 "com/example/careful_ledger/carefulledger/json/PlainLine" "tags" "[Ljava/lang/Object;" (.ref TG) ∧ Fld Z h vr0 "com/example/careful_ledger/carefulledger/json/PlainLine" "shapeReader" "Ljava/lang/Object;" u_shapeReader ∧ Fld Z h vr0 "com/example/careful_ledger/carefulledger/json/PlainLine" "values" "I" (.int (2 : Int32)) ∧ Fld Z h vr0 "com/example/careful_ledger/carefulledger/json/PlainLine" "learning" "Z" (.int (1 : Int32)) ∧ Fld Z h vr0 "com/example/careful_ledger/carefulledger/json/PlainLine" "partStart" "I" (.int w_ps) ∧ Arv Z h EN kE .int (16 : Int32) [(.int en0), (.int en1), (.int (en1 + (w_at - w_ps)))] (.int (0 : Int32)) ∧ Arv Z h p2 k2 .byte n2 v2 (.int (0 : Int32)) ∧ v2.length = n2.toNatClampNeg ∧ ¬ n2 < (64 : Int32) ∧ ¬ (4096 : Int32) < n2 ∧ n0 ≤ p2 ∧ (P = p2 ∨ h0.size ≤ p2) ∧ p2 ≠ vr0 ∧ p2 ≠ EN ∧ p2 ≠ B ∧ p2 ≠ TG
set_option maxRecDepth 65536 in
set_option maxHeartbeats 40000000 in
theorem rm13_e2t (l : Launch) (Z : State) (a0 : Array Value) (hw : ∀ d ∈ tables_1, d.before a0 Z = true) (ws : List Jvm.Cond) (vr0 : Addr) (B : Addr) (w_at : Int32) (u_end : Value) (P : Addr) (EN : Addr) (TG : Addr) (u_shapeReader : Value) (w_ps : Int32) (kE : ClassId) (pn : Int32) (kP : ClassId) (vP : List Value) (kB : ClassId) (vB : List Value) (kT : ClassId) (en0 : Int32) (en1 : Int32) (en2 : Int32) (tg0 : Value) (tg1 : Value) (h0 : Heap) (n0 : Nat) (Z0 : n0 ≤ h0.size) (E_vr0 : Exa Z h0 vr0 "com/example/careful_ledger/carefulledger/json/PlainLine") (F_bytes_vr0 : Fld Z h0 vr0 "com/example/careful_ledger/carefulledger/json/PlainLine" "bytes" "[B" (.ref B)) (F_at_vr0 : Fld Z h0 vr0 "com/example/careful_ledger/carefulledger/json/PlainLine" "at" "I" (.int w_at)) (F_end_vr0 : Fld Z h0 vr0 "com/example/careful_ledger/carefulledger/json/PlainLine" "end" "I" u_end) (F_parts_vr0 : Fld Z h0 vr0 "com/example/careful_ledger/carefulledger/json/PlainLine" "parts" "[B" (.ref P)) (F_partEnds_vr0 : Fld Z h0 vr0 "com/example/careful_ledger/carefulledger/json/PlainLine" "partEnds" "[I" (.ref EN)) (F_tags_vr0 : Fld Z h0 vr0 "com/example/careful_ledger/carefulledger/json/PlainLine" "tags" "[Ljava/lang/Object;" (.ref TG)) (F_shapeReader_vr0 : Fld Z h0 vr0 "com/example/careful_ledger/carefulledger/json/PlainLine" "shapeReader" "Ljava/lang/Object;" u_shapeReader) (F_values_vr0 : Fld Z h0 vr0 "com/example/careful_ledger/carefulledger/json/PlainLine" "values" "I" (.int (2 : Int32))) (F_learning_vr0 : Fld Z h0 vr0 "com/example/careful_ledger/carefulledger/json/PlainLine" "learning" "Z" (.int (1 : Int32))) (F_partStart_vr0 : Fld Z h0 vr0 "com/example/careful_ledger/carefulledger/json/PlainLine" "partStart" "I" (.int w_ps)) (V_EN : Arv Z h0 EN kE .int (16 : Int32) [(.int en0), (.int en1), (.int en2)] (.int (0 : Int32))) (V_P : Arv Z h0 P kP .byte pn vP (.int (0 : Int32))) (V_B : Arv Z h0 B kB .byte (6144 : Int32) vB (.int (0 : Int32))) (V_TG : Arv Z h0 TG kT (.object "java/lang/Object") (16 : Int32) [tg0, tg1] .null) (hvP : vP.length = pn.toNatClampNeg) (hp1 : ¬ pn < (64 : Int32)) (hp2 : ¬ (4096 : Int32) < pn) (g_vr0 : n0 ≤ vr0) (g_P : n0 ≤ P) (g_EN : n0 ≤ EN) (g_TG : n0 ≤ TG) (ne_P_vr0 : P ≠ vr0) (ne_EN_vr0 : EN ≠ vr0) (ne_TG_vr0 : TG ≠ vr0) (ne_B_vr0 : B ≠ vr0) (ne_P_EN : P ≠ EN) (ne_P_TG : P ≠ TG) (ne_P_B : P ≠ B) (ne_EN_TG : EN ≠ TG) (ne_EN_B : EN ≠ B) (ne_TG_B : TG ≠ B) (OvT : Ovr Z kT "java/lang/Object") (lq1 : ¬ w_ps < 0) (lq2 : ¬ en1 < 0) (lq3 : ¬ (w_at - w_ps) < 0) (lq4 : w_ps.toNatClampNeg + (w_at - w_ps).toNatClampNeg ≤ (6144 : Int32).toNatClampNeg) (lq5 : en1.toNatClampNeg + (w_at - w_ps).toNatClampNeg ≤ (en1 + (w_at - w_ps)).toNatClampNeg) (lq6 : ¬ (en1 + (w_at - w_ps)) < 0) (hc54 : ¬ ((4096 : Int32) < (en1 + (w_at - w_ps)))) (hc80 : ¬ (pn < (en1 + (w_at - w_ps)))) :
    MetFree l (⟨"com/example/careful_ledger/carefulledger/json/PlainLine", "endPart", "()V"⟩ : MethodName) (head1 (Jvm.Cond.code (⟨"com/example/careful_ledger/carefulledger/json/PlainLine", "endPart", "()V"⟩ : MethodName) prog_58_method_12_code 3 none :: ws) ({ frames := 2, cells := 1, slots := 4096, locals := 33 } : Room)) (fun a U => a = #[(.ref vr0)] ∧ Z.Warmed39 U.vm ∧ U.heap = h0) (fun _ _ _ _ _ => True) (fun _ U o U' => ∃ v L, o = .returned v ∧ Q13_e2t Z vr0 B w_at u_end P EN TG u_shapeReader w_ps kE pn kP vP kB vB kT en0 en1 en2 tg0 tg1 h0 n0 v U'.heap L ∧ FrameEnd U o U' L ({ frames := 2, cells := 1, slots := 4096, locals := 33 } : Room).cells ({ frames := 2, cells := 1, slots := 4096, locals := 33 } : Room).slots) := by
  refine MetFree.of_bodySF (plainFor_of_name pn_com_example_careful_ledger_carefulledger_json_PlainLine) hisR ?_
  intro p e s m args below meth c s₁ Bd hml0 hP hK
  obtain ⟨rfl, hZ, hh⟩ := hP
  have hx := Bd.exec
  have hby := Bd.bytes
  have hml : c.maxLocals = 3 := hml0
  have hown : s.vm.findClass "com/example/careful_ledger/carefulledger/json/PlainLine" = some m.cls := findClass_of_methodNamed Bd.named
  have hnm := (name_of_methodNamed Bd.named Bd.method).1
  have X0 : Stand p l e ({ frames := 2, cells := 1, slots := 4096, locals := 33 } : Room) s m #[(.ref vr0)] below meth c s₁ [] 0 0 := Stand.of_body Bd
  have e0 : s₁.heap = h0 := by rw [← hh, Bd.state]; rfl
  have N0 := Fr.nil n0
  have pre0 : ∀ t, Steps p.tables e below (s₁.setTop (mkF m 0 #[.val (.ref vr0), .unset, .unset] [])) t → Steps p.tables e below (s₁.setTop (entryFrame m #[(.ref vr0)] 3)) t := fun t k => castTop (ef_13_e2t m vr0) k
  obtain ⟨T1, X1, e1, st1⟩ := getF X0 hx hZ hown (host := "") (Or.inl (wd_80 hw)) Via.refl e0 F_learning_vr0 (g := (mkF m 1 #[.val (.ref vr0), .unset, .unset] [(.ref vr0)])) rfl rfl (hb hby d13_1)
  obtain ⟨T2, X2, e2, st2⟩ := getF X1 hx hZ hown (host := "") (Or.inl (wd_78 hw)) Via.refl e1 F_values_vr0 (g := (mkF m 8 #[.val (.ref vr0), .unset, .unset] [(.ref vr0)])) rfl rfl (hb hby d13_8)
  obtain ⟨T3, X3, e3, st3⟩ := getF X2 hx hZ hown (host := "") (Or.inl (wd_56 hw)) Via.refl e2 F_partEnds_vr0 (g := (mkF m 15 #[.val (.ref vr0), .unset, .unset] [(.ref vr0)])) rfl rfl (hb hby d13_15)
  obtain ⟨T4, X4, e4, st4⟩ := getF X3 hx hZ hown (host := "") (Or.inl (wd_78 hw)) Via.refl e3 F_values_vr0 (g := (mkF m 19 #[.val (.ref vr0), .unset, .unset] [(.ref vr0), (.ref EN)])) rfl rfl (hb hby d13_19)
  obtain ⟨cl5, Ar5, q5, Sz5, Ng5, Hh5, Gg5⟩ := (id V_EN)
  have hin5 : ¬ ((1 : Int32) < 0 ∨ cl5.slots.size ≤ ((1 : Int32)).toNatClampNeg) := inb_of Sz5 ⟨by decide, by decide⟩
  have hat5 : cl5.slots[((1 : Int32)).toNatClampNeg]? = some (.int en1) := Hh5.at hin5 rfl
  obtain ⟨T6, X6, e6, st6⟩ := getF X4 hx hZ hown (host := "") (Or.inl (wd_67 hw)) Via.refl e4 F_at_vr0 (g := (mkF m 31 #[.val (.ref vr0), .val (.int en1), .unset] [(.ref vr0)])) rfl rfl (hb hby d13_31)
  obtain ⟨T7, X7, e7, st7⟩ := getF X6 hx hZ hown (host := "") (Or.inl (wd_82 hw)) Via.refl e6 F_partStart_vr0 (g := (mkF m 35 #[.val (.ref vr0), .val (.int en1), .unset] [(.ref vr0), (.int w_at)])) rfl rfl (hb hby d13_35)
  obtain ⟨T8, X8, e8, st8⟩ := getF X7 hx hZ hown (host := "") (Or.inl (wd_80 hw)) Via.refl e7 F_learning_vr0 (g := (mkF m 42 #[.val (.ref vr0), .val (.int en1), .val (.int (w_at - w_ps))] [(.ref vr0), (.ref vr0)])) rfl rfl (hb hby d13_42)
  obtain ⟨T9, h9, X9, e9, W9, st9⟩ := putFN X8 hx hZ hown (wd_80 hw) Via.refl e8 F_learning_vr0 E_vr0 (Or.inl (wd_81 hw)) (wd_32 hw) (ty := .boolean) (v := (.int (1 : Int32))) (v' := (.int (1 : Int32))) (by decide) rfl (by decide) (g := (mkF m 62 #[.val (.ref vr0), .val (.int en1), .val (.int (w_at - w_ps))] [(.int (1 : Int32)), (.ref vr0)])) rfl rfl (hb hby d13_62)
  have Fw9 := F_learning_vr0.same W9
  have N9 := Fr.snoc X9 N0 g_vr0
  have K9 : Keep h0 h9 [vr0, P, EN] := (Keep.refl h0 [vr0, P, EN]).wr W9 (Or.inl (List.mem_of_getElem? (i := 0) rfl))
  obtain ⟨T10, X10, e10, st10⟩ := getF X9 hx hZ hown (host := "") (Or.inl (wd_80 hw)) Via.refl e9 Fw9 (g := (mkF m 66 #[.val (.ref vr0), .val (.int en1), .val (.int (w_at - w_ps))] [(.ref vr0)])) rfl rfl (hb hby d13_66)
  obtain ⟨T11, X11, e11, st11⟩ := getF X10 hx hZ hown (host := "") (Or.inl (wd_53 hw)) Via.refl e10 (F_parts_vr0.other W9 (Or.inr (sl_87 hw))) (g := (mkF m 76 #[.val (.ref vr0), .val (.int en1), .val (.int (w_at - w_ps))] [(.ref vr0), (.int (en1 + (w_at - w_ps)))])) rfl rfl (hb hby d13_76)
  obtain ⟨cl12, Ar12, -, Sz12, Ng12, -, -⟩ := (id (V_P.other W9 ne_P_vr0))
  obtain ⟨T13, X13, e13, st13⟩ := getF X11 hx hZ hown (host := "") (Or.inl (wd_78 hw)) Via.refl e11 (F_values_vr0.other W9 (Or.inr (sl_100 hw))) (g := (mkF m 114 #[.val (.ref vr0), .val (.int en1), .val (.int (w_at - w_ps))] [(.ref vr0)])) rfl rfl (hb hby d13_114)
  obtain ⟨T14, X14, e14, st14⟩ := getF X13 hx hZ hown (host := "") (Or.inl (wd_56 hw)) Via.refl e13 (F_partEnds_vr0.other W9 (Or.inr (sl_91 hw))) (g := (mkF m 118 #[.val (.ref vr0), .val (.int en1), .val (.int (w_at - w_ps))] [(.ref vr0), (.int (2 : Int32))])) rfl rfl (hb hby d13_118)
  obtain ⟨cl15, Ar15, -, Sz15, Ng15, -, -⟩ := (id (V_EN.other W9 ne_EN_vr0))
  obtain ⟨T16, X16, e16, st16⟩ := getF X14 hx hZ hown (host := "") (Or.inl (wd_38 hw)) Via.refl e14 (F_bytes_vr0.other W9 (Or.inr (sl_78 hw))) (g := (mkF m 143 #[.val (.ref vr0), .val (.int en1), .val (.int (w_at - w_ps))] [(.ref vr0)])) rfl rfl (hb hby d13_143)
  obtain ⟨T17, X17, e17, st17⟩ := getF X16 hx hZ hown (host := "") (Or.inl (wd_82 hw)) Via.refl e16 (F_partStart_vr0.other W9 (Or.inr (sl_75 hw))) (g := (mkF m 147 #[.val (.ref vr0), .val (.int en1), .val (.int (w_at - w_ps))] [(.ref vr0), (.ref B)])) rfl rfl (hb hby d13_147)
  obtain ⟨T18, X18, e18, st18⟩ := getF X17 hx hZ hown (host := "") (Or.inl (wd_53 hw)) Via.refl e17 (F_parts_vr0.other W9 (Or.inr (sl_87 hw))) (g := (mkF m 151 #[.val (.ref vr0), .val (.int en1), .val (.int (w_at - w_ps))] [(.ref vr0), (.int w_ps), (.ref B)])) rfl rfl (hb hby d13_151)
  have hl19 : (en1).toNatClampNeg + ((w_at - w_ps)).toNatClampNeg ≤ (vP).length := by rw [hvP]; exact (Nat.le_trans lq5 (own_clamp lq6 hc80))
  obtain ⟨T19, h19, L19, X19, e19, N19, p19_0, V19, st19⟩ := cpA X18 hx hZ hown (wd_98 hw) (wd_101 hw) (wd_99 hw) (wd_100 hw) e18 (V_B.other W9 ne_B_vr0) (V_P.other W9 ne_P_vr0) (Or.inl ⟨rfl, rfl⟩) lq1 lq2 lq3 lq4 (Nat.le_trans lq5 (own_clamp lq6 hc80)) (us := _) rfl hl19 N9 g_P (g := (mkF m 156 #[.val (.ref vr0), .val (.int en1), .val (.int (w_at - w_ps))] [(.int (w_at - w_ps)), (.int en1), (.ref P), (.int w_ps), (.ref B)])) rfl (by rw [hml]; rfl) rfl (hb hby d13_156) (by decide) (W := 0) (by show 2 * 0 + _ ≤ _; exact Nat.le_of_eq rfl) (by decide)
  have K19 : Keep h0 h19 [vr0, P, EN] := K9.trans p19_0 (allS (Or.inl (List.mem_of_getElem? (i := 1) rfl)) all0)
  obtain ⟨T20, X20, e20, st20⟩ := getF X19 hx hZ hown (host := "") (Or.inl (wd_56 hw)) Via.refl e19 ((F_partEnds_vr0.other W9 (Or.inr (sl_91 hw))).keep p19_0 (ninS (Ne.symm ne_P_vr0) nin0)) (g := (mkF m 160 #[.val (.ref vr0), .val (.int en1), .val (.int (w_at - w_ps))] [(.ref vr0)])) rfl rfl (hb hby d13_160)
  obtain ⟨T21, X21, e21, st21⟩ := getF X20 hx hZ hown (host := "") (Or.inl (wd_78 hw)) Via.refl e20 ((F_values_vr0.other W9 (Or.inr (sl_100 hw))).keep p19_0 (ninS (Ne.symm ne_P_vr0) nin0)) (g := (mkF m 164 #[.val (.ref vr0), .val (.int en1), .val (.int (w_at - w_ps))] [(.ref vr0), (.ref EN)])) rfl rfl (hb hby d13_164)
  obtain ⟨cl22, Ar22, q22, Sz22, Ng22, Hh22, Gg22⟩ := (id ((V_EN.other W9 ne_EN_vr0).keep p19_0 (ninS (Ne.symm ne_P_EN) nin0)))
  have hin22 : ¬ ((2 : Int32) < 0 ∨ cl22.slots.size ≤ ((2 : Int32)).toNatClampNeg) := inb_of Sz22 ⟨by decide, by decide⟩
  obtain ⟨T22, h22, X22, e22, W22, st22⟩ := stI X21 hx hZ e21 Ar22 (j := (2 : Int32)) hin22 (g := (mkF m 170 #[.val (.ref vr0), .val (.int en1), .val (.int (w_at - w_ps))] [(.int (en1 + (w_at - w_ps))), (.int (2 : Int32)), (.ref EN)])) rfl rfl (hb hby d13_170)
  have V_EN_22 : Arv Z h22 EN kE .int (16 : Int32) [(.int en0), (.int en1), (.int (en1 + (w_at - w_ps)))] (.int (0 : Int32)) := Arv.set Ar22 q22 Sz22 Ng22 Hh22 Gg22 rfl W22 2 rfl (Nat.le_of_ble_eq_true rfl)
  have N22 := Fr.snoc X22 N19 g_EN
  have K22 : Keep h0 h22 [vr0, P, EN] := K19.wr W22 (Or.inl (List.mem_of_getElem? (i := 2) rfl))
  obtain ⟨fs, hr, hrun, hended, hW, hsame⟩ := X22.leave (v := none) (fun _ => rfl)
  refine ⟨_, _, pre0 _ ?_, hrun, hended, _, _, rfl, ?_, ⟨_, rfl⟩, hW, hsame.mono (by decide) (by decide)⟩
  · show Steps p.tables e below (s₁.setTop (mkF m 0 #[.val (.ref vr0), .unset, .unset] [])) _
    refine XS.aloadN X0.here hx rfl (hb hby d13_0) rfl rfl ?_
    show Steps p.tables e below (s₁.setTop (mkF m 1 #[.val (.ref vr0), .unset, .unset] [(.ref vr0)])) _
    refine st1 _ ?_
    show Steps p.tables e below (T1.setTop (mkF m 4 #[.val (.ref vr0), .unset, .unset] [(.int (1 : Int32))])) _
    refine XS.ifNo X1.here hx rfl (hb hby d13_4) rfl ((if0 _ _).trans (feq (by decide : ¬ ((1 : Int32) = (0 : Int32)))).1) ?_
    refine XS.aloadN X1.here hx rfl (hb hby d13_7) rfl rfl ?_
    show Steps p.tables e below (T1.setTop (mkF m 8 #[.val (.ref vr0), .unset, .unset] [(.ref vr0)])) _
    refine st2 _ ?_
    show Steps p.tables e below (T2.setTop (mkF m 11 #[.val (.ref vr0), .unset, .unset] [(.int (2 : Int32))])) _
    refine XS.ifNo X2.here hx rfl (hb hby d13_11) rfl ((if0 _ _).trans (tlt (by decide : (0 : Int32) < (2 : Int32))).2.2.2) ?_
    refine XS.aloadN X2.here hx rfl (hb hby d13_14) rfl rfl ?_
    show Steps p.tables e below (T2.setTop (mkF m 15 #[.val (.ref vr0), .unset, .unset] [(.ref vr0)])) _
    refine st3 _ ?_
    show Steps p.tables e below (T3.setTop (mkF m 18 #[.val (.ref vr0), .unset, .unset] [(.ref EN)])) _
    refine XS.aloadN X3.here hx rfl (hb hby d13_18) rfl rfl ?_
    show Steps p.tables e below (T3.setTop (mkF m 19 #[.val (.ref vr0), .unset, .unset] [(.ref vr0), (.ref EN)])) _
    refine st4 _ ?_
    refine XS.iconst X4.here hx rfl (hb hby d13_22) ?_
    refine XS.isub X4.here hx rfl (hb hby d13_23) rfl ?_
    show Steps p.tables e below (T4.setTop (mkF m 24 #[.val (.ref vr0), .unset, .unset] [(.int (1 : Int32)), (.ref EN)])) _
    refine X4.iaload hx (j := (1 : Int32)) (v := (.int en1)) (by rw [e4]; exact Ar5.1) (State.isArrayOf_alike hZ.alike Ar5.2.1) Ar5.2.2 hin5 hat5 (g := (mkF m 24 #[.val (.ref vr0), .unset, .unset] [(.int (1 : Int32)), (.ref EN)])) rfl rfl (hb hby d13_24) _ ?_
    refine XS.goto X4.here hx rfl (pc0 := 25) (pc' := 29) rfl (hb hby d13_25) (by decide) (by decide) ?_
    refine XS.istoreN X4.here hx rfl (hb hby d13_29) rfl (l' := #[.val (.ref vr0), .val (.int en1), .unset]) rfl ?_
    refine XS.aloadN X4.here hx rfl (hb hby d13_30) rfl rfl ?_
    show Steps p.tables e below (T4.setTop (mkF m 31 #[.val (.ref vr0), .val (.int en1), .unset] [(.ref vr0)])) _
    refine st6 _ ?_
    refine XS.aloadN X6.here hx rfl (hb hby d13_34) rfl rfl ?_
    show Steps p.tables e below (T6.setTop (mkF m 35 #[.val (.ref vr0), .val (.int en1), .unset] [(.ref vr0), (.int w_at)])) _
    refine st7 _ ?_
    refine XS.isub X7.here hx rfl (hb hby d13_38) rfl ?_
    show Steps p.tables e below (T7.setTop (mkF m 39 #[.val (.ref vr0), .val (.int en1), .unset] [(.int (w_at - w_ps))])) _
    refine XS.istoreN X7.here hx rfl (hb hby d13_39) rfl (l' := #[.val (.ref vr0), .val (.int en1), .val (.int (w_at - w_ps))]) rfl ?_
    refine XS.aloadN X7.here hx rfl (hb hby d13_40) rfl rfl ?_
    refine XS.aloadN X7.here hx rfl (hb hby d13_41) rfl rfl ?_
    show Steps p.tables e below (T7.setTop (mkF m 42 #[.val (.ref vr0), .val (.int en1), .val (.int (w_at - w_ps))] [(.ref vr0), (.ref vr0)])) _
    refine st8 _ ?_
    show Steps p.tables e below (T8.setTop (mkF m 45 #[.val (.ref vr0), .val (.int en1), .val (.int (w_at - w_ps))] [(.int (1 : Int32)), (.ref vr0)])) _
    refine XS.ifNo X8.here hx rfl (hb hby d13_45) rfl ((if0 _ _).trans (feq (by decide : ¬ ((1 : Int32) = (0 : Int32)))).1) ?_
    refine XS.iloadN X8.here hx rfl (hb hby d13_48) rfl ?_
    refine XS.iloadN X8.here hx rfl (hb hby d13_49) rfl ?_
    refine XS.iadd X8.here hx rfl (hb hby d13_50) rfl ?_
    show Steps p.tables e below (T8.setTop (mkF m 51 #[.val (.ref vr0), .val (.int en1), .val (.int (w_at - w_ps))] [(.int (en1 + (w_at - w_ps))), (.ref vr0)])) _
    refine XS.sipush X8.here hx rfl (hb hby d13_51) ?_
    show Steps p.tables e below (T8.setTop (mkF m 54 #[.val (.ref vr0), .val (.int en1), .val (.int (w_at - w_ps))] [(.int (4096 : Int32)), (.int (en1 + (w_at - w_ps))), (.ref vr0)])) _
    refine XS.icmpNo X8.here hx rfl (hb hby d13_54) rfl (flt hc54).2.2.1 ?_
    refine XS.iconst X8.here hx rfl (hb hby d13_57) ?_
    refine XS.goto X8.here hx rfl (pc0 := 58) (pc' := 62) rfl (hb hby d13_58) (by decide) (by decide) ?_
    show Steps p.tables e below (T8.setTop (mkF m 62 #[.val (.ref vr0), .val (.int en1), .val (.int (w_at - w_ps))] [(.int (1 : Int32)), (.ref vr0)])) _
    refine st9 _ ?_
    refine XS.aloadN X9.here hx rfl (hb hby d13_65) rfl rfl ?_
    show Steps p.tables e below (T9.setTop (mkF m 66 #[.val (.ref vr0), .val (.int en1), .val (.int (w_at - w_ps))] [(.ref vr0)])) _
    refine st10 _ ?_
    show Steps p.tables e below (T10.setTop (mkF m 69 #[.val (.ref vr0), .val (.int en1), .val (.int (w_at - w_ps))] [(.int (1 : Int32))])) _
    refine XS.ifNo X10.here hx rfl (hb hby d13_69) rfl ((if0 _ _).trans (feq (by decide : ¬ ((1 : Int32) = (0 : Int32)))).1) ?_
    show Steps p.tables e below (T10.setTop (mkF m 72 #[.val (.ref vr0), .val (.int en1), .val (.int (w_at - w_ps))] [])) _
    refine XS.iloadN X10.here hx rfl (hb hby d13_72) rfl ?_
    refine XS.iloadN X10.here hx rfl (hb hby d13_73) rfl ?_
    refine XS.iadd X10.here hx rfl (hb hby d13_74) rfl ?_
    refine XS.aloadN X10.here hx rfl (hb hby d13_75) rfl rfl ?_
    show Steps p.tables e below (T10.setTop (mkF m 76 #[.val (.ref vr0), .val (.int en1), .val (.int (w_at - w_ps))] [(.ref vr0), (.int (en1 + (w_at - w_ps)))])) _
    refine st11 _ ?_
    show Steps p.tables e below (T11.setTop (mkF m 79 #[.val (.ref vr0), .val (.int en1), .val (.int (w_at - w_ps))] [(.ref P), (.int (en1 + (w_at - w_ps)))])) _
    refine X11.arraylength hx (by rw [e11]; exact Ar12.1) (State.isArrayOf_alike hZ.alike Ar12.2.1) (g := (mkF m 79 #[.val (.ref vr0), .val (.int en1), .val (.int (w_at - w_ps))] [(.ref P), (.int (en1 + (w_at - w_ps)))])) rfl rfl (hb hby d13_79) _ ?_
    rw [len_of Sz12 Ng12]
    show Steps p.tables e below (T11.setTop (mkF m 80 #[.val (.ref vr0), .val (.int en1), .val (.int (w_at - w_ps))] [(.int pn), (.int (en1 + (w_at - w_ps)))])) _
    refine XS.icmpYes X11.here hx rfl (pc0 := 80) (pc' := 113) rfl (hb hby d13_80) rfl (flt hc80).2.2.2 (by decide) (by decide) ?_
    refine XS.aloadN X11.here hx rfl (hb hby d13_113) rfl rfl ?_
    show Steps p.tables e below (T11.setTop (mkF m 114 #[.val (.ref vr0), .val (.int en1), .val (.int (w_at - w_ps))] [(.ref vr0)])) _
    refine st13 _ ?_
    refine XS.aloadN X13.here hx rfl (hb hby d13_117) rfl rfl ?_
    show Steps p.tables e below (T13.setTop (mkF m 118 #[.val (.ref vr0), .val (.int en1), .val (.int (w_at - w_ps))] [(.ref vr0), (.int (2 : Int32))])) _
    refine st14 _ ?_
    show Steps p.tables e below (T14.setTop (mkF m 121 #[.val (.ref vr0), .val (.int en1), .val (.int (w_at - w_ps))] [(.ref EN), (.int (2 : Int32))])) _
    refine X14.arraylength hx (by rw [e14]; exact Ar15.1) (State.isArrayOf_alike hZ.alike Ar15.2.1) (g := (mkF m 121 #[.val (.ref vr0), .val (.int en1), .val (.int (w_at - w_ps))] [(.ref EN), (.int (2 : Int32))])) rfl rfl (hb hby d13_121) _ ?_
    rw [len_of Sz15 Ng15]
    show Steps p.tables e below (T14.setTop (mkF m 122 #[.val (.ref vr0), .val (.int en1), .val (.int (w_at - w_ps))] [(.int (16 : Int32)), (.int (2 : Int32))])) _
    refine XS.icmpYes X14.here hx rfl (pc0 := 122) (pc' := 142) rfl (hb hby d13_122) rfl (feq (by decide : ¬ ((2 : Int32) = (16 : Int32)))).2 (by decide) (by decide) ?_
    refine XS.aloadN X14.here hx rfl (hb hby d13_142) rfl rfl ?_
    show Steps p.tables e below (T14.setTop (mkF m 143 #[.val (.ref vr0), .val (.int en1), .val (.int (w_at - w_ps))] [(.ref vr0)])) _
    refine st16 _ ?_
    refine XS.aloadN X16.here hx rfl (hb hby d13_146) rfl rfl ?_
    show Steps p.tables e below (T16.setTop (mkF m 147 #[.val (.ref vr0), .val (.int en1), .val (.int (w_at - w_ps))] [(.ref vr0), (.ref B)])) _
    refine st17 _ ?_
    refine XS.aloadN X17.here hx rfl (hb hby d13_150) rfl rfl ?_
    show Steps p.tables e below (T17.setTop (mkF m 151 #[.val (.ref vr0), .val (.int en1), .val (.int (w_at - w_ps))] [(.ref vr0), (.int w_ps), (.ref B)])) _
    refine st18 _ ?_
    refine XS.iloadN X18.here hx rfl (hb hby d13_154) rfl ?_
    show Steps p.tables e below (T18.setTop (mkF m 155 #[.val (.ref vr0), .val (.int en1), .val (.int (w_at - w_ps))] [(.int en1), (.ref P), (.int w_ps), (.ref B)])) _
    refine XS.iloadN X18.here hx rfl (hb hby d13_155) rfl ?_
    show Steps p.tables e below (T18.setTop (mkF m 156 #[.val (.ref vr0), .val (.int en1), .val (.int (w_at - w_ps))] [(.int (w_at - w_ps)), (.int en1), (.ref P), (.int w_ps), (.ref B)])) _
    refine st19 _ ?_
    refine XS.aloadN X19.here hx rfl (hb hby d13_159) rfl rfl ?_
    show Steps p.tables e below (T19.setTop (mkF m 160 #[.val (.ref vr0), .val (.int en1), .val (.int (w_at - w_ps))] [(.ref vr0)])) _
    refine st20 _ ?_
    show Steps p.tables e below (T20.setTop (mkF m 163 #[.val (.ref vr0), .val (.int en1), .val (.int (w_at - w_ps))] [(.ref EN)])) _
    refine XS.aloadN X20.here hx rfl (hb hby d13_163) rfl rfl ?_
    show Steps p.tables e below (T20.setTop (mkF m 164 #[.val (.ref vr0), .val (.int en1), .val (.int (w_at - w_ps))] [(.ref vr0), (.ref EN)])) _
    refine st21 _ ?_
    refine XS.iloadN X21.here hx rfl (hb hby d13_167) rfl ?_
    refine XS.iloadN X21.here hx rfl (hb hby d13_168) rfl ?_
    show Steps p.tables e below (T21.setTop (mkF m 169 #[.val (.ref vr0), .val (.int en1), .val (.int (w_at - w_ps))] [(.int (w_at - w_ps)), (.int en1), (.int (2 : Int32)), (.ref EN)])) _
    refine XS.iadd X21.here hx rfl (hb hby d13_169) rfl ?_
    show Steps p.tables e below (T21.setTop (mkF m 170 #[.val (.ref vr0), .val (.int en1), .val (.int (w_at - w_ps))] [(.int (en1 + (w_at - w_ps))), (.int (2 : Int32)), (.ref EN)])) _
    refine st22 _ ?_
    exact X22.returnOut hx Bd.returns (hb hby d13_171) hr
  · show Q13_e2t Z vr0 B w_at u_end P EN TG u_shapeReader w_ps kE pn kP vP kB vB kT en0 en1 en2 tg0 tg1 h0 n0 _ T22.heap _
    rw [e22]
    exact ⟨P, kP, pn, ((vP).take (en1).toNatClampNeg ++ ((List.range ((w_at - w_ps)).toNatClampNeg).map fun i => (vB).getD ((w_ps).toNatClampNeg + i) (.int (0 : Int32))) ++ (vP).drop ((en1).toNatClampNeg + ((w_at - w_ps)).toNatClampNeg)), rfl, N22, K22, (((F_bytes_vr0.other W9 (Or.inr (sl_78 hw))).keep p19_0 (ninS (Ne.symm ne_P_vr0) nin0)).other W22 (Or.inl (Ne.symm ne_EN_vr0))), (((F_at_vr0.other W9 (Or.inr (sl_72 hw))).keep p19_0 (ninS (Ne.symm ne_P_vr0) nin0)).other W22 (Or.inl (Ne.symm ne_EN_vr0))), (((F_end_vr0.other W9 (Or.inr (sl_83 hw))).keep p19_0 (ninS (Ne.symm ne_P_vr0) nin0)).other W22 (Or.inl (Ne.symm ne_EN_vr0))), (((F_parts_vr0.other W9 (Or.inr (sl_87 hw))).keep p19_0 (ninS (Ne.symm ne_P_vr0) nin0)).other W22 (Or.inl (Ne.symm ne_EN_vr0))), (((F_partEnds_vr0.other W9 (Or.inr (sl_91 hw))).keep p19_0 (ninS (Ne.symm ne_P_vr0) nin0)).other W22 (Or.inl (Ne.symm ne_EN_vr0))), (((F_tags_vr0.other W9 (Or.inr (sl_95 hw))).keep p19_0 (ninS (Ne.symm ne_P_vr0) nin0)).other W22 (Or.inl (Ne.symm ne_EN_vr0))), (((F_shapeReader_vr0.other W9 (Or.inr (sl_98 hw))).keep p19_0 (ninS (Ne.symm ne_P_vr0) nin0)).other W22 (Or.inl (Ne.symm ne_EN_vr0))), (((F_values_vr0.other W9 (Or.inr (sl_100 hw))).keep p19_0 (ninS (Ne.symm ne_P_vr0) nin0)).other W22 (Or.inl (Ne.symm ne_EN_vr0))), ((Fw9.keep p19_0 (ninS (Ne.symm ne_P_vr0) nin0)).other W22 (Or.inl (Ne.symm ne_EN_vr0))), (((F_partStart_vr0.other W9 (Or.inr (sl_75 hw))).keep p19_0 (ninS (Ne.symm ne_P_vr0) nin0)).other W22 (Or.inl (Ne.symm ne_EN_vr0))), V_EN_22, (V19.other W22 ne_P_EN), ((own_len own_ul hl19).trans hvP), hp1, hp2, g_P, (Or.inl rfl), ne_P_vr0, ne_P_EN, ne_P_B, ne_P_TG⟩
def QE2 (Z : State) (vr0 : Addr) (B : Addr) (w_at : Int32) (u_end : Value) (P : Addr) (EN : Addr) (TG : Addr) (u_shapeReader : Value) (w_ps : Int32) (kE : ClassId) (pn : Int32) (kP : ClassId) (vP : List Value) (kB : ClassId) (vB : List Value) (kT : ClassId) (en0 : Int32) (en1 : Int32) (en2 : Int32) (tg0 : Value) (tg1 : Value) (h0 : Heap) (n0 : Nat) (v : Option Value) (h : Heap) (L : List Loc) : Prop := ∃ p2 : Addr, ∃ k2 : ClassId, ∃ n2 : Int32, ∃ v2 : List Value, v = none ∧ Fr n0 L ∧ Keep h0 h [vr0, P, EN] ∧ Fld Z h vr0 "com/example/careful_ledger/carefulledger/json/PlainLine" "bytes" "[B" (.ref B) ∧ Fld Z h vr0 "com/example/careful_ledger/carefulledger/json/PlainLine" "at" "I" (.int w_at) ∧ Fld Z h vr0 "com/example/careful_ledger/carefulledger/json/PlainLine" "end" "I" u_end ∧ Fld Z h vr0 "com/example/careful_ledger/carefulledger/json/PlainLine" "parts" "[B" (.ref p2) ∧ Fld Z h vr0 "com/example/careful_ledger/carefulledger/json/PlainLine" "partEnds" "[I" (.ref EN) ∧ Fld Z h vr0 "com/example/careful_ledger/carefulledger/json/PlainLine" "tags" "[Ljava/lang/Object;" (.ref TG) ∧ Fld Z h vr0 "com/example/careful_ledger/carefulledger/json/PlainLine" "shapeReader" "Ljava/lang/Object;" u_shapeReader ∧ Fld Z h vr0 "com/example/careful_ledger/carefulledger/json/PlainLine" "values" "I" (.int (2 : Int32)) ∧ Fld Z h vr0 "com/example/careful_ledger/carefulledger/json/PlainLine" "learning" "Z" (.int (1 : Int32)) ∧ Fld Z h vr0 "com/example/careful_ledger/carefulledger/json/PlainLine" "partStart" "I" (.int w_ps) ∧ Arv Z h EN kE .int (16 : Int32) [(.int en0), (.int en1), (.int (en1 + (w_at - w_ps)))] (.int (0 : Int32)) ∧ Arv Z h p2 k2 .byte n2 v2 (.int (0 : Int32)) ∧ v2.length = n2.toNatClampNeg ∧ ¬ n2 < (64 : Int32) ∧ ¬ (4096 : Int32) < n2 ∧ n0 ≤ p2 ∧ (P = p2 ∨ h0.size ≤ p2) ∧ p2 ≠ vr0 ∧ p2 ≠ EN ∧ p2 ≠ B ∧ p2 ≠ TG
set_option maxRecDepth 65536 in
set_option maxHeartbeats 4000000 in
theorem rmE2 (l : Launch) (Z : State) (a0 : Array Value) (hw : ∀ d ∈ tables_1, d.before a0 Z = true) (ws : List Jvm.Cond) (vr0 : Addr) (B : Addr) (w_at : Int32) (u_end : Value) (P : Addr) (EN : Addr) (TG : Addr) (u_shapeReader : Value) (w_ps : Int32) (kE : ClassId) (pn : Int32) (kP : ClassId) (vP : List Value) (kB : ClassId) (vB : List Value) (kT : ClassId) (en0 : Int32) (en1 : Int32) (en2 : Int32) (tg0 : Value) (tg1 : Value) (h0 : Heap) (n0 : Nat) (Z0 : n0 ≤ h0.size) (E_vr0 : Exa Z h0 vr0 "com/example/careful_ledger/carefulledger/json/PlainLine") (F_bytes_vr0 : Fld Z h0 vr0 "com/example/careful_ledger/carefulledger/json/PlainLine" "bytes" "[B" (.ref B)) (F_at_vr0 : Fld Z h0 vr0 "com/example/careful_ledger/carefulledger/json/PlainLine" "at" "I" (.int w_at)) (F_end_vr0 : Fld Z h0 vr0 "com/example/careful_ledger/carefulledger/json/PlainLine" "end" "I" u_end) (F_parts_vr0 : Fld Z h0 vr0 "com/example/careful_ledger/carefulledger/json/PlainLine" "parts" "[B" (.ref P)) (F_partEnds_vr0 : Fld Z h0 vr0 "com/example/careful_ledger/carefulledger/json/PlainLine" "partEnds" "[I" (.ref EN)) (F_tags_vr0 : Fld Z h0 vr0 "com/example/careful_ledger/carefulledger/json/PlainLine" "tags" "[Ljava/lang/Object;" (.ref TG)) (F_shapeReader_vr0 : Fld Z h0 vr0 "com/example/careful_ledger/carefulledger/json/PlainLine" "shapeReader" "Ljava/lang/Object;" u_shapeReader) (F_values_vr0 : Fld Z h0 vr0 "com/example/careful_ledger/carefulledger/json/PlainLine" "values" "I" (.int (2 : Int32))) (F_learning_vr0 : Fld Z h0 vr0 "com/example/careful_ledger/carefulledger/json/PlainLine" "learning" "Z" (.int (1 : Int32))) (F_partStart_vr0 : Fld Z h0 vr0 "com/example/careful_ledger/carefulledger/json/PlainLine" "partStart" "I" (.int w_ps)) (V_EN : Arv Z h0 EN kE .int (16 : Int32) [(.int en0), (.int en1), (.int en2)] (.int (0 : Int32))) (V_P : Arv Z h0 P kP .byte pn vP (.int (0 : Int32))) (V_B : Arv Z h0 B kB .byte (6144 : Int32) vB (.int (0 : Int32))) (V_TG : Arv Z h0 TG kT (.object "java/lang/Object") (16 : Int32) [tg0, tg1] .null) (hvP : vP.length = pn.toNatClampNeg) (hp1 : ¬ pn < (64 : Int32)) (hp2 : ¬ (4096 : Int32) < pn) (g_vr0 : n0 ≤ vr0) (g_P : n0 ≤ P) (g_EN : n0 ≤ EN) (g_TG : n0 ≤ TG) (ne_P_vr0 : P ≠ vr0) (ne_EN_vr0 : EN ≠ vr0) (ne_TG_vr0 : TG ≠ vr0) (ne_B_vr0 : B ≠ vr0) (ne_P_EN : P ≠ EN) (ne_P_TG : P ≠ TG) (ne_P_B : P ≠ B) (ne_EN_TG : EN ≠ TG) (ne_EN_B : EN ≠ B) (ne_TG_B : TG ≠ B) (OvT : Ovr Z kT "java/lang/Object") (lq1 : ¬ w_ps < 0) (lq2 : ¬ en1 < 0) (lq3 : ¬ (w_at - w_ps) < 0) (lq4 : w_ps.toNatClampNeg + (w_at - w_ps).toNatClampNeg ≤ (6144 : Int32).toNatClampNeg) (lq5 : en1.toNatClampNeg + (w_at - w_ps).toNatClampNeg ≤ (en1 + (w_at - w_ps)).toNatClampNeg) (lq6 : ¬ (en1 + (w_at - w_ps)) < 0) (hc54 : ¬ ((4096 : Int32) < (en1 + (w_at - w_ps)))) :
    MetFree l (⟨"com/example/careful_ledger/carefulledger/json/PlainLine", "endPart", "()V"⟩ : MethodName) (head1 (Jvm.Cond.code (⟨"com/example/careful_ledger/carefulledger/json/PlainLine", "endPart", "()V"⟩ : MethodName) prog_58_method_12_code 3 none :: ws) ({ frames := 2, cells := 1, slots := 4096, locals := 33 } : Room)) (fun a U => a = #[(.ref vr0)] ∧ Z.Warmed39 U.vm ∧ U.heap = h0) (fun _ _ _ _ _ => True) (fun _ U o U' => ∃ v L, o = .returned v ∧ QE2 Z vr0 B w_at u_end P EN TG u_shapeReader w_ps kE pn kP vP kB vB kT en0 en1 en2 tg0 tg1 h0 n0 v U'.heap L ∧ FrameEnd U o U' L ({ frames := 2, cells := 1, slots := 4096, locals := 33 } : Room).cells ({ frames := 2, cells := 1, slots := 4096, locals := 33 } : Room).slots) := by
  by_cases hc80 : pn < (en1 + (w_at - w_ps))
  · exact rm13_e2f l Z a0 hw ws vr0 B w_at u_end P EN TG u_shapeReader w_ps kE pn kP vP kB vB kT en0 en1 en2 tg0 tg1 h0 n0 Z0 E_vr0 F_bytes_vr0 F_at_vr0 F_end_vr0 F_parts_vr0 F_partEnds_vr0 F_tags_vr0 F_shapeReader_vr0 F_values_vr0 F_learning_vr0 F_partStart_vr0 V_EN V_P V_B V_TG hvP hp1 hp2 g_vr0 g_P g_EN g_TG ne_P_vr0 ne_EN_vr0 ne_TG_vr0 ne_B_vr0 ne_P_EN ne_P_TG ne_P_B ne_EN_TG ne_EN_B ne_TG_B OvT lq1 lq2 lq3 lq4 lq5 lq6 hc54 hc80
  · exact rm13_e2t l Z a0 hw ws vr0 B w_at u_end P EN TG u_shapeReader w_ps kE pn kP vP kB vB kT en0 en1 en2 tg0 tg1 h0 n0 Z0 E_vr0 F_bytes_vr0 F_at_vr0 F_end_vr0 F_parts_vr0 F_partEnds_vr0 F_tags_vr0 F_shapeReader_vr0 F_values_vr0 F_learning_vr0 F_partStart_vr0 V_EN V_P V_B V_TG hvP hp1 hp2 g_vr0 g_P g_EN g_TG ne_P_vr0 ne_EN_vr0 ne_TG_vr0 ne_B_vr0 ne_P_EN ne_P_TG ne_P_B ne_EN_TG ne_EN_B ne_TG_B OvT lq1 lq2 lq3 lq4 lq5 lq6 hc54 hc80
theorem ef_13_ov2 (m : MethodId) (x0 : Addr) : entryFrame m #[(.ref x0)] 3 = mkF m 0 #[.val (.ref x0), .unset, .unset] [] := by first | (simp [entryFrame, mkF, argsToLocals, Value.category]; done) | rfl
def Q13_ov2 (Z : State) (vr0 : Addr) (B : Addr) (w_at : Int32) (u_end : Value) (P : Addr) (EN : Addr) (TG : Addr) (u_shapeReader : Value) (w_ps : Int32) (kE : ClassId) (pn : Int32) (kP : ClassId) (vP : List Value) (kB : ClassId) (vB : List Value) (kT : ClassId) (en0 : Int32) (en1 : Int32) (en2 : Int32) (tg0 : Value) (tg1 : Value) (h0 : Heap) (n0 : Nat) (v : Option Value) (h : Heap) (L : List Loc) : Prop := v = none ∧ Fr n0 L ∧ Keep h0 h [vr0] ∧ Fld Z h vr0 "com/example/careful_ledger/carefulledger/json/PlainLine" "bytes" "[B" (.ref B) ∧ Fld Z h vr0 "com/example/careful_ledger/carefulledger/json/PlainLine" "at" "I" (.int w_at) ∧ Fld Z h vr0 "com/example/careful_ledger/carefulledger/json/PlainLine" "end" "I" u_end ∧ Fld Z h vr0 "com/example/careful_ledger/carefulledger/json/PlainLine" "parts" "[B" (.ref P) ∧ Fld Z h vr0 "com/example/careful_ledger/carefulledger/json/PlainLine" "partEnds" "[I" (.ref EN) ∧ Fld Z h vr0 "com/example/careful_ledger/carefulledger/json/PlainLine" "tags" "[Ljava/lang/Object;" (.ref TG) ∧ Fld Z h vr0 "com/example/careful_ledger/carefulledger/json/PlainLine" "shapeReader" "Ljava/lang/Object;" u_shapeReader ∧ Fld Z h vr0 "com/example/careful_ledger/carefulledger/json/PlainLine" "values" "I" (.int (2 : Int32)) ∧ Fld Z h vr0 "com/example/careful_ledger/carefulledger/json/PlainLine" "learning" "Z" (.int (0 : Int32)) ∧ Fld Z h vr0 "com/example/careful_ledger/carefulledger/json/PlainLine" "partStart" "I" (.int w_ps)
set_option maxRecDepth 65536 in
set_option maxHeartbeats 40000000 in
theorem rm13_ov2 (l : Launch) (Z : State) (a0 : Array Value) (hw : ∀ d ∈ tables_1, d.before a0 Z = true) (ws : List Jvm.Cond) (vr0 : Addr) (B : Addr) (w_at : Int32) (u_end : Value) (P : Addr) (EN : Addr) (TG : Addr) (u_shapeReader : Value) (w_ps : Int32) (kE : ClassId) (pn : Int32) (kP : ClassId) (vP : List Value) (kB : ClassId) (vB : List Value) (kT : ClassId) (en0 : Int32) (en1 : Int32) (en2 : Int32) (tg0 : Value) (tg1 : Value) (h0 : Heap) (n0 : Nat) (Z0 : n0 ≤ h0.size) (E_vr0 : Exa Z h0 vr0 "com/example/careful_ledger/carefulledger/json/PlainLine") (F_bytes_vr0 : Fld Z h0 vr0 "com/example/careful_ledger/carefulledger/json/PlainLine" "bytes" "[B" (.ref B)) (F_at_vr0 : Fld Z h0 vr0 "com/example/careful_ledger/carefulledger/json/PlainLine" "at" "I" (.int w_at)) (F_end_vr0 : Fld Z h0 vr0 "com/example/careful_ledger/carefulledger/json/PlainLine" "end" "I" u_end) (F_parts_vr0 : Fld Z h0 vr0 "com/example/careful_ledger/carefulledger/json/PlainLine" "parts" "[B" (.ref P)) (F_partEnds_vr0 : Fld Z h0 vr0 "com/example/careful_ledger/carefulledger/json/PlainLine" "partEnds" "[I" (.ref EN)) (F_tags_vr0 : Fld Z h0 vr0 "com/example/careful_ledger/carefulledger/json/PlainLine" "tags" "[Ljava/lang/Object;" (.ref TG)) (F_shapeReader_vr0 : Fld Z h0 vr0 "com/example/careful_ledger/carefulledger/json/PlainLine" "shapeReader" "Ljava/lang/Object;" u_shapeReader) (F_values_vr0 : Fld Z h0 vr0 "com/example/careful_ledger/carefulledger/json/PlainLine" "values" "I" (.int (2 : Int32))) (F_learning_vr0 : Fld Z h0 vr0 "com/example/careful_ledger/carefulledger/json/PlainLine" "learning" "Z" (.int (1 : Int32))) (F_partStart_vr0 : Fld Z h0 vr0 "com/example/careful_ledger/carefulledger/json/PlainLine" "partStart" "I" (.int w_ps)) (V_EN : Arv Z h0 EN kE .int (16 : Int32) [(.int en0), (.int en1), (.int en2)] (.int (0 : Int32))) (V_P : Arv Z h0 P kP .byte pn vP (.int (0 : Int32))) (V_B : Arv Z h0 B kB .byte (6144 : Int32) vB (.int (0 : Int32))) (V_TG : Arv Z h0 TG kT (.object "java/lang/Object") (16 : Int32) [tg0, tg1] .null) (hvP : vP.length = pn.toNatClampNeg) (hp1 : ¬ pn < (64 : Int32)) (hp2 : ¬ (4096 : Int32) < pn) (g_vr0 : n0 ≤ vr0) (g_P : n0 ≤ P) (g_EN : n0 ≤ EN) (g_TG : n0 ≤ TG) (ne_P_vr0 : P ≠ vr0) (ne_EN_vr0 : EN ≠ vr0) (ne_TG_vr0 : TG ≠ vr0) (ne_B_vr0 : B ≠ vr0) (ne_P_EN : P ≠ EN) (ne_P_TG : P ≠ TG) (ne_P_B : P ≠ B) (ne_EN_TG : EN ≠ TG) (ne_EN_B : EN ≠ B) (ne_TG_B : TG ≠ B) (OvT : Ovr Z kT "java/lang/Object") (hc54 : (4096 : Int32) < (en1 + (w_at - w_ps))) :
    MetFree l (⟨"com/example/careful_ledger/carefulledger/json/PlainLine", "endPart", "()V"⟩ : MethodName) (head1 (Jvm.Cond.code (⟨"com/example/careful_ledger/carefulledger/json/PlainLine", "endPart", "()V"⟩ : MethodName) prog_58_method_12_code 3 none :: ws) ({ frames := 0, cells := 0, slots := 0, locals := 0 } : Room)) (fun a U => a = #[(.ref vr0)] ∧ Z.Warmed39 U.vm ∧ U.heap = h0) (fun _ _ _ _ _ => True) (fun _ U o U' => ∃ v L, o = .returned v ∧ Q13_ov2 Z vr0 B w_at u_end P EN TG u_shapeReader w_ps kE pn kP vP kB vB kT en0 en1 en2 tg0 tg1 h0 n0 v U'.heap L ∧ FrameEnd U o U' L ({ frames := 0, cells := 0, slots := 0, locals := 0 } : Room).cells ({ frames := 0, cells := 0, slots := 0, locals := 0 } : Room).slots) := by
  refine MetFree.of_bodySF (plainFor_of_name pn_com_example_careful_ledger_carefulledger_json_PlainLine) hisR ?_
  intro p e s m args below meth c s₁ Bd hml0 hP hK
  obtain ⟨rfl, hZ, hh⟩ := hP
  have hx := Bd.exec
  have hby := Bd.bytes
  have hml : c.maxLocals = 3 := hml0
  have hown : s.vm.findClass "com/example/careful_ledger/carefulledger/json/PlainLine" = some m.cls := findClass_of_methodNamed Bd.named
  have hnm := (name_of_methodNamed Bd.named Bd.method).1
  have X0 : Stand p l e ({ frames := 0, cells := 0, slots := 0, locals := 0 } : Room) s m #[(.ref vr0)] below meth c s₁ [] 0 0 := Stand.of_body Bd
  have e0 : s₁.heap = h0 := by rw [← hh, Bd.state]; rfl
  have N0 := Fr.nil n0
  have pre0 : ∀ t, Steps p.tables e below (s₁.setTop (mkF m 0 #[.val (.ref vr0), .unset, .unset] [])) t → Steps p.tables e below (s₁.setTop (entryFrame m #[(.ref vr0)] 3)) t := fun t k => castTop (ef_13_ov2 m vr0) k
  obtain ⟨T1, X1, e1, st1⟩ := getF X0 hx hZ hown (host := "") (Or.inl (wd_80 hw)) Via.refl e0 F_learning_vr0 (g := (mkF m 1 #[.val (.ref vr0), .unset, .unset] [(.ref vr0)])) rfl rfl (hb hby d13_1)
  obtain ⟨T2, X2, e2, st2⟩ := getF X1 hx hZ hown (host := "") (Or.inl (wd_78 hw)) Via.refl e1 F_values_vr0 (g := (mkF m 8 #[.val (.ref vr0), .unset, .unset] [(.ref vr0)])) rfl rfl (hb hby d13_8)
  obtain ⟨T3, X3, e3, st3⟩ := getF X2 hx hZ hown (host := "") (Or.inl (wd_56 hw)) Via.refl e2 F_partEnds_vr0 (g := (mkF m 15 #[.val (.ref vr0), .unset, .unset] [(.ref vr0)])) rfl rfl (hb hby d13_15)
  obtain ⟨T4, X4, e4, st4⟩ := getF X3 hx hZ hown (host := "") (Or.inl (wd_78 hw)) Via.refl e3 F_values_vr0 (g := (mkF m 19 #[.val (.ref vr0), .unset, .unset] [(.ref vr0), (.ref EN)])) rfl rfl (hb hby d13_19)
  obtain ⟨cl5, Ar5, q5, Sz5, Ng5, Hh5, Gg5⟩ := (id V_EN)
  have hin5 : ¬ ((1 : Int32) < 0 ∨ cl5.slots.size ≤ ((1 : Int32)).toNatClampNeg) := inb_of Sz5 ⟨by decide, by decide⟩
  have hat5 : cl5.slots[((1 : Int32)).toNatClampNeg]? = some (.int en1) := Hh5.at hin5 rfl
  obtain ⟨T6, X6, e6, st6⟩ := getF X4 hx hZ hown (host := "") (Or.inl (wd_67 hw)) Via.refl e4 F_at_vr0 (g := (mkF m 31 #[.val (.ref vr0), .val (.int en1), .unset] [(.ref vr0)])) rfl rfl (hb hby d13_31)
  obtain ⟨T7, X7, e7, st7⟩ := getF X6 hx hZ hown (host := "") (Or.inl (wd_82 hw)) Via.refl e6 F_partStart_vr0 (g := (mkF m 35 #[.val (.ref vr0), .val (.int en1), .unset] [(.ref vr0), (.int w_at)])) rfl rfl (hb hby d13_35)
  obtain ⟨T8, X8, e8, st8⟩ := getF X7 hx hZ hown (host := "") (Or.inl (wd_80 hw)) Via.refl e7 F_learning_vr0 (g := (mkF m 42 #[.val (.ref vr0), .val (.int en1), .val (.int (w_at - w_ps))] [(.ref vr0), (.ref vr0)])) rfl rfl (hb hby d13_42)
  obtain ⟨T9, h9, X9, e9, W9, st9⟩ := putFN X8 hx hZ hown (wd_80 hw) Via.refl e8 F_learning_vr0 E_vr0 (Or.inl (wd_81 hw)) (wd_32 hw) (ty := .boolean) (v := (.int (0 : Int32))) (v' := (.int (0 : Int32))) (by decide) rfl (by decide) (g := (mkF m 62 #[.val (.ref vr0), .val (.int en1), .val (.int (w_at - w_ps))] [(.int (0 : Int32)), (.ref vr0)])) rfl rfl (hb hby d13_62)
  have Fw9 := F_learning_vr0.same W9
  have N9 := Fr.snoc X9 N0 g_vr0
  have K9 : Keep h0 h9 [vr0] := (Keep.refl h0 [vr0]).wr W9 (Or.inl (List.mem_of_getElem? (i := 0) rfl))
  obtain ⟨T10, X10, e10, st10⟩ := getF X9 hx hZ hown (host := "") (Or.inl (wd_80 hw)) Via.refl e9 Fw9 (g := (mkF m 66 #[.val (.ref vr0), .val (.int en1), .val (.int (w_at - w_ps))] [(.ref vr0)])) rfl rfl (hb hby d13_66)
  obtain ⟨fs, hr, hrun, hended, hW, hsame⟩ := X10.leave (v := none) (fun _ => rfl)
  refine ⟨_, _, pre0 _ ?_, hrun, hended, _, _, rfl, ?_, ⟨_, rfl⟩, hW, hsame.mono (by decide) (by decide)⟩
  · show Steps p.tables e below (s₁.setTop (mkF m 0 #[.val (.ref vr0), .unset, .unset] [])) _
    refine XS.aloadN X0.here hx rfl (hb hby d13_0) rfl rfl ?_
    show Steps p.tables e below (s₁.setTop (mkF m 1 #[.val (.ref vr0), .unset, .unset] [(.ref vr0)])) _
    refine st1 _ ?_
    show Steps p.tables e below (T1.setTop (mkF m 4 #[.val (.ref vr0), .unset, .unset] [(.int (1 : Int32))])) _
    refine XS.ifNo X1.here hx rfl (hb hby d13_4) rfl ((if0 _ _).trans (feq (by decide : ¬ ((1 : Int32) = (0 : Int32)))).1) ?_
    refine XS.aloadN X1.here hx rfl (hb hby d13_7) rfl rfl ?_
    show Steps p.tables e below (T1.setTop (mkF m 8 #[.val (.ref vr0), .unset, .unset] [(.ref vr0)])) _
    refine st2 _ ?_
    show Steps p.tables e below (T2.setTop (mkF m 11 #[.val (.ref vr0), .unset, .unset] [(.int (2 : Int32))])) _
    refine XS.ifNo X2.here hx rfl (hb hby d13_11) rfl ((if0 _ _).trans (tlt (by decide : (0 : Int32) < (2 : Int32))).2.2.2) ?_
    refine XS.aloadN X2.here hx rfl (hb hby d13_14) rfl rfl ?_
    show Steps p.tables e below (T2.setTop (mkF m 15 #[.val (.ref vr0), .unset, .unset] [(.ref vr0)])) _
    refine st3 _ ?_
    show Steps p.tables e below (T3.setTop (mkF m 18 #[.val (.ref vr0), .unset, .unset] [(.ref EN)])) _
    refine XS.aloadN X3.here hx rfl (hb hby d13_18) rfl rfl ?_
    show Steps p.tables e below (T3.setTop (mkF m 19 #[.val (.ref vr0), .unset, .unset] [(.ref vr0), (.ref EN)])) _
    refine st4 _ ?_
    refine XS.iconst X4.here hx rfl (hb hby d13_22) ?_
    refine XS.isub X4.here hx rfl (hb hby d13_23) rfl ?_
    show Steps p.tables e below (T4.setTop (mkF m 24 #[.val (.ref vr0), .unset, .unset] [(.int (1 : Int32)), (.ref EN)])) _
    refine X4.iaload hx (j := (1 : Int32)) (v := (.int en1)) (by rw [e4]; exact Ar5.1) (State.isArrayOf_alike hZ.alike Ar5.2.1) Ar5.2.2 hin5 hat5 (g := (mkF m 24 #[.val (.ref vr0), .unset, .unset] [(.int (1 : Int32)), (.ref EN)])) rfl rfl (hb hby d13_24) _ ?_
    refine XS.goto X4.here hx rfl (pc0 := 25) (pc' := 29) rfl (hb hby d13_25) (by decide) (by decide) ?_
    refine XS.istoreN X4.here hx rfl (hb hby d13_29) rfl (l' := #[.val (.ref vr0), .val (.int en1), .unset]) rfl ?_
    refine XS.aloadN X4.here hx rfl (hb hby d13_30) rfl rfl ?_
    show Steps p.tables e below (T4.setTop (mkF m 31 #[.val (.ref vr0), .val (.int en1), .unset] [(.ref vr0)])) _
    refine st6 _ ?_
    refine XS.aloadN X6.here hx rfl (hb hby d13_34) rfl rfl ?_
    show Steps p.tables e below (T6.setTop (mkF m 35 #[.val (.ref vr0), .val (.int en1), .unset] [(.ref vr0), (.int w_at)])) _
    refine st7 _ ?_
    refine XS.isub X7.here hx rfl (hb hby d13_38) rfl ?_
    show Steps p.tables e below (T7.setTop (mkF m 39 #[.val (.ref vr0), .val (.int en1), .unset] [(.int (w_at - w_ps))])) _
    refine XS.istoreN X7.here hx rfl (hb hby d13_39) rfl (l' := #[.val (.ref vr0), .val (.int en1), .val (.int (w_at - w_ps))]) rfl ?_
    refine XS.aloadN X7.here hx rfl (hb hby d13_40) rfl rfl ?_
    refine XS.aloadN X7.here hx rfl (hb hby d13_41) rfl rfl ?_
    show Steps p.tables e below (T7.setTop (mkF m 42 #[.val (.ref vr0), .val (.int en1), .val (.int (w_at - w_ps))] [(.ref vr0), (.ref vr0)])) _
    refine st8 _ ?_
    show Steps p.tables e below (T8.setTop (mkF m 45 #[.val (.ref vr0), .val (.int en1), .val (.int (w_at - w_ps))] [(.int (1 : Int32)), (.ref vr0)])) _
    refine XS.ifNo X8.here hx rfl (hb hby d13_45) rfl ((if0 _ _).trans (feq (by decide : ¬ ((1 : Int32) = (0 : Int32)))).1) ?_
    refine XS.iloadN X8.here hx rfl (hb hby d13_48) rfl ?_
    refine XS.iloadN X8.here hx rfl (hb hby d13_49) rfl ?_
    refine XS.iadd X8.here hx rfl (hb hby d13_50) rfl ?_
    show Steps p.tables e below (T8.setTop (mkF m 51 #[.val (.ref vr0), .val (.int en1), .val (.int (w_at - w_ps))] [(.int (en1 + (w_at - w_ps))), (.ref vr0)])) _
    refine XS.sipush X8.here hx rfl (hb hby d13_51) ?_
    show Steps p.tables e below (T8.setTop (mkF m 54 #[.val (.ref vr0), .val (.int en1), .val (.int (w_at - w_ps))] [(.int (4096 : Int32)), (.int (en1 + (w_at - w_ps))), (.ref vr0)])) _
    refine XS.icmpYes X8.here hx rfl (pc0 := 54) (pc' := 61) rfl (hb hby d13_54) rfl (tlt hc54).2.2.1 (by decide) (by decide) ?_
    refine XS.iconst X8.here hx rfl (hb hby d13_61) ?_
    show Steps p.tables e below (T8.setTop (mkF m 62 #[.val (.ref vr0), .val (.int en1), .val (.int (w_at - w_ps))] [(.int (0 : Int32)), (.ref vr0)])) _
    refine st9 _ ?_
    show Steps p.tables e below (T9.setTop (mkF m 65 #[.val (.ref vr0), .val (.int en1), .val (.int (w_at - w_ps))] [])) _
    refine XS.aloadN X9.here hx rfl (hb hby d13_65) rfl rfl ?_
    show Steps p.tables e below (T9.setTop (mkF m 66 #[.val (.ref vr0), .val (.int en1), .val (.int (w_at - w_ps))] [(.ref vr0)])) _
    refine st10 _ ?_
    show Steps p.tables e below (T10.setTop (mkF m 69 #[.val (.ref vr0), .val (.int en1), .val (.int (w_at - w_ps))] [(.int (0 : Int32))])) _
    refine XS.ifYes X10.here hx rfl (pc0 := 69) (pc' := 171) rfl (hb hby d13_69) rfl ((if0 _ _).trans (teq (rfl : (0 : Int32) = (0 : Int32))).1) (by decide) (by decide) ?_
    exact X10.returnOut hx Bd.returns (hb hby d13_171) hr
  · show Q13_ov2 Z vr0 B w_at u_end P EN TG u_shapeReader w_ps kE pn kP vP kB vB kT en0 en1 en2 tg0 tg1 h0 n0 _ T10.heap _
    rw [e10]
    exact ⟨rfl, N9, K9, (F_bytes_vr0.other W9 (Or.inr (sl_78 hw))), (F_at_vr0.other W9 (Or.inr (sl_72 hw))), (F_end_vr0.other W9 (Or.inr (sl_83 hw))), (F_parts_vr0.other W9 (Or.inr (sl_87 hw))), (F_partEnds_vr0.other W9 (Or.inr (sl_91 hw))), (F_tags_vr0.other W9 (Or.inr (sl_95 hw))), (F_shapeReader_vr0.other W9 (Or.inr (sl_98 hw))), (F_values_vr0.other W9 (Or.inr (sl_100 hw))), Fw9, (F_partStart_vr0.other W9 (Or.inr (sl_75 hw)))⟩
theorem d15_0 : decode prog_58_method_6_code 0 = .ok (.aload_n 0, 1) := by decide +kernel
theorem d15_1 : decode prog_58_method_6_code 1 = .ok (.invokevirtual 54, 3) := by decide +kernel
theorem wd_94 {Z : State} {a0 : Array Value} (hw : ∀ d ∈ tables_1, d.before a0 Z = true) : ((Jvm.Cond.methodLink "com/example/careful_ledger/carefulledger/json/PlainLine" (54 : Nat) ({ cls := "com/example/careful_ledger/carefulledger/json/PlainLine", name := "endPart", desc := "()V" } : Jvm.MethodName))).before a0 Z = true := hw _ (List.mem_of_getElem? (i := 94) rfl)
theorem wd_97 {Z : State} {a0 : Array Value} (hw : ∀ d ∈ tables_1, d.before a0 Z = true) : ((Jvm.Cond.code ({ cls := "com/example/careful_ledger/carefulledger/json/PlainLine", name := "endPart", desc := "()V" } : Jvm.MethodName) prog_58_method_12_code (3 : Nat) (Option.none : Option Jvm.ClassFile.FieldType))).before a0 Z = true := hw _ (List.mem_of_getElem? (i := 97) rfl)
theorem wd_33 {Z : State} {a0 : Array Value} (hw : ∀ d ∈ tables_1, d.before a0 Z = true) : ((Jvm.Cond.initialized "com/example/careful_ledger/carefulledger/json/PlainLine")).before a0 Z = true := hw _ (List.mem_of_getElem? (i := 33) rfl)
theorem pd_2 : parseMethodDescriptor "()V" = some ⟨[], none⟩ := by decide +kernel
theorem wd_96 {Z : State} {a0 : Array Value} (hw : ∀ d ∈ tables_1, d.before a0 Z = true) : ((Jvm.Cond.privateMethod ({ cls := "com/example/careful_ledger/carefulledger/json/PlainLine", name := "endPart", desc := "()V" } : Jvm.MethodName))).before a0 Z = true := hw _ (List.mem_of_getElem? (i := 96) rfl)
theorem wd_95 {Z : State} {a0 : Array Value} (hw : ∀ d ∈ tables_1, d.before a0 Z = true) : ((Jvm.Cond.instanceMethod ({ cls := "com/example/careful_ledger/carefulledger/json/PlainLine", name := "endPart", desc := "()V" } : Jvm.MethodName))).before a0 Z = true := hw _ (List.mem_of_getElem? (i := 95) rfl)
theorem d15_4 : decode prog_58_method_6_code 4 = .ok (.aload_n 0, 1) := by decide +kernel
theorem d15_5 : decode prog_58_method_6_code 5 = .ok (.getfield 44, 3) := by decide +kernel
theorem d15_8 : decode prog_58_method_6_code 8 = .ok (.aload_n 0, 1) := by decide +kernel
theorem d15_9 : decode prog_58_method_6_code 9 = .ok (.getfield 29, 3) := by decide +kernel
theorem d15_12 : decode prog_58_method_6_code 12 = .ok (.arraylength, 1) := by decide +kernel
theorem d15_13 : decode prog_58_method_6_code 13 = .ok (.if_icmp .ne 20, 3) := by decide +kernel
theorem d15_33 : decode prog_58_method_6_code 33 = .ok (.aload_n 0, 1) := by decide +kernel
theorem d15_34 : decode prog_58_method_6_code 34 = .ok (.getfield 29, 3) := by decide +kernel
theorem d15_37 : decode prog_58_method_6_code 37 = .ok (.aload_n 0, 1) := by decide +kernel
theorem d15_38 : decode prog_58_method_6_code 38 = .ok (.getfield 44, 3) := by decide +kernel
theorem d15_41 : decode prog_58_method_6_code 41 = .ok (.aload_n 1, 1) := by decide +kernel
theorem d15_42 : decode prog_58_method_6_code 42 = .ok (.aastore, 1) := by decide +kernel
theorem wd_125 {Z : State} {a0 : Array Value} (hw : ∀ d ∈ tables_1, d.before a0 Z = true) : ((Jvm.Cond.castable "java/lang/String" "java/lang/Object")).before a0 Z = true := hw _ (List.mem_of_getElem? (i := 125) rfl)
theorem d15_43 : decode prog_58_method_6_code 43 = .ok (.aload_n 0, 1) := by decide +kernel
theorem d15_44 : decode prog_58_method_6_code 44 = .ok (.dup, 1) := by decide +kernel
theorem d15_45 : decode prog_58_method_6_code 45 = .ok (.getfield 44, 3) := by decide +kernel
theorem d15_48 : decode prog_58_method_6_code 48 = .ok (.iconst 1, 1) := by decide +kernel
theorem d15_49 : decode prog_58_method_6_code 49 = .ok (.iadd, 1) := by decide +kernel
theorem d15_50 : decode prog_58_method_6_code 50 = .ok (.putfield 44, 3) := by decide +kernel
theorem d15_53 : decode prog_58_method_6_code 53 = .ok (.return_, 1) := by decide +kernel
theorem ef_15_v0 (m : MethodId) (x0 : Addr) (x1 : Addr) : entryFrame m #[(.ref x0), (.ref x1)] 2 = mkF m 0 #[.val (.ref x0), .val (.ref x1)] [] := by first | (simp [entryFrame, mkF, argsToLocals, Value.category]; done) | rfl
def Q15_v0 (Z : State) (vr0 : Addr) (vr1 : Addr) (B : Addr) (w_at : Int32) (u_end : Value) (P : Addr) (EN : Addr) (TG : Addr) (u_shapeReader : Value) (w_ps : Int32) (kE : ClassId) (pn : Int32) (kP : ClassId) (vP : List Value) (kB : ClassId) (vB : List Value) (kT : ClassId) (en0 : Int32) (en1 : Int32) (en2 : Int32) (tg0 : Value) (tg1 : Value) (h0 : Heap) (n0 : Nat) (v : Option Value) (h : Heap) (L : List Loc) : Prop := ∃ p2 : Addr, ∃ k2 : ClassId, ∃ n2 : Int32, ∃ v2 : List Value, v = none ∧ Fr n0 L ∧ Keep h0 h [vr0, P, EN, TG] ∧ Fld Z h vr0 "com/example/careful_ledger/carefulledger/json/PlainLine" "bytes" "[B" (.ref B) ∧ Fld Z h vr0 "com/example/careful_ledger/carefulledger/json/PlainLine" "at" "I" (.int w_at) ∧ Fld Z h vr0 "com/example/careful_ledger/carefulledger/json/PlainLine" "end" "I" u_end ∧ Fld Z h vr0 "com/example/careful_ledger/carefulledger/json/PlainLine" "parts" "[B" (.ref p2) ∧ Fld Z h vr0 "com/example/careful_ledger/carefulledger/json/PlainLine" "partEnds" "[I" (.ref EN) ∧ Fld Z h vr0 "com/example/careful_ledger/carefulledger/json/PlainLine" "tags" "[Ljava/lang/Object;" (.ref TG) ∧ Fld Z h vr0 "com/example/careful_ledger/carefulledger/json/PlainLine" "shapeReader" "Ljava/lang/Object;" u_shapeReader ∧ Fld Z h vr0 "com/example/careful_ledger/carefulledger/json/PlainLine" "values" "I" (.int (1 : Int32)) ∧ Fld Z h vr0 "com/example/careful_ledger/carefulledger/json/PlainLine" "learning" "Z" (.int (1 : Int32)) ∧ Fld Z h vr0 "com/example/careful_ledger/carefulledger/json/PlainLine" "partStart" "I" (.int w_ps) ∧ Arv Z h EN kE .int (16 : Int32) [(.int ((0 : Int32) + (w_at - w_ps))), (.int en1), (.int en2)] (.int (0 : Int32)) ∧ Arv Z h TG kT (.object "java/lang/Object") (16 : Int32) [(.ref vr1), tg1] .null ∧ Arv Z h p2 k2 .byte n2 v2 (.int (0 : Int32)) ∧ v2.length = n2.toNatClampNeg ∧ ¬ n2 < (64 : Int32) ∧ ¬ (4096 : Int32) < n2 ∧ n0 ≤ p2 ∧ (P = p2 ∨ h0.size ≤ p2) ∧ p2 ≠ vr0 ∧ p2 ≠ EN ∧ p2 ≠ B ∧ p2 ≠ TG
set_option maxRecDepth 65536 in
set_option maxHeartbeats 40000000 in
theorem rm15_v0 (l : Launch) (Z : State) (a0 : Array Value) (hw : ∀ d ∈ tables_1, d.before a0 Z = true) (ws : List Jvm.Cond) (vr0 : Addr) (vr1 : Addr) (B : Addr) (w_at : Int32) (u_end : Value) (P : Addr) (EN : Addr) (TG : Addr) (u_shapeReader : Value) (w_ps : Int32) (kE : ClassId) (pn : Int32) (kP : ClassId) (vP : List Value) (kB : ClassId) (vB : List Value) (kT : ClassId) (en0 : Int32) (en1 : Int32) (en2 : Int32) (tg0 : Value) (tg1 : Value) (h0 : Heap) (n0 : Nat) (Z0 : n0 ≤ h0.size) (E_vr0 : Exa Z h0 vr0 "com/example/careful_ledger/carefulledger/json/PlainLine") (F_bytes_vr0 : Fld Z h0 vr0 "com/example/careful_ledger/carefulledger/json/PlainLine" "bytes" "[B" (.ref B)) (F_at_vr0 : Fld Z h0 vr0 "com/example/careful_ledger/carefulledger/json/PlainLine" "at" "I" (.int w_at)) (F_end_vr0 : Fld Z h0 vr0 "com/example/careful_ledger/carefulledger/json/PlainLine" "end" "I" u_end) (F_parts_vr0 : Fld Z h0 vr0 "com/example/careful_ledger/carefulledger/json/PlainLine" "parts" "[B" (.ref P)) (F_partEnds_vr0 : Fld Z h0 vr0 "com/example/careful_ledger/carefulledger/json/PlainLine" "partEnds" "[I" (.ref EN)) (F_tags_vr0 : Fld Z h0 vr0 "com/example/careful_ledger/carefulledger/json/PlainLine" "tags" "[Ljava/lang/Object;" (.ref TG)) (F_shapeReader_vr0 : Fld Z h0 vr0 "com/example/careful_ledger/carefulledger/json/PlainLine" "shapeReader" "Ljava/lang/Object;" u_shapeReader) (F_values_vr0 : Fld Z h0 vr0 "com/example/careful_ledger/carefulledger/json/PlainLine" "values" "I" (.int (0 : Int32))) (F_learning_vr0 : Fld Z h0 vr0 "com/example/careful_ledger/carefulledger/json/PlainLine" "learning" "Z" (.int (1 : Int32))) (F_partStart_vr0 : Fld Z h0 vr0 "com/example/careful_ledger/carefulledger/json/PlainLine" "partStart" "I" (.int w_ps)) (V_EN : Arv Z h0 EN kE .int (16 : Int32) [(.int en0), (.int en1), (.int en2)] (.int (0 : Int32))) (V_P : Arv Z h0 P kP .byte pn vP (.int (0 : Int32))) (V_B : Arv Z h0 B kB .byte (6144 : Int32) vB (.int (0 : Int32))) (V_TG : Arv Z h0 TG kT (.object "java/lang/Object") (16 : Int32) [tg0, tg1] .null) (hvP : vP.length = pn.toNatClampNeg) (hp1 : ¬ pn < (64 : Int32)) (hp2 : ¬ (4096 : Int32) < pn) (g_vr0 : n0 ≤ vr0) (g_P : n0 ≤ P) (g_EN : n0 ≤ EN) (g_TG : n0 ≤ TG) (ne_P_vr0 : P ≠ vr0) (ne_EN_vr0 : EN ≠ vr0) (ne_TG_vr0 : TG ≠ vr0) (ne_B_vr0 : B ≠ vr0) (ne_P_EN : P ≠ EN) (ne_P_TG : P ≠ TG) (ne_P_B : P ≠ B) (ne_EN_TG : EN ≠ TG) (ne_EN_B : EN ≠ B) (ne_TG_B : TG ≠ B) (OvT : Ovr Z kT "java/lang/Object") (lq1 : ¬ w_ps < 0) (lq2 : ¬ (0 : Int32) < 0) (lq3 : ¬ (w_at - w_ps) < 0) (lq4 : w_ps.toNatClampNeg + (w_at - w_ps).toNatClampNeg ≤ (6144 : Int32).toNatClampNeg) (lq5 : (0 : Int32).toNatClampNeg + (w_at - w_ps).toNatClampNeg ≤ ((0 : Int32) + (w_at - w_ps)).toNatClampNeg) (lq6 : ¬ ((0 : Int32) + (w_at - w_ps)) < 0) (hc54 : ¬ ((4096 : Int32) < ((0 : Int32) + (w_at - w_ps)))) (E_vr1 : Exa Z h0 vr1 "java/lang/String") :
    MetFree l (⟨"com/example/careful_ledger/carefulledger/json/PlainLine", "valueComes", "(Ljava/lang/Object;)V"⟩ : MethodName) (head1 (Jvm.Cond.code (⟨"com/example/careful_ledger/carefulledger/json/PlainLine", "valueComes", "(Ljava/lang/Object;)V"⟩ : MethodName) prog_58_method_6_code 2 none :: ws) ({ frames := 3, cells := 1, slots := 4096, locals := 47 } : Room)) (fun a U => a = #[(.ref vr0), (.ref vr1)] ∧ Z.Warmed39 U.vm ∧ U.heap = h0) (fun _ _ _ _ _ => True) (fun _ U o U' => ∃ v L, o = .returned v ∧ Q15_v0 Z vr0 vr1 B w_at u_end P EN TG u_shapeReader w_ps kE pn kP vP kB vB kT en0 en1 en2 tg0 tg1 h0 n0 v U'.heap L ∧ FrameEnd U o U' L ({ frames := 3, cells := 1, slots := 4096, locals := 47 } : Room).cells ({ frames := 3, cells := 1, slots := 4096, locals := 47 } : Room).slots) := by
  refine MetFree.of_bodySF (plainFor_of_name pn_com_example_careful_ledger_carefulledger_json_PlainLine) hisR ?_
  intro p e s m args below meth c s₁ Bd hml0 hP hK
  obtain ⟨rfl, hZ, hh⟩ := hP
  have hx := Bd.exec
  have hby := Bd.bytes
  have hml : c.maxLocals = 2 := hml0
  have hown : s.vm.findClass "com/example/careful_ledger/carefulledger/json/PlainLine" = some m.cls := findClass_of_methodNamed Bd.named
  have hnm := (name_of_methodNamed Bd.named Bd.method).1
  have X0 : Stand p l e ({ frames := 3, cells := 1, slots := 4096, locals := 47 } : Room) s m #[(.ref vr0), (.ref vr1)] below meth c s₁ [] 0 0 := Stand.of_body Bd
  have e0 : s₁.heap = h0 := by rw [← hh, Bd.state]; rfl
  have N0 := Fr.nil n0
  have pre0 : ∀ t, Steps p.tables e below (s₁.setTop (mkF m 0 #[.val (.ref vr0), .val (.ref vr1)] [])) t → Steps p.tables e below (s₁.setTop (entryFrame m #[(.ref vr0), (.ref vr1)] 2)) t := fun t k => castTop (ef_15_v0 m vr0 vr1) k
  obtain ⟨cq1, q1, q1'⟩ := E_vr0.cell
  have sp1 := own_selp (mvT hZ (wd_32 hw) (args := #[])) (Cond.privateMethod_at (mvP hZ (wd_96 hw) (args := #[]))) (mvT hZ (wd_95 hw) (args := #[(.ref vr0), (.ref vr1)])) (by decide)
  obtain ⟨_, _, ⟨T1, L1, k1, n1⟩, -, X1, ⟨Lc1, hQ1, l1, y1, z1⟩, st1⟩ := X0.privateBack hx (y := (⟨"com/example/careful_ledger/carefulledger/json/PlainLine", "endPart", "()V"⟩ : MethodName)) hown (mvT hZ (wd_94 hw)) (mvT hZ (wd_95 hw)) sp1 (Cond.privateMethod_at (mvP hZ (wd_96 hw) (args := #[]))) (mvT hZ (wd_97 hw)) (by decide) (backOf (W := 0) (rmE0 l Z a0 hw [] vr0 B w_at u_end P EN TG u_shapeReader w_ps kE pn kP vP kB vB kT en0 en1 en2 tg0 tg1 h0 n0 Z0 E_vr0 F_bytes_vr0 F_at_vr0 F_end_vr0 F_parts_vr0 F_partEnds_vr0 F_tags_vr0 F_shapeReader_vr0 F_values_vr0 F_learning_vr0 F_partStart_vr0 V_EN V_P V_B V_TG hvP hp1 hp2 g_vr0 g_P g_EN g_TG ne_P_vr0 ne_EN_vr0 ne_TG_vr0 ne_B_vr0 ne_P_EN ne_P_TG ne_P_B ne_EN_TG ne_EN_B ne_TG_B OvT lq1 lq2 lq3 lq4 lq5 lq6 hc54) hZ (wd_97 hw) (wd_33 hw) (by decide) (by decide)) (g := (mkF m 1 #[.val (.ref vr0), .val (.ref vr1)] [(.ref vr0)])) rfl (by rw [hml]; rfl) (Steps.refl _) (a := vr0) (by rw [e0]; exact q1) q1' (argsL := []) (rest := []) (lenOf pd_2 rfl) rfl (by show 2 * 0 + _ ≤ _; exact Nat.le_of_eq rfl) (hb hby d15_1) (fun _ _ => ⟨rfl, e0, (by decide : 0 + 1 ≤ _), (by decide : 0 + 4096 ≤ _)⟩)
  dsimp only [Pt.U, Pt.locs, Pt.cells, Pt.slots] at X1 l1 y1 z1 st1 hQ1
  subst l1 y1 z1
  obtain ⟨p21, k21, n21, v21, rfl, N1q, p1_0, p1_1, p1_2, p1_3, p1_4, p1_5, p1_6, p1_7, p1_8, p1_9, p1_10, p1_11, p1_12, p1_13, p1_14, p1_15, p1_16, p1_17, p1_18, p1_19, p1_20, p1_21⟩ := hQ1
  have N1 := Fr.app N0 N1q
  have K1 : Keep h0 T1.heap [vr0, P, EN, TG] := (Keep.refl h0 [vr0, P, EN, TG]).trans p1_0 (allS (Or.inl (List.mem_of_getElem? (i := 0) rfl)) (allS (Or.inl (List.mem_of_getElem? (i := 1) rfl)) (allS (Or.inl (List.mem_of_getElem? (i := 2) rfl)) all0)))
  obtain ⟨T2, X2, e2, st2⟩ := getF X1 hx hZ hown (host := "") (Or.inl (wd_78 hw)) Via.refl rfl p1_8 (g := (mkF m 5 #[.val (.ref vr0), .val (.ref vr1)] [(.ref vr0)])) rfl rfl (hb hby d15_5)
  obtain ⟨T3, X3, e3, st3⟩ := getF X2 hx hZ hown (host := "") (Or.inl (wd_60 hw)) Via.refl e2 p1_6 (g := (mkF m 9 #[.val (.ref vr0), .val (.ref vr1)] [(.ref vr0), (.int (0 : Int32))])) rfl rfl (hb hby d15_9)
  obtain ⟨cl4, Ar4, -, Sz4, Ng4, -, -⟩ := (id (V_TG.keep p1_0 (ninS ne_TG_vr0 (ninS (Ne.symm ne_P_TG) (ninS (Ne.symm ne_EN_TG) nin0)))))
  obtain ⟨T5, X5, e5, st5⟩ := getF X3 hx hZ hown (host := "") (Or.inl (wd_60 hw)) Via.refl e3 p1_6 (g := (mkF m 34 #[.val (.ref vr0), .val (.ref vr1)] [(.ref vr0)])) rfl rfl (hb hby d15_34)
  obtain ⟨T6, X6, e6, st6⟩ := getF X5 hx hZ hown (host := "") (Or.inl (wd_78 hw)) Via.refl e5 p1_8 (g := (mkF m 38 #[.val (.ref vr0), .val (.ref vr1)] [(.ref vr0), (.ref TG)])) rfl rfl (hb hby d15_38)
  obtain ⟨cl7, Ar7, q7, Sz7, Ng7, Hh7, Gg7⟩ := (id (V_TG.keep p1_0 (ninS ne_TG_vr0 (ninS (Ne.symm ne_P_TG) (ninS (Ne.symm ne_EN_TG) nin0)))))
  have hin7 : ¬ ((0 : Int32) < 0 ∨ cl7.slots.size ≤ ((0 : Int32)).toNatClampNeg) := inb_of Sz7 ⟨by decide, by decide⟩
  obtain ⟨T7, h7, X7, e7, W7, st7⟩ := stR X6 hx hZ e6 Ar7 (j := (0 : Int32)) hin7 rfl (Sto.ofV Ar7 q7 OvT (Ins.of_exa (E_vr1.keep p1_0) (wd_125 hw))) (g := (mkF m 42 #[.val (.ref vr0), .val (.ref vr1)] [(.ref vr1), (.int (0 : Int32)), (.ref TG)])) rfl rfl (hb hby d15_42)
  have V_TG_7 : Arv Z h7 TG kT (.object "java/lang/Object") (16 : Int32) [(.ref vr1), tg1] .null := Arv.set Ar7 q7 Sz7 Ng7 Hh7 Gg7 rfl W7 0 rfl (Nat.le_of_ble_eq_true rfl)
  have N7 := Fr.snoc X7 N1 g_TG
  have K7 : Keep h0 h7 [vr0, P, EN, TG] := K1.wr W7 (Or.inl (List.mem_of_getElem? (i := 3) rfl))
  obtain ⟨T8, X8, e8, st8⟩ := getF X7 hx hZ hown (host := "") (Or.inl (wd_78 hw)) Via.refl e7 (p1_8.other W7 (Or.inl (Ne.symm ne_TG_vr0))) (g := (mkF m 45 #[.val (.ref vr0), .val (.ref vr1)] [(.ref vr0), (.ref vr0)])) rfl rfl (hb hby d15_45)
  obtain ⟨T9, h9, X9, e9, W9, st9⟩ := putF X8 hx hZ hown (host := "") (Or.inl (wd_78 hw)) Via.refl e8 (p1_8.other W7 (Or.inl (Ne.symm ne_TG_vr0))) ((E_vr0.keep p1_0).wr W7) (Or.inl (wd_79 hw)) (wd_32 hw) (ty := .int) (by decide) rfl rfl (g := (mkF m 50 #[.val (.ref vr0), .val (.ref vr1)] [(.int (1 : Int32)), (.ref vr0)])) rfl rfl (hb hby d15_50)
  have Fw9 := (p1_8.other W7 (Or.inl (Ne.symm ne_TG_vr0))).same W9
  have N9 := Fr.snoc X9 N7 g_vr0
  have K9 : Keep h0 h9 [vr0, P, EN, TG] := K7.wr W9 (Or.inl (List.mem_of_getElem? (i := 0) rfl))
  obtain ⟨fs, hr, hrun, hended, hW, hsame⟩ := X9.leave (v := none) (fun _ => rfl)
  refine ⟨_, _, pre0 _ ?_, hrun, hended, _, _, rfl, ?_, ⟨_, rfl⟩, hW, hsame.mono (by decide) (by decide)⟩
  · show Steps p.tables e below (s₁.setTop (mkF m 0 #[.val (.ref vr0), .val (.ref vr1)] [])) _
    refine XS.aloadN X0.here hx rfl (hb hby d15_0) rfl rfl ?_
    show Steps p.tables e below (s₁.setTop (mkF m 1 #[.val (.ref vr0), .val (.ref vr1)] [(.ref vr0)])) _
    refine st1.trans ?_
    refine XS.aloadN X1.here hx rfl (hb hby d15_4) rfl rfl ?_
    show Steps p.tables e below (T1.setTop (mkF m 5 #[.val (.ref vr0), .val (.ref vr1)] [(.ref vr0)])) _
    refine st2 _ ?_
    show Steps p.tables e below (T2.setTop (mkF m 8 #[.val (.ref vr0), .val (.ref vr1)] [(.int (0 : Int32))])) _
    refine XS.aloadN X2.here hx rfl (hb hby d15_8) rfl rfl ?_
    show Steps p.tables e below (T2.setTop (mkF m 9 #[.val (.ref vr0), .val (.ref vr1)] [(.ref vr0), (.int (0 : Int32))])) _
    refine st3 _ ?_
    show Steps p.tables e below (T3.setTop (mkF m 12 #[.val (.ref vr0), .val (.ref vr1)] [(.ref TG), (.int (0 : Int32))])) _
    refine X3.arraylength hx (by rw [e3]; exact Ar4.1) (State.isArrayOf_alike hZ.alike Ar4.2.1) (g := (mkF m 12 #[.val (.ref vr0), .val (.ref vr1)] [(.ref TG), (.int (0 : Int32))])) rfl rfl (hb hby d15_12) _ ?_
    rw [len_of Sz4 Ng4]
    show Steps p.tables e below (T3.setTop (mkF m 13 #[.val (.ref vr0), .val (.ref vr1)] [(.int (16 : Int32)), (.int (0 : Int32))])) _
    refine XS.icmpYes X3.here hx rfl (pc0 := 13) (pc' := 33) rfl (hb hby d15_13) rfl (feq (by decide : ¬ ((0 : Int32) = (16 : Int32)))).2 (by decide) (by decide) ?_
    show Steps p.tables e below (T3.setTop (mkF m 33 #[.val (.ref vr0), .val (.ref vr1)] [])) _
    refine XS.aloadN X3.here hx rfl (hb hby d15_33) rfl rfl ?_
    show Steps p.tables e below (T3.setTop (mkF m 34 #[.val (.ref vr0), .val (.ref vr1)] [(.ref vr0)])) _
    refine st5 _ ?_
    refine XS.aloadN X5.here hx rfl (hb hby d15_37) rfl rfl ?_
    show Steps p.tables e below (T5.setTop (mkF m 38 #[.val (.ref vr0), .val (.ref vr1)] [(.ref vr0), (.ref TG)])) _
    refine st6 _ ?_
    show Steps p.tables e below (T6.setTop (mkF m 41 #[.val (.ref vr0), .val (.ref vr1)] [(.int (0 : Int32)), (.ref TG)])) _
    refine XS.aloadN X6.here hx rfl (hb hby d15_41) rfl rfl ?_
    show Steps p.tables e below (T6.setTop (mkF m 42 #[.val (.ref vr0), .val (.ref vr1)] [(.ref vr1), (.int (0 : Int32)), (.ref TG)])) _
    refine st7 _ ?_
    refine XS.aloadN X7.here hx rfl (hb hby d15_43) rfl rfl ?_
    refine XS.dup X7.here hx rfl (hb hby d15_44) rfl rfl ?_
    show Steps p.tables e below (T7.setTop (mkF m 45 #[.val (.ref vr0), .val (.ref vr1)] [(.ref vr0), (.ref vr0)])) _
    refine st8 _ ?_
    refine XS.iconst X8.here hx rfl (hb hby d15_48) ?_
    refine XS.iadd X8.here hx rfl (hb hby d15_49) rfl ?_
    show Steps p.tables e below (T8.setTop (mkF m 50 #[.val (.ref vr0), .val (.ref vr1)] [(.int (1 : Int32)), (.ref vr0)])) _
    refine st9 _ ?_
    show Steps p.tables e below (T9.setTop (mkF m 53 #[.val (.ref vr0), .val (.ref vr1)] [])) _
    exact X9.returnOut hx Bd.returns (hb hby d15_53) hr
  · show Q15_v0 Z vr0 vr1 B w_at u_end P EN TG u_shapeReader w_ps kE pn kP vP kB vB kT en0 en1 en2 tg0 tg1 h0 n0 _ T9.heap _
    rw [e9]
    exact ⟨p21, k21, n21, v21, rfl, N9, K9, ((p1_1.other W7 (Or.inl (Ne.symm ne_TG_vr0))).other W9 (Or.inr (sl_77 hw))), ((p1_2.other W7 (Or.inl (Ne.symm ne_TG_vr0))).other W9 (Or.inr (sl_71 hw))), ((p1_3.other W7 (Or.inl (Ne.symm ne_TG_vr0))).other W9 (Or.inr (sl_82 hw))), ((p1_4.other W7 (Or.inl (Ne.symm ne_TG_vr0))).other W9 (Or.inr (sl_86 hw))), ((p1_5.other W7 (Or.inl (Ne.symm ne_TG_vr0))).other W9 (Or.inr (sl_90 hw))), ((p1_6.other W7 (Or.inl (Ne.symm ne_TG_vr0))).other W9 (Or.inr (sl_94 hw))), ((p1_7.other W7 (Or.inl (Ne.symm ne_TG_vr0))).other W9 (Or.inr (sl_97 hw))), Fw9, ((p1_9.other W7 (Or.inl (Ne.symm ne_TG_vr0))).other W9 (Or.inr (sl_69 hw))), ((p1_10.other W7 (Or.inl (Ne.symm ne_TG_vr0))).other W9 (Or.inr (sl_74 hw))), ((p1_11.other W7 ne_EN_TG).other W9 ne_EN_vr0), (V_TG_7.other W9 ne_TG_vr0), ((p1_12.other W7 p1_21).other W9 p1_18), p1_13, p1_14, p1_15, p1_16, p1_17, p1_18, p1_19, p1_20, p1_21⟩
theorem ef_15_v1 (m : MethodId) (x0 : Addr) (x1 : Addr) : entryFrame m #[(.ref x0), (.ref x1)] 2 = mkF m 0 #[.val (.ref x0), .val (.ref x1)] [] := by first | (simp [entryFrame, mkF, argsToLocals, Value.category]; done) | rfl
def Q15_v1 (Z : State) (vr0 : Addr) (vr1 : Addr) (B : Addr) (w_at : Int32) (u_end : Value) (P : Addr) (EN : Addr) (TG : Addr) (u_shapeReader : Value) (w_ps : Int32) (kE : ClassId) (pn : Int32) (kP : ClassId) (vP : List Value) (kB : ClassId) (vB : List Value) (kT : ClassId) (en0 : Int32) (en1 : Int32) (en2 : Int32) (tg0 : Value) (tg1 : Value) (h0 : Heap) (n0 : Nat) (v : Option Value) (h : Heap) (L : List Loc) : Prop := ∃ p2 : Addr, ∃ k2 : ClassId, ∃ n2 : Int32, ∃ v2 : List Value, v = none ∧ Fr n0 L ∧ Keep h0 h [vr0, P, EN, TG] ∧ Fld Z h vr0 "com/example/careful_ledger/carefulledger/json/PlainLine" "bytes" "[B" (.ref B) ∧ Fld Z h vr0 "com/example/careful_ledger/carefulledger/json/PlainLine" "at" "I" (.int w_at) ∧ Fld Z h vr0 "com/example/careful_ledger/carefulledger/json/PlainLine" "end" "I" u_end ∧ Fld Z h vr0 "com/example/careful_ledger/carefulledger/json/PlainLine" "parts" "[B" (.ref p2) ∧ Fld Z h vr0 "com/example/careful_ledger/carefulledger/json/PlainLine" "partEnds" "[I" (.ref EN) ∧ Fld Z h vr0 "com/example/careful_ledger/carefulledger/json/PlainLine" "tags" "[Ljava/lang/Object;" (.ref TG) ∧ Fld Z h vr0 "com/example/careful_ledger/carefulledger/json/PlainLine" "shapeReader" "Ljava/lang/Object;" u_shapeReader ∧ Fld Z h vr0 "com/example/careful_ledger/carefulledger/json/PlainLine" "values" "I" (.int (2 : Int32)) ∧ Fld Z h vr0 "com/example/careful_ledger/carefulledger/json/PlainLine" "learning" "Z" (.int (1 : Int32)) ∧ Fld Z h vr0 "com/example/careful_ledger/carefulledger/json/PlainLine" "partStart" "I" (.int w_ps) ∧ Arv Z h EN kE .int (16 : Int32) [(.int en0), (.int (en0 + (w_at - w_ps))), (.int en2)] (.int (0 : Int32)) ∧ Arv Z h TG kT (.object "java/lang/Object") (16 : Int32) [tg0, (.ref vr1)] .null ∧ Arv Z h p2 k2 .byte n2 v2 (.int (0 : Int32)) ∧ v2.length = n2.toNatClampNeg ∧ ¬ n2 < (64 : Int32) ∧ ¬ (4096 : Int32) < n2 ∧ n0 ≤ p2 ∧ (P = p2 ∨ h0.size ≤ p2) ∧ p2 ≠ vr0 ∧ p2 ≠ EN ∧ p2 ≠ B ∧ p2 ≠ TG
set_option maxRecDepth 65536 in
set_option maxHeartbeats 40000000 in
theorem rm15_v1 (l : Launch) (Z : State) (a0 : Array Value) (hw : ∀ d ∈ tables_1, d.before a0 Z = true) (ws : List Jvm.Cond) (vr0 : Addr) (vr1 : Addr) (B : Addr) (w_at : Int32) (u_end : Value) (P : Addr) (EN : Addr) (TG : Addr) (u_shapeReader : Value) (w_ps : Int32) (kE : ClassId) (pn : Int32) (kP : ClassId) (vP : List Value) (kB : ClassId) (vB : List Value) (kT : ClassId) (en0 : Int32) (en1 : Int32) (en2 : Int32) (tg0 : Value) (tg1 : Value) (h0 : Heap) (n0 : Nat) (Z0 : n0 ≤ h0.size) (E_vr0 : Exa Z h0 vr0 "com/example/careful_ledger/carefulledger/json/PlainLine") (F_bytes_vr0 : Fld Z h0 vr0 "com/example/careful_ledger/carefulledger/json/PlainLine" "bytes" "[B" (.ref B)) (F_at_vr0 : Fld Z h0 vr0 "com/example/careful_ledger/carefulledger/json/PlainLine" "at" "I" (.int w_at)) (F_end_vr0 : Fld Z h0 vr0 "com/example/careful_ledger/carefulledger/json/PlainLine" "end" "I" u_end) (F_parts_vr0 : Fld Z h0 vr0 "com/example/careful_ledger/carefulledger/json/PlainLine" "parts" "[B" (.ref P)) (F_partEnds_vr0 : Fld Z h0 vr0 "com/example/careful_ledger/carefulledger/json/PlainLine" "partEnds" "[I" (.ref EN)) (F_tags_vr0 : Fld Z h0 vr0 "com/example/careful_ledger/carefulledger/json/PlainLine" "tags" "[Ljava/lang/Object;" (.ref TG)) (F_shapeReader_vr0 : Fld Z h0 vr0 "com/example/careful_ledger/carefulledger/json/PlainLine" "shapeReader" "Ljava/lang/Object;" u_shapeReader) (F_values_vr0 : Fld Z h0 vr0 "com/example/careful_ledger/carefulledger/json/PlainLine" "values" "I" (.int (1 : Int32))) (F_learning_vr0 : Fld Z h0 vr0 "com/example/careful_ledger/carefulledger/json/PlainLine" "learning" "Z" (.int (1 : Int32))) (F_partStart_vr0 : Fld Z h0 vr0 "com/example/careful_ledger/carefulledger/json/PlainLine" "partStart" "I" (.int w_ps)) (V_EN : Arv Z h0 EN kE .int (16 : Int32) [(.int en0), (.int en1), (.int en2)] (.int (0 : Int32))) (V_P : Arv Z h0 P kP .byte pn vP (.int (0 : Int32))) (V_B : Arv Z h0 B kB .byte (6144 : Int32) vB (.int (0 : Int32))) (V_TG : Arv Z h0 TG kT (.object "java/lang/Object") (16 : Int32) [tg0, tg1] .null) (hvP : vP.length = pn.toNatClampNeg) (hp1 : ¬ pn < (64 : Int32)) (hp2 : ¬ (4096 : Int32) < pn) (g_vr0 : n0 ≤ vr0) (g_P : n0 ≤ P) (g_EN : n0 ≤ EN) (g_TG : n0 ≤ TG) (ne_P_vr0 : P ≠ vr0) (ne_EN_vr0 : EN ≠ vr0) (ne_TG_vr0 : TG ≠ vr0) (ne_B_vr0 : B ≠ vr0) (ne_P_EN : P ≠ EN) (ne_P_TG : P ≠ TG) (ne_P_B : P ≠ B) (ne_EN_TG : EN ≠ TG) (ne_EN_B : EN ≠ B) (ne_TG_B : TG ≠ B) (OvT : Ovr Z kT "java/lang/Object") (lq1 : ¬ w_ps < 0) (lq2 : ¬ en0 < 0) (lq3 : ¬ (w_at - w_ps) < 0) (lq4 : w_ps.toNatClampNeg + (w_at - w_ps).toNatClampNeg ≤ (6144 : Int32).toNatClampNeg) (lq5 : en0.toNatClampNeg + (w_at - w_ps).toNatClampNeg ≤ (en0 + (w_at - w_ps)).toNatClampNeg) (lq6 : ¬ (en0 + (w_at - w_ps)) < 0) (hc54 : ¬ ((4096 : Int32) < (en0 + (w_at - w_ps)))) (E_vr1 : Exa Z h0 vr1 "java/lang/String") :
    MetFree l (⟨"com/example/careful_ledger/carefulledger/json/PlainLine", "valueComes", "(Ljava/lang/Object;)V"⟩ : MethodName) (head1 (Jvm.Cond.code (⟨"com/example/careful_ledger/carefulledger/json/PlainLine", "valueComes", "(Ljava/lang/Object;)V"⟩ : MethodName) prog_58_method_6_code 2 none :: ws) ({ frames := 3, cells := 1, slots := 4096, locals := 47 } : Room)) (fun a U => a = #[(.ref vr0), (.ref vr1)] ∧ Z.Warmed39 U.vm ∧ U.heap = h0) (fun _ _ _ _ _ => True) (fun _ U o U' => ∃ v L, o = .returned v ∧ Q15_v1 Z vr0 vr1 B w_at u_end P EN TG u_shapeReader w_ps kE pn kP vP kB vB kT en0 en1 en2 tg0 tg1 h0 n0 v U'.heap L ∧ FrameEnd U o U' L ({ frames := 3, cells := 1, slots := 4096, locals := 47 } : Room).cells ({ frames := 3, cells := 1, slots := 4096, locals := 47 } : Room).slots) := by
  refine MetFree.of_bodySF (plainFor_of_name pn_com_example_careful_ledger_carefulledger_json_PlainLine) hisR ?_
  intro p e s m args below meth c s₁ Bd hml0 hP hK
  obtain ⟨rfl, hZ, hh⟩ := hP
  have hx := Bd.exec
  have hby := Bd.bytes
  have hml : c.maxLocals = 2 := hml0
  have hown : s.vm.findClass "com/example/careful_ledger/carefulledger/json/PlainLine" = some m.cls := findClass_of_methodNamed Bd.named
  have hnm := (name_of_methodNamed Bd.named Bd.method).1
  have X0 : Stand p l e ({ frames := 3, cells := 1, slots := 4096, locals := 47 } : Room) s m #[(.ref vr0), (.ref vr1)] below meth c s₁ [] 0 0 := Stand.of_body Bd
  have e0 : s₁.heap = h0 := by rw [← hh, Bd.state]; rfl
  have N0 := Fr.nil n0
  have pre0 : ∀ t, Steps p.tables e below (s₁.setTop (mkF m 0 #[.val (.ref vr0), .val (.ref vr1)] [])) t → Steps p.tables e below (s₁.setTop (entryFrame m #[(.ref vr0), (.ref vr1)] 2)) t := fun t k => castTop (ef_15_v1 m vr0 vr1) k
  obtain ⟨cq1, q1, q1'⟩ := E_vr0.cell
  have sp1 := own_selp (mvT hZ (wd_32 hw) (args := #[])) (Cond.privateMethod_at (mvP hZ (wd_96 hw) (args := #[]))) (mvT hZ (wd_95 hw) (args := #[(.ref vr0), (.ref vr1)])) (by decide)
  obtain ⟨_, _, ⟨T1, L1, k1, n1⟩, -, X1, ⟨Lc1, hQ1, l1, y1, z1⟩, st1⟩ := X0.privateBack hx (y := (⟨"com/example/careful_ledger/carefulledger/json/PlainLine", "endPart", "()V"⟩ : MethodName)) hown (mvT hZ (wd_94 hw)) (mvT hZ (wd_95 hw)) sp1 (Cond.privateMethod_at (mvP hZ (wd_96 hw) (args := #[]))) (mvT hZ (wd_97 hw)) (by decide) (backOf (W := 0) (rmE1 l Z a0 hw [] vr0 B w_at u_end P EN TG u_shapeReader w_ps kE pn kP vP kB vB kT en0 en1 en2 tg0 tg1 h0 n0 Z0 E_vr0 F_bytes_vr0 F_at_vr0 F_end_vr0 F_parts_vr0 F_partEnds_vr0 F_tags_vr0 F_shapeReader_vr0 F_values_vr0 F_learning_vr0 F_partStart_vr0 V_EN V_P V_B V_TG hvP hp1 hp2 g_vr0 g_P g_EN g_TG ne_P_vr0 ne_EN_vr0 ne_TG_vr0 ne_B_vr0 ne_P_EN ne_P_TG ne_P_B ne_EN_TG ne_EN_B ne_TG_B OvT lq1 lq2 lq3 lq4 lq5 lq6 hc54) hZ (wd_97 hw) (wd_33 hw) (by decide) (by decide)) (g := (mkF m 1 #[.val (.ref vr0), .val (.ref vr1)] [(.ref vr0)])) rfl (by rw [hml]; rfl) (Steps.refl _) (a := vr0) (by rw [e0]; exact q1) q1' (argsL := []) (rest := []) (lenOf pd_2 rfl) rfl (by show 2 * 0 + _ ≤ _; exact Nat.le_of_eq rfl) (hb hby d15_1) (fun _ _ => ⟨rfl, e0, (by decide : 0 + 1 ≤ _), (by decide : 0 + 4096 ≤ _)⟩)
  dsimp only [Pt.U, Pt.locs, Pt.cells, Pt.slots] at X1 l1 y1 z1 st1 hQ1
  subst l1 y1 z1
  obtain ⟨p21, k21, n21, v21, rfl, N1q, p1_0, p1_1, p1_2, p1_3, p1_4, p1_5, p1_6, p1_7, p1_8, p1_9, p1_10, p1_11, p1_12, p1_13, p1_14, p1_15, p1_16, p1_17, p1_18, p1_19, p1_20, p1_21⟩ := hQ1
  have N1 := Fr.app N0 N1q
  have K1 : Keep h0 T1.heap [vr0, P, EN, TG] := (Keep.refl h0 [vr0, P, EN, TG]).trans p1_0 (allS (Or.inl (List.mem_of_getElem? (i := 0) rfl)) (allS (Or.inl (List.mem_of_getElem? (i := 1) rfl)) (allS (Or.inl (List.mem_of_getElem? (i := 2) rfl)) all0)))
  obtain ⟨T2, X2, e2, st2⟩ := getF X1 hx hZ hown (host := "") (Or.inl (wd_78 hw)) Via.refl rfl p1_8 (g := (mkF m 5 #[.val (.ref vr0), .val (.ref vr1)] [(.ref vr0)])) rfl rfl (hb hby d15_5)
  obtain ⟨T3, X3, e3, st3⟩ := getF X2 hx hZ hown (host := "") (Or.inl (wd_60 hw)) Via.refl e2 p1_6 (g := (mkF m 9 #[.val (.ref vr0), .val (.ref vr1)] [(.ref vr0), (.int (1 : Int32))])) rfl rfl (hb hby d15_9)
  obtain ⟨cl4, Ar4, -, Sz4, Ng4, -, -⟩ := (id (V_TG.keep p1_0 (ninS ne_TG_vr0 (ninS (Ne.symm ne_P_TG) (ninS (Ne.symm ne_EN_TG) nin0)))))
  obtain ⟨T5, X5, e5, st5⟩ := getF X3 hx hZ hown (host := "") (Or.inl (wd_60 hw)) Via.refl e3 p1_6 (g := (mkF m 34 #[.val (.ref vr0), .val (.ref vr1)] [(.ref vr0)])) rfl rfl (hb hby d15_34)
  obtain ⟨T6, X6, e6, st6⟩ := getF X5 hx hZ hown (host := "") (Or.inl (wd_78 hw)) Via.refl e5 p1_8 (g := (mkF m 38 #[.val (.ref vr0), .val (.ref vr1)] [(.ref vr0), (.ref TG)])) rfl rfl (hb hby d15_38)
  obtain ⟨cl7, Ar7, q7, Sz7, Ng7, Hh7, Gg7⟩ := (id (V_TG.keep p1_0 (ninS ne_TG_vr0 (ninS (Ne.symm ne_P_TG) (ninS (Ne.symm ne_EN_TG) nin0)))))
  have hin7 : ¬ ((1 : Int32) < 0 ∨ cl7.slots.size ≤ ((1 : Int32)).toNatClampNeg) := inb_of Sz7 ⟨by decide, by decide⟩
  obtain ⟨T7, h7, X7, e7, W7, st7⟩ := stR X6 hx hZ e6 Ar7 (j := (1 : Int32)) hin7 rfl (Sto.ofV Ar7 q7 OvT (Ins.of_exa (E_vr1.keep p1_0) (wd_125 hw))) (g := (mkF m 42 #[.val (.ref vr0), .val (.ref vr1)] [(.ref vr1), (.int (1 : Int32)), (.ref TG)])) rfl rfl (hb hby d15_42)
  have V_TG_7 : Arv Z h7 TG kT (.object "java/lang/Object") (16 : Int32) [tg0, (.ref vr1)] .null := Arv.set Ar7 q7 Sz7 Ng7 Hh7 Gg7 rfl W7 1 rfl (Nat.le_of_ble_eq_true rfl)
  have N7 := Fr.snoc X7 N1 g_TG
  have K7 : Keep h0 h7 [vr0, P, EN, TG] := K1.wr W7 (Or.inl (List.mem_of_getElem? (i := 3) rfl))
  obtain ⟨T8, X8, e8, st8⟩ := getF X7 hx hZ hown (host := "") (Or.inl (wd_78 hw)) Via.refl e7 (p1_8.other W7 (Or.inl (Ne.symm ne_TG_vr0))) (g := (mkF m 45 #[.val (.ref vr0), .val (.ref vr1)] [(.ref vr0), (.ref vr0)])) rfl rfl (hb hby d15_45)
  obtain ⟨T9, h9, X9, e9, W9, st9⟩ := putF X8 hx hZ hown (host := "") (Or.inl (wd_78 hw)) Via.refl e8 (p1_8.other W7 (Or.inl (Ne.symm ne_TG_vr0))) ((E_vr0.keep p1_0).wr W7) (Or.inl (wd_79 hw)) (wd_32 hw) (ty := .int) (by decide) rfl rfl (g := (mkF m 50 #[.val (.ref vr0), .val (.ref vr1)] [(.int (2 : Int32)), (.ref vr0)])) rfl rfl (hb hby d15_50)
  have Fw9 := (p1_8.other W7 (Or.inl (Ne.symm ne_TG_vr0))).same W9
  have N9 := Fr.snoc X9 N7 g_vr0
  have K9 : Keep h0 h9 [vr0, P, EN, TG] := K7.wr W9 (Or.inl (List.mem_of_getElem? (i := 0) rfl))
  obtain ⟨fs, hr, hrun, hended, hW, hsame⟩ := X9.leave (v := none) (fun _ => rfl)
  refine ⟨_, _, pre0 _ ?_, hrun, hended, _, _, rfl, ?_, ⟨_, rfl⟩, hW, hsame.mono (by decide) (by decide)⟩
  · show Steps p.tables e below (s₁.setTop (mkF m 0 #[.val (.ref vr0), .val (.ref vr1)] [])) _
    refine XS.aloadN X0.here hx rfl (hb hby d15_0) rfl rfl ?_
    show Steps p.tables e below (s₁.setTop (mkF m 1 #[.val (.ref vr0), .val (.ref vr1)] [(.ref vr0)])) _
    refine st1.trans ?_
    refine XS.aloadN X1.here hx rfl (hb hby d15_4) rfl rfl ?_
    show Steps p.tables e below (T1.setTop (mkF m 5 #[.val (.ref vr0), .val (.ref vr1)] [(.ref vr0)])) _
    refine st2 _ ?_
    show Steps p.tables e below (T2.setTop (mkF m 8 #[.val (.ref vr0), .val (.ref vr1)] [(.int (1 : Int32))])) _
    refine XS.aloadN X2.here hx rfl (hb hby d15_8) rfl rfl ?_
    show Steps p.tables e below (T2.setTop (mkF m 9 #[.val (.ref vr0), .val (.ref vr1)] [(.ref vr0), (.int (1 : Int32))])) _
    refine st3 _ ?_
    show Steps p.tables e below (T3.setTop (mkF m 12 #[.val (.ref vr0), .val (.ref vr1)] [(.ref TG), (.int (1 : Int32))])) _
    refine X3.arraylength hx (by rw [e3]; exact Ar4.1) (State.isArrayOf_alike hZ.alike Ar4.2.1) (g := (mkF m 12 #[.val (.ref vr0), .val (.ref vr1)] [(.ref TG), (.int (1 : Int32))])) rfl rfl (hb hby d15_12) _ ?_
    rw [len_of Sz4 Ng4]
    show Steps p.tables e below (T3.setTop (mkF m 13 #[.val (.ref vr0), .val (.ref vr1)] [(.int (16 : Int32)), (.int (1 : Int32))])) _
    refine XS.icmpYes X3.here hx rfl (pc0 := 13) (pc' := 33) rfl (hb hby d15_13) rfl (feq (by decide : ¬ ((1 : Int32) = (16 : Int32)))).2 (by decide) (by decide) ?_
    show Steps p.tables e below (T3.setTop (mkF m 33 #[.val (.ref vr0), .val (.ref vr1)] [])) _
    refine XS.aloadN X3.here hx rfl (hb hby d15_33) rfl rfl ?_
    show Steps p.tables e below (T3.setTop (mkF m 34 #[.val (.ref vr0), .val (.ref vr1)] [(.ref vr0)])) _
    refine st5 _ ?_
    refine XS.aloadN X5.here hx rfl (hb hby d15_37) rfl rfl ?_
    show Steps p.tables e below (T5.setTop (mkF m 38 #[.val (.ref vr0), .val (.ref vr1)] [(.ref vr0), (.ref TG)])) _
    refine st6 _ ?_
    show Steps p.tables e below (T6.setTop (mkF m 41 #[.val (.ref vr0), .val (.ref vr1)] [(.int (1 : Int32)), (.ref TG)])) _
    refine XS.aloadN X6.here hx rfl (hb hby d15_41) rfl rfl ?_
    show Steps p.tables e below (T6.setTop (mkF m 42 #[.val (.ref vr0), .val (.ref vr1)] [(.ref vr1), (.int (1 : Int32)), (.ref TG)])) _
    refine st7 _ ?_
    refine XS.aloadN X7.here hx rfl (hb hby d15_43) rfl rfl ?_
    refine XS.dup X7.here hx rfl (hb hby d15_44) rfl rfl ?_
    show Steps p.tables e below (T7.setTop (mkF m 45 #[.val (.ref vr0), .val (.ref vr1)] [(.ref vr0), (.ref vr0)])) _
    refine st8 _ ?_
    refine XS.iconst X8.here hx rfl (hb hby d15_48) ?_
    refine XS.iadd X8.here hx rfl (hb hby d15_49) rfl ?_
    show Steps p.tables e below (T8.setTop (mkF m 50 #[.val (.ref vr0), .val (.ref vr1)] [(.int (2 : Int32)), (.ref vr0)])) _
    refine st9 _ ?_
    show Steps p.tables e below (T9.setTop (mkF m 53 #[.val (.ref vr0), .val (.ref vr1)] [])) _
    exact X9.returnOut hx Bd.returns (hb hby d15_53) hr
  · show Q15_v1 Z vr0 vr1 B w_at u_end P EN TG u_shapeReader w_ps kE pn kP vP kB vB kT en0 en1 en2 tg0 tg1 h0 n0 _ T9.heap _
    rw [e9]
    exact ⟨p21, k21, n21, v21, rfl, N9, K9, ((p1_1.other W7 (Or.inl (Ne.symm ne_TG_vr0))).other W9 (Or.inr (sl_77 hw))), ((p1_2.other W7 (Or.inl (Ne.symm ne_TG_vr0))).other W9 (Or.inr (sl_71 hw))), ((p1_3.other W7 (Or.inl (Ne.symm ne_TG_vr0))).other W9 (Or.inr (sl_82 hw))), ((p1_4.other W7 (Or.inl (Ne.symm ne_TG_vr0))).other W9 (Or.inr (sl_86 hw))), ((p1_5.other W7 (Or.inl (Ne.symm ne_TG_vr0))).other W9 (Or.inr (sl_90 hw))), ((p1_6.other W7 (Or.inl (Ne.symm ne_TG_vr0))).other W9 (Or.inr (sl_94 hw))), ((p1_7.other W7 (Or.inl (Ne.symm ne_TG_vr0))).other W9 (Or.inr (sl_97 hw))), Fw9, ((p1_9.other W7 (Or.inl (Ne.symm ne_TG_vr0))).other W9 (Or.inr (sl_69 hw))), ((p1_10.other W7 (Or.inl (Ne.symm ne_TG_vr0))).other W9 (Or.inr (sl_74 hw))), ((p1_11.other W7 ne_EN_TG).other W9 ne_EN_vr0), (V_TG_7.other W9 ne_TG_vr0), ((p1_12.other W7 p1_21).other W9 p1_18), p1_13, p1_14, p1_15, p1_16, p1_17, p1_18, p1_19, p1_20, p1_21⟩
theorem d12_0 : decode prog_58_method_8_code 0 = .ok (.aload_n 0, 1) := by decide +kernel
theorem d12_1 : decode prog_58_method_8_code 1 = .ok (.invokevirtual 54, 3) := by decide +kernel
theorem d12_4 : decode prog_58_method_8_code 4 = .ok (.aload_n 0, 1) := by decide +kernel
theorem d12_5 : decode prog_58_method_8_code 5 = .ok (.aload_n 0, 1) := by decide +kernel
theorem d12_6 : decode prog_58_method_8_code 6 = .ok (.getfield 47, 3) := by decide +kernel
theorem d12_9 : decode prog_58_method_8_code 9 = .ok (.ifCond .eq 7, 3) := by decide +kernel
theorem d12_12 : decode prog_58_method_8_code 12 = .ok (.aload_n 1, 1) := by decide +kernel
theorem d12_13 : decode prog_58_method_8_code 13 = .ok (.goto 4, 3) := by decide +kernel
theorem d12_17 : decode prog_58_method_8_code 17 = .ok (.putfield 40, 3) := by decide +kernel
theorem d12_20 : decode prog_58_method_8_code 20 = .ok (.return_, 1) := by decide +kernel
theorem ef_12_ok0 (m : MethodId) (x0 : Addr) (x1 : Addr) : entryFrame m #[(.ref x0), (.ref x1)] 2 = mkF m 0 #[.val (.ref x0), .val (.ref x1)] [] := by first | (simp [entryFrame, mkF, argsToLocals, Value.category]; done) | rfl
def Q12_ok0 (Z : State) (vr0 : Addr) (vr1 : Addr) (B : Addr) (w_at : Int32) (u_end : Value) (P : Addr) (EN : Addr) (TG : Addr) (u_shapeReader : Value) (w_ps : Int32) (kE : ClassId) (pn : Int32) (kP : ClassId) (vP : List Value) (kB : ClassId) (vB : List Value) (kT : ClassId) (en0 : Int32) (en1 : Int32) (en2 : Int32) (tg0 : Value) (tg1 : Value) (h0 : Heap) (n0 : Nat) (v : Option Value) (h : Heap) (L : List Loc) : Prop := ∃ p2 : Addr, v = none ∧ Fr n0 L ∧ Keep h0 h [vr0, P, EN] ∧ Fld Z h vr0 "com/example/careful_ledger/carefulledger/json/PlainLine" "bytes" "[B" (.ref B) ∧ Fld Z h vr0 "com/example/careful_ledger/carefulledger/json/PlainLine" "at" "I" (.int w_at) ∧ Fld Z h vr0 "com/example/careful_ledger/carefulledger/json/PlainLine" "end" "I" u_end ∧ Fld Z h vr0 "com/example/careful_ledger/carefulledger/json/PlainLine" "parts" "[B" (.ref p2) ∧ Fld Z h vr0 "com/example/careful_ledger/carefulledger/json/PlainLine" "partEnds" "[I" (.ref EN) ∧ Fld Z h vr0 "com/example/careful_ledger/carefulledger/json/PlainLine" "tags" "[Ljava/lang/Object;" (.ref TG) ∧ Fld Z h vr0 "com/example/careful_ledger/carefulledger/json/PlainLine" "shapeReader" "Ljava/lang/Object;" (.ref vr1) ∧ Fld Z h vr0 "com/example/careful_ledger/carefulledger/json/PlainLine" "values" "I" (.int (0 : Int32)) ∧ Fld Z h vr0 "com/example/careful_ledger/carefulledger/json/PlainLine" "learning" "Z" (.int (1 : Int32)) ∧ Fld Z h vr0 "com/example/careful_ledger/carefulledger/json/PlainLine" "partStart" "I" (.int w_ps)
set_option maxRecDepth 65536 in
set_option maxHeartbeats 40000000 in
theorem rm12_ok0 (l : Launch) (Z : State) (a0 : Array Value) (hw : ∀ d ∈ tables_1, d.before a0 Z = true) (ws : List Jvm.Cond) (vr0 : Addr) (vr1 : Addr) (B : Addr) (w_at : Int32) (u_end : Value) (P : Addr) (EN : Addr) (TG : Addr) (u_shapeReader : Value) (w_ps : Int32) (kE : ClassId) (pn : Int32) (kP : ClassId) (vP : List Value) (kB : ClassId) (vB : List Value) (kT : ClassId) (en0 : Int32) (en1 : Int32) (en2 : Int32) (tg0 : Value) (tg1 : Value) (h0 : Heap) (n0 : Nat) (Z0 : n0 ≤ h0.size) (E_vr0 : Exa Z h0 vr0 "com/example/careful_ledger/carefulledger/json/PlainLine") (F_bytes_vr0 : Fld Z h0 vr0 "com/example/careful_ledger/carefulledger/json/PlainLine" "bytes" "[B" (.ref B)) (F_at_vr0 : Fld Z h0 vr0 "com/example/careful_ledger/carefulledger/json/PlainLine" "at" "I" (.int w_at)) (F_end_vr0 : Fld Z h0 vr0 "com/example/careful_ledger/carefulledger/json/PlainLine" "end" "I" u_end) (F_parts_vr0 : Fld Z h0 vr0 "com/example/careful_ledger/carefulledger/json/PlainLine" "parts" "[B" (.ref P)) (F_partEnds_vr0 : Fld Z h0 vr0 "com/example/careful_ledger/carefulledger/json/PlainLine" "partEnds" "[I" (.ref EN)) (F_tags_vr0 : Fld Z h0 vr0 "com/example/careful_ledger/carefulledger/json/PlainLine" "tags" "[Ljava/lang/Object;" (.ref TG)) (F_shapeReader_vr0 : Fld Z h0 vr0 "com/example/careful_ledger/carefulledger/json/PlainLine" "shapeReader" "Ljava/lang/Object;" u_shapeReader) (F_values_vr0 : Fld Z h0 vr0 "com/example/careful_ledger/carefulledger/json/PlainLine" "values" "I" (.int (0 : Int32))) (F_learning_vr0 : Fld Z h0 vr0 "com/example/careful_ledger/carefulledger/json/PlainLine" "learning" "Z" (.int (1 : Int32))) (F_partStart_vr0 : Fld Z h0 vr0 "com/example/careful_ledger/carefulledger/json/PlainLine" "partStart" "I" (.int w_ps)) (V_EN : Arv Z h0 EN kE .int (16 : Int32) [(.int en0), (.int en1), (.int en2)] (.int (0 : Int32))) (V_P : Arv Z h0 P kP .byte pn vP (.int (0 : Int32))) (V_B : Arv Z h0 B kB .byte (6144 : Int32) vB (.int (0 : Int32))) (V_TG : Arv Z h0 TG kT (.object "java/lang/Object") (16 : Int32) [tg0, tg1] .null) (hvP : vP.length = pn.toNatClampNeg) (hp1 : ¬ pn < (64 : Int32)) (hp2 : ¬ (4096 : Int32) < pn) (g_vr0 : n0 ≤ vr0) (g_P : n0 ≤ P) (g_EN : n0 ≤ EN) (g_TG : n0 ≤ TG) (ne_P_vr0 : P ≠ vr0) (ne_EN_vr0 : EN ≠ vr0) (ne_TG_vr0 : TG ≠ vr0) (ne_B_vr0 : B ≠ vr0) (ne_P_EN : P ≠ EN) (ne_P_TG : P ≠ TG) (ne_P_B : P ≠ B) (ne_EN_TG : EN ≠ TG) (ne_EN_B : EN ≠ B) (ne_TG_B : TG ≠ B) (OvT : Ovr Z kT "java/lang/Object") (lq1 : ¬ w_ps < 0) (lq2 : ¬ (0 : Int32) < 0) (lq3 : ¬ (w_at - w_ps) < 0) (lq4 : w_ps.toNatClampNeg + (w_at - w_ps).toNatClampNeg ≤ (6144 : Int32).toNatClampNeg) (lq5 : (0 : Int32).toNatClampNeg + (w_at - w_ps).toNatClampNeg ≤ ((0 : Int32) + (w_at - w_ps)).toNatClampNeg) (lq6 : ¬ ((0 : Int32) + (w_at - w_ps)) < 0) (hc54 : ¬ ((4096 : Int32) < ((0 : Int32) + (w_at - w_ps)))) :
    MetFree l (⟨"com/example/careful_ledger/carefulledger/json/PlainLine", "endShape", "(Ljava/lang/Object;)V"⟩ : MethodName) (head1 (Jvm.Cond.code (⟨"com/example/careful_ledger/carefulledger/json/PlainLine", "endShape", "(Ljava/lang/Object;)V"⟩ : MethodName) prog_58_method_8_code 2 none :: ws) ({ frames := 3, cells := 1, slots := 4096, locals := 47 } : Room)) (fun a U => a = #[(.ref vr0), (.ref vr1)] ∧ Z.Warmed39 U.vm ∧ U.heap = h0) (fun _ _ _ _ _ => True) (fun _ U o U' => ∃ v L, o = .returned v ∧ Q12_ok0 Z vr0 vr1 B w_at u_end P EN TG u_shapeReader w_ps kE pn kP vP kB vB kT en0 en1 en2 tg0 tg1 h0 n0 v U'.heap L ∧ FrameEnd U o U' L ({ frames := 3, cells := 1, slots := 4096, locals := 47 } : Room).cells ({ frames := 3, cells := 1, slots := 4096, locals := 47 } : Room).slots) := by
  refine MetFree.of_bodySF (plainFor_of_name pn_com_example_careful_ledger_carefulledger_json_PlainLine) hisR ?_
  intro p e s m args below meth c s₁ Bd hml0 hP hK
  obtain ⟨rfl, hZ, hh⟩ := hP
  have hx := Bd.exec
  have hby := Bd.bytes
  have hml : c.maxLocals = 2 := hml0
  have hown : s.vm.findClass "com/example/careful_ledger/carefulledger/json/PlainLine" = some m.cls := findClass_of_methodNamed Bd.named
  have hnm := (name_of_methodNamed Bd.named Bd.method).1
  have X0 : Stand p l e ({ frames := 3, cells := 1, slots := 4096, locals := 47 } : Room) s m #[(.ref vr0), (.ref vr1)] below meth c s₁ [] 0 0 := Stand.of_body Bd
  have e0 : s₁.heap = h0 := by rw [← hh, Bd.state]; rfl
  have N0 := Fr.nil n0
  have pre0 : ∀ t, Steps p.tables e below (s₁.setTop (mkF m 0 #[.val (.ref vr0), .val (.ref vr1)] [])) t → Steps p.tables e below (s₁.setTop (entryFrame m #[(.ref vr0), (.ref vr1)] 2)) t := fun t k => castTop (ef_12_ok0 m vr0 vr1) k
  obtain ⟨cq1, q1, q1'⟩ := E_vr0.cell
  have sp1 := own_selp (mvT hZ (wd_32 hw) (args := #[])) (Cond.privateMethod_at (mvP hZ (wd_96 hw) (args := #[]))) (mvT hZ (wd_95 hw) (args := #[(.ref vr0), (.ref vr1)])) (by decide)
  obtain ⟨_, _, ⟨T1, L1, k1, n1⟩, -, X1, ⟨Lc1, hQ1, l1, y1, z1⟩, st1⟩ := X0.privateBack hx (y := (⟨"com/example/careful_ledger/carefulledger/json/PlainLine", "endPart", "()V"⟩ : MethodName)) hown (mvT hZ (wd_94 hw)) (mvT hZ (wd_95 hw)) sp1 (Cond.privateMethod_at (mvP hZ (wd_96 hw) (args := #[]))) (mvT hZ (wd_97 hw)) (by decide) (backOf (W := 0) (rmE0 l Z a0 hw [] vr0 B w_at u_end P EN TG u_shapeReader w_ps kE pn kP vP kB vB kT en0 en1 en2 tg0 tg1 h0 n0 Z0 E_vr0 F_bytes_vr0 F_at_vr0 F_end_vr0 F_parts_vr0 F_partEnds_vr0 F_tags_vr0 F_shapeReader_vr0 F_values_vr0 F_learning_vr0 F_partStart_vr0 V_EN V_P V_B V_TG hvP hp1 hp2 g_vr0 g_P g_EN g_TG ne_P_vr0 ne_EN_vr0 ne_TG_vr0 ne_B_vr0 ne_P_EN ne_P_TG ne_P_B ne_EN_TG ne_EN_B ne_TG_B OvT lq1 lq2 lq3 lq4 lq5 lq6 hc54) hZ (wd_97 hw) (wd_33 hw) (by decide) (by decide)) (g := (mkF m 1 #[.val (.ref vr0), .val (.ref vr1)] [(.ref vr0)])) rfl (by rw [hml]; rfl) (Steps.refl _) (a := vr0) (by rw [e0]; exact q1) q1' (argsL := []) (rest := []) (lenOf pd_2 rfl) rfl (by show 2 * 0 + _ ≤ _; exact Nat.le_of_eq rfl) (hb hby d12_1) (fun _ _ => ⟨rfl, e0, (by decide : 0 + 1 ≤ _), (by decide : 0 + 4096 ≤ _)⟩)
  dsimp only [Pt.U, Pt.locs, Pt.cells, Pt.slots] at X1 l1 y1 z1 st1 hQ1
  subst l1 y1 z1
  obtain ⟨p21, k21, n21, v21, rfl, N1q, p1_0, p1_1, p1_2, p1_3, p1_4, p1_5, p1_6, p1_7, p1_8, p1_9, p1_10, p1_11, p1_12, p1_13, p1_14, p1_15, p1_16, p1_17, p1_18, p1_19, p1_20, p1_21⟩ := hQ1
  have N1 := Fr.app N0 N1q
  have K1 : Keep h0 T1.heap [vr0, P, EN] := (Keep.refl h0 [vr0, P, EN]).trans p1_0 (allS (Or.inl (List.mem_of_getElem? (i := 0) rfl)) (allS (Or.inl (List.mem_of_getElem? (i := 1) rfl)) (allS (Or.inl (List.mem_of_getElem? (i := 2) rfl)) all0)))
  obtain ⟨T2, X2, e2, st2⟩ := getF X1 hx hZ hown (host := "") (Or.inl (wd_80 hw)) Via.refl rfl p1_9 (g := (mkF m 6 #[.val (.ref vr0), .val (.ref vr1)] [(.ref vr0), (.ref vr0)])) rfl rfl (hb hby d12_6)
  obtain ⟨T3, h3, X3, e3, W3, st3⟩ := putF X2 hx hZ hown (host := "") (Or.inl (wd_76 hw)) Via.refl e2 p1_7 (E_vr0.keep p1_0) (Or.inl (wd_77 hw)) (wd_32 hw) (ty := (.object "java/lang/Object")) (by decide) rfl rfl (g := (mkF m 17 #[.val (.ref vr0), .val (.ref vr1)] [(.ref vr1), (.ref vr0)])) rfl rfl (hb hby d12_17)
  have Fw3 := p1_7.same W3
  have N3 := Fr.snoc X3 N1 g_vr0
  have K3 : Keep h0 h3 [vr0, P, EN] := K1.wr W3 (Or.inl (List.mem_of_getElem? (i := 0) rfl))
  obtain ⟨fs, hr, hrun, hended, hW, hsame⟩ := X3.leave (v := none) (fun _ => rfl)
  refine ⟨_, _, pre0 _ ?_, hrun, hended, _, _, rfl, ?_, ⟨_, rfl⟩, hW, hsame.mono (by decide) (by decide)⟩
  · show Steps p.tables e below (s₁.setTop (mkF m 0 #[.val (.ref vr0), .val (.ref vr1)] [])) _
    refine XS.aloadN X0.here hx rfl (hb hby d12_0) rfl rfl ?_
    show Steps p.tables e below (s₁.setTop (mkF m 1 #[.val (.ref vr0), .val (.ref vr1)] [(.ref vr0)])) _
    refine st1.trans ?_
    refine XS.aloadN X1.here hx rfl (hb hby d12_4) rfl rfl ?_
    refine XS.aloadN X1.here hx rfl (hb hby d12_5) rfl rfl ?_
    show Steps p.tables e below (T1.setTop (mkF m 6 #[.val (.ref vr0), .val (.ref vr1)] [(.ref vr0), (.ref vr0)])) _
    refine st2 _ ?_
    show Steps p.tables e below (T2.setTop (mkF m 9 #[.val (.ref vr0), .val (.ref vr1)] [(.int (1 : Int32)), (.ref vr0)])) _
    refine XS.ifNo X2.here hx rfl (hb hby d12_9) rfl ((if0 _ _).trans (feq (by decide : ¬ ((1 : Int32) = (0 : Int32)))).1) ?_
    refine XS.aloadN X2.here hx rfl (hb hby d12_12) rfl rfl ?_
    refine XS.goto X2.here hx rfl (pc0 := 13) (pc' := 17) rfl (hb hby d12_13) (by decide) (by decide) ?_
    show Steps p.tables e below (T2.setTop (mkF m 17 #[.val (.ref vr0), .val (.ref vr1)] [(.ref vr1), (.ref vr0)])) _
    refine st3 _ ?_
    exact X3.returnOut hx Bd.returns (hb hby d12_20) hr
  · show Q12_ok0 Z vr0 vr1 B w_at u_end P EN TG u_shapeReader w_ps kE pn kP vP kB vB kT en0 en1 en2 tg0 tg1 h0 n0 _ T3.heap _
    rw [e3]
    exact ⟨p21, rfl, N3, K3, (p1_1.other W3 (Or.inr (sl_76 hw))), (p1_2.other W3 (Or.inr (sl_70 hw))), (p1_3.other W3 (Or.inr (sl_81 hw))), (p1_4.other W3 (Or.inr (sl_85 hw))), (p1_5.other W3 (Or.inr (sl_89 hw))), (p1_6.other W3 (Or.inr (sl_93 hw))), Fw3, (p1_8.other W3 (Or.inr (sl_67 hw))), (p1_9.other W3 (Or.inr (sl_68 hw))), (p1_10.other W3 (Or.inr (sl_73 hw)))⟩
theorem d12_16 : decode prog_58_method_8_code 16 = .ok (.aconst_null, 1) := by decide +kernel
theorem ef_12_ov0 (m : MethodId) (x0 : Addr) (x1 : Addr) : entryFrame m #[(.ref x0), (.ref x1)] 2 = mkF m 0 #[.val (.ref x0), .val (.ref x1)] [] := by first | (simp [entryFrame, mkF, argsToLocals, Value.category]; done) | rfl
def Q12_ov0 (Z : State) (vr0 : Addr) (vr1 : Addr) (B : Addr) (w_at : Int32) (u_end : Value) (P : Addr) (EN : Addr) (TG : Addr) (u_shapeReader : Value) (w_ps : Int32) (kE : ClassId) (pn : Int32) (kP : ClassId) (vP : List Value) (kB : ClassId) (vB : List Value) (kT : ClassId) (en0 : Int32) (en1 : Int32) (en2 : Int32) (tg0 : Value) (tg1 : Value) (h0 : Heap) (n0 : Nat) (v : Option Value) (h : Heap) (L : List Loc) : Prop := v = none ∧ Fr n0 L ∧ Keep h0 h [vr0] ∧ Fld Z h vr0 "com/example/careful_ledger/carefulledger/json/PlainLine" "bytes" "[B" (.ref B) ∧ Fld Z h vr0 "com/example/careful_ledger/carefulledger/json/PlainLine" "at" "I" (.int w_at) ∧ Fld Z h vr0 "com/example/careful_ledger/carefulledger/json/PlainLine" "end" "I" u_end ∧ Fld Z h vr0 "com/example/careful_ledger/carefulledger/json/PlainLine" "parts" "[B" (.ref P) ∧ Fld Z h vr0 "com/example/careful_ledger/carefulledger/json/PlainLine" "partEnds" "[I" (.ref EN) ∧ Fld Z h vr0 "com/example/careful_ledger/carefulledger/json/PlainLine" "tags" "[Ljava/lang/Object;" (.ref TG) ∧ Fld Z h vr0 "com/example/careful_ledger/carefulledger/json/PlainLine" "shapeReader" "Ljava/lang/Object;" .null ∧ Fld Z h vr0 "com/example/careful_ledger/carefulledger/json/PlainLine" "values" "I" (.int (0 : Int32)) ∧ Fld Z h vr0 "com/example/careful_ledger/carefulledger/json/PlainLine" "learning" "Z" (.int (0 : Int32)) ∧ Fld Z h vr0 "com/example/careful_ledger/carefulledger/json/PlainLine" "partStart" "I" (.int w_ps)
set_option maxRecDepth 65536 in
set_option maxHeartbeats 40000000 in
theorem rm12_ov0 (l : Launch) (Z : State) (a0 : Array Value) (hw : ∀ d ∈ tables_1, d.before a0 Z = true) (ws : List Jvm.Cond) (vr0 : Addr) (vr1 : Addr) (B : Addr) (w_at : Int32) (u_end : Value) (P : Addr) (EN : Addr) (TG : Addr) (u_shapeReader : Value) (w_ps : Int32) (kE : ClassId) (pn : Int32) (kP : ClassId) (vP : List Value) (kB : ClassId) (vB : List Value) (kT : ClassId) (en0 : Int32) (en1 : Int32) (en2 : Int32) (tg0 : Value) (tg1 : Value) (h0 : Heap) (n0 : Nat) (Z0 : n0 ≤ h0.size) (E_vr0 : Exa Z h0 vr0 "com/example/careful_ledger/carefulledger/json/PlainLine") (F_bytes_vr0 : Fld Z h0 vr0 "com/example/careful_ledger/carefulledger/json/PlainLine" "bytes" "[B" (.ref B)) (F_at_vr0 : Fld Z h0 vr0 "com/example/careful_ledger/carefulledger/json/PlainLine" "at" "I" (.int w_at)) (F_end_vr0 : Fld Z h0 vr0 "com/example/careful_ledger/carefulledger/json/PlainLine" "end" "I" u_end) (F_parts_vr0 : Fld Z h0 vr0 "com/example/careful_ledger/carefulledger/json/PlainLine" "parts" "[B" (.ref P)) (F_partEnds_vr0 : Fld Z h0 vr0 "com/example/careful_ledger/carefulledger/json/PlainLine" "partEnds" "[I" (.ref EN)) (F_tags_vr0 : Fld Z h0 vr0 "com/example/careful_ledger/carefulledger/json/PlainLine" "tags" "[Ljava/lang/Object;" (.ref TG)) (F_shapeReader_vr0 : Fld Z h0 vr0 "com/example/careful_ledger/carefulledger/json/PlainLine" "shapeReader" "Ljava/lang/Object;" u_shapeReader) (F_values_vr0 : Fld Z h0 vr0 "com/example/careful_ledger/carefulledger/json/PlainLine" "values" "I" (.int (0 : Int32))) (F_learning_vr0 : Fld Z h0 vr0 "com/example/careful_ledger/carefulledger/json/PlainLine" "learning" "Z" (.int (1 : Int32))) (F_partStart_vr0 : Fld Z h0 vr0 "com/example/careful_ledger/carefulledger/json/PlainLine" "partStart" "I" (.int w_ps)) (V_EN : Arv Z h0 EN kE .int (16 : Int32) [(.int en0), (.int en1), (.int en2)] (.int (0 : Int32))) (V_P : Arv Z h0 P kP .byte pn vP (.int (0 : Int32))) (V_B : Arv Z h0 B kB .byte (6144 : Int32) vB (.int (0 : Int32))) (V_TG : Arv Z h0 TG kT (.object "java/lang/Object") (16 : Int32) [tg0, tg1] .null) (hvP : vP.length = pn.toNatClampNeg) (hp1 : ¬ pn < (64 : Int32)) (hp2 : ¬ (4096 : Int32) < pn) (g_vr0 : n0 ≤ vr0) (g_P : n0 ≤ P) (g_EN : n0 ≤ EN) (g_TG : n0 ≤ TG) (ne_P_vr0 : P ≠ vr0) (ne_EN_vr0 : EN ≠ vr0) (ne_TG_vr0 : TG ≠ vr0) (ne_B_vr0 : B ≠ vr0) (ne_P_EN : P ≠ EN) (ne_P_TG : P ≠ TG) (ne_P_B : P ≠ B) (ne_EN_TG : EN ≠ TG) (ne_EN_B : EN ≠ B) (ne_TG_B : TG ≠ B) (OvT : Ovr Z kT "java/lang/Object") (hc54 : (4096 : Int32) < ((0 : Int32) + (w_at - w_ps))) :
    MetFree l (⟨"com/example/careful_ledger/carefulledger/json/PlainLine", "endShape", "(Ljava/lang/Object;)V"⟩ : MethodName) (head1 (Jvm.Cond.code (⟨"com/example/careful_ledger/carefulledger/json/PlainLine", "endShape", "(Ljava/lang/Object;)V"⟩ : MethodName) prog_58_method_8_code 2 none :: ws) ({ frames := 1, cells := 0, slots := 0, locals := 14 } : Room)) (fun a U => a = #[(.ref vr0), (.ref vr1)] ∧ Z.Warmed39 U.vm ∧ U.heap = h0) (fun _ _ _ _ _ => True) (fun _ U o U' => ∃ v L, o = .returned v ∧ Q12_ov0 Z vr0 vr1 B w_at u_end P EN TG u_shapeReader w_ps kE pn kP vP kB vB kT en0 en1 en2 tg0 tg1 h0 n0 v U'.heap L ∧ FrameEnd U o U' L ({ frames := 1, cells := 0, slots := 0, locals := 14 } : Room).cells ({ frames := 1, cells := 0, slots := 0, locals := 14 } : Room).slots) := by
  refine MetFree.of_bodySF (plainFor_of_name pn_com_example_careful_ledger_carefulledger_json_PlainLine) hisR ?_
  intro p e s m args below meth c s₁ Bd hml0 hP hK
  obtain ⟨rfl, hZ, hh⟩ := hP
  have hx := Bd.exec
  have hby := Bd.bytes
  have hml : c.maxLocals = 2 := hml0
  have hown : s.vm.findClass "com/example/careful_ledger/carefulledger/json/PlainLine" = some m.cls := findClass_of_methodNamed Bd.named
  have hnm := (name_of_methodNamed Bd.named Bd.method).1
  have X0 : Stand p l e ({ frames := 1, cells := 0, slots := 0, locals := 14 } : Room) s m #[(.ref vr0), (.ref vr1)] below meth c s₁ [] 0 0 := Stand.of_body Bd
  have e0 : s₁.heap = h0 := by rw [← hh, Bd.state]; rfl
  have N0 := Fr.nil n0
  have pre0 : ∀ t, Steps p.tables e below (s₁.setTop (mkF m 0 #[.val (.ref vr0), .val (.ref vr1)] [])) t → Steps p.tables e below (s₁.setTop (entryFrame m #[(.ref vr0), (.ref vr1)] 2)) t := fun t k => castTop (ef_12_ov0 m vr0 vr1) k
  obtain ⟨cq1, q1, q1'⟩ := E_vr0.cell
  have sp1 := own_selp (mvT hZ (wd_32 hw) (args := #[])) (Cond.privateMethod_at (mvP hZ (wd_96 hw) (args := #[]))) (mvT hZ (wd_95 hw) (args := #[(.ref vr0), (.ref vr1)])) (by decide)
  obtain ⟨_, _, ⟨T1, L1, k1, n1⟩, -, X1, ⟨Lc1, hQ1, l1, y1, z1⟩, st1⟩ := X0.privateBack hx (y := (⟨"com/example/careful_ledger/carefulledger/json/PlainLine", "endPart", "()V"⟩ : MethodName)) hown (mvT hZ (wd_94 hw)) (mvT hZ (wd_95 hw)) sp1 (Cond.privateMethod_at (mvP hZ (wd_96 hw) (args := #[]))) (mvT hZ (wd_97 hw)) (by decide) (backOf (W := 0) (rm13_ov0 l Z a0 hw [] vr0 B w_at u_end P EN TG u_shapeReader w_ps kE pn kP vP kB vB kT en0 en1 en2 tg0 tg1 h0 n0 Z0 E_vr0 F_bytes_vr0 F_at_vr0 F_end_vr0 F_parts_vr0 F_partEnds_vr0 F_tags_vr0 F_shapeReader_vr0 F_values_vr0 F_learning_vr0 F_partStart_vr0 V_EN V_P V_B V_TG hvP hp1 hp2 g_vr0 g_P g_EN g_TG ne_P_vr0 ne_EN_vr0 ne_TG_vr0 ne_B_vr0 ne_P_EN ne_P_TG ne_P_B ne_EN_TG ne_EN_B ne_TG_B OvT hc54) hZ (wd_97 hw) (wd_33 hw) (by decide) (by decide)) (g := (mkF m 1 #[.val (.ref vr0), .val (.ref vr1)] [(.ref vr0)])) rfl (by rw [hml]; rfl) (Steps.refl _) (a := vr0) (by rw [e0]; exact q1) q1' (argsL := []) (rest := []) (lenOf pd_2 rfl) rfl (by show 2 * 0 + _ ≤ _; exact Nat.le_of_eq rfl) (hb hby d12_1) (fun _ _ => ⟨rfl, e0, (by decide : 0 + 0 ≤ _), (by decide : 0 + 0 ≤ _)⟩)
  dsimp only [Pt.U, Pt.locs, Pt.cells, Pt.slots] at X1 l1 y1 z1 st1 hQ1
  subst l1 y1 z1
  obtain ⟨rfl, N1q, p1_0, p1_1, p1_2, p1_3, p1_4, p1_5, p1_6, p1_7, p1_8, p1_9, p1_10⟩ := hQ1
  have N1 := Fr.app N0 N1q
  have K1 : Keep h0 T1.heap [vr0] := (Keep.refl h0 [vr0]).trans p1_0 (allS (Or.inl (List.mem_of_getElem? (i := 0) rfl)) all0)
  obtain ⟨T2, X2, e2, st2⟩ := getF X1 hx hZ hown (host := "") (Or.inl (wd_80 hw)) Via.refl rfl p1_9 (g := (mkF m 6 #[.val (.ref vr0), .val (.ref vr1)] [(.ref vr0), (.ref vr0)])) rfl rfl (hb hby d12_6)
  obtain ⟨T3, h3, X3, e3, W3, st3⟩ := putF X2 hx hZ hown (host := "") (Or.inl (wd_76 hw)) Via.refl e2 p1_7 (E_vr0.keep p1_0) (Or.inl (wd_77 hw)) (wd_32 hw) (ty := (.object "java/lang/Object")) (by decide) rfl rfl (g := (mkF m 17 #[.val (.ref vr0), .val (.ref vr1)] [.null, (.ref vr0)])) rfl rfl (hb hby d12_17)
  have Fw3 := p1_7.same W3
  have N3 := Fr.snoc X3 N1 g_vr0
  have K3 : Keep h0 h3 [vr0] := K1.wr W3 (Or.inl (List.mem_of_getElem? (i := 0) rfl))
  obtain ⟨fs, hr, hrun, hended, hW, hsame⟩ := X3.leave (v := none) (fun _ => rfl)
  refine ⟨_, _, pre0 _ ?_, hrun, hended, _, _, rfl, ?_, ⟨_, rfl⟩, hW, hsame.mono (by decide) (by decide)⟩
  · show Steps p.tables e below (s₁.setTop (mkF m 0 #[.val (.ref vr0), .val (.ref vr1)] [])) _
    refine XS.aloadN X0.here hx rfl (hb hby d12_0) rfl rfl ?_
    show Steps p.tables e below (s₁.setTop (mkF m 1 #[.val (.ref vr0), .val (.ref vr1)] [(.ref vr0)])) _
    refine st1.trans ?_
    refine XS.aloadN X1.here hx rfl (hb hby d12_4) rfl rfl ?_
    refine XS.aloadN X1.here hx rfl (hb hby d12_5) rfl rfl ?_
    show Steps p.tables e below (T1.setTop (mkF m 6 #[.val (.ref vr0), .val (.ref vr1)] [(.ref vr0), (.ref vr0)])) _
    refine st2 _ ?_
    show Steps p.tables e below (T2.setTop (mkF m 9 #[.val (.ref vr0), .val (.ref vr1)] [(.int (0 : Int32)), (.ref vr0)])) _
    refine XS.ifYes X2.here hx rfl (pc0 := 9) (pc' := 16) rfl (hb hby d12_9) rfl ((if0 _ _).trans (teq (rfl : (0 : Int32) = (0 : Int32))).1) (by decide) (by decide) ?_
    refine XS.aconstNull X2.here hx rfl (hb hby d12_16) ?_
    show Steps p.tables e below (T2.setTop (mkF m 17 #[.val (.ref vr0), .val (.ref vr1)] [.null, (.ref vr0)])) _
    refine st3 _ ?_
    show Steps p.tables e below (T3.setTop (mkF m 20 #[.val (.ref vr0), .val (.ref vr1)] [])) _
    exact X3.returnOut hx Bd.returns (hb hby d12_20) hr
  · show Q12_ov0 Z vr0 vr1 B w_at u_end P EN TG u_shapeReader w_ps kE pn kP vP kB vB kT en0 en1 en2 tg0 tg1 h0 n0 _ T3.heap _
    rw [e3]
    exact ⟨rfl, N3, K3, (p1_1.other W3 (Or.inr (sl_76 hw))), (p1_2.other W3 (Or.inr (sl_70 hw))), (p1_3.other W3 (Or.inr (sl_81 hw))), (p1_4.other W3 (Or.inr (sl_85 hw))), (p1_5.other W3 (Or.inr (sl_89 hw))), (p1_6.other W3 (Or.inr (sl_93 hw))), Fw3, (p1_8.other W3 (Or.inr (sl_67 hw))), (p1_9.other W3 (Or.inr (sl_68 hw))), (p1_10.other W3 (Or.inr (sl_73 hw)))⟩
theorem ef_12_ok1 (m : MethodId) (x0 : Addr) (x1 : Addr) : entryFrame m #[(.ref x0), (.ref x1)] 2 = mkF m 0 #[.val (.ref x0), .val (.ref x1)] [] := by first | (simp [entryFrame, mkF, argsToLocals, Value.category]; done) | rfl
def Q12_ok1 (Z : State) (vr0 : Addr) (vr1 : Addr) (B : Addr) (w_at : Int32) (u_end : Value) (P : Addr) (EN : Addr) (TG : Addr) (u_shapeReader : Value) (w_ps : Int32) (kE : ClassId) (pn : Int32) (kP : ClassId) (vP : List Value) (kB : ClassId) (vB : List Value) (kT : ClassId) (en0 : Int32) (en1 : Int32) (en2 : Int32) (tg0 : Value) (tg1 : Value) (h0 : Heap) (n0 : Nat) (v : Option Value) (h : Heap) (L : List Loc) : Prop := ∃ p2 : Addr, v = none ∧ Fr n0 L ∧ Keep h0 h [vr0, P, EN] ∧ Fld Z h vr0 "com/example/careful_ledger/carefulledger/json/PlainLine" "bytes" "[B" (.ref B) ∧ Fld Z h vr0 "com/example/careful_ledger/carefulledger/json/PlainLine" "at" "I" (.int w_at) ∧ Fld Z h vr0 "com/example/careful_ledger/carefulledger/json/PlainLine" "end" "I" u_end ∧ Fld Z h vr0 "com/example/careful_ledger/carefulledger/json/PlainLine" "parts" "[B" (.ref p2) ∧ Fld Z h vr0 "com/example/careful_ledger/carefulledger/json/PlainLine" "partEnds" "[I" (.ref EN) ∧ Fld Z h vr0 "com/example/careful_ledger/carefulledger/json/PlainLine" "tags" "[Ljava/lang/Object;" (.ref TG) ∧ Fld Z h vr0 "com/example/careful_ledger/carefulledger/json/PlainLine" "shapeReader" "Ljava/lang/Object;" (.ref vr1) ∧ Fld Z h vr0 "com/example/careful_ledger/carefulledger/json/PlainLine" "values" "I" (.int (1 : Int32)) ∧ Fld Z h vr0 "com/example/careful_ledger/carefulledger/json/PlainLine" "learning" "Z" (.int (1 : Int32)) ∧ Fld Z h vr0 "com/example/careful_ledger/carefulledger/json/PlainLine" "partStart" "I" (.int w_ps)
set_option maxRecDepth 65536 in
set_option maxHeartbeats 40000000 in
theorem rm12_ok1 (l : Launch) (Z : State) (a0 : Array Value) (hw : ∀ d ∈ tables_1, d.before a0 Z = true) (ws : List Jvm.Cond) (vr0 : Addr) (vr1 : Addr) (B : Addr) (w_at : Int32) (u_end : Value) (P : Addr) (EN : Addr) (TG : Addr) (u_shapeReader : Value) (w_ps : Int32) (kE : ClassId) (pn : Int32) (kP : ClassId) (vP : List Value) (kB : ClassId) (vB : List Value) (kT : ClassId) (en0 : Int32) (en1 : Int32) (en2 : Int32) (tg0 : Value) (tg1 : Value) (h0 : Heap) (n0 : Nat) (Z0 : n0 ≤ h0.size) (E_vr0 : Exa Z h0 vr0 "com/example/careful_ledger/carefulledger/json/PlainLine") (F_bytes_vr0 : Fld Z h0 vr0 "com/example/careful_ledger/carefulledger/json/PlainLine" "bytes" "[B" (.ref B)) (F_at_vr0 : Fld Z h0 vr0 "com/example/careful_ledger/carefulledger/json/PlainLine" "at" "I" (.int w_at)) (F_end_vr0 : Fld Z h0 vr0 "com/example/careful_ledger/carefulledger/json/PlainLine" "end" "I" u_end) (F_parts_vr0 : Fld Z h0 vr0 "com/example/careful_ledger/carefulledger/json/PlainLine" "parts" "[B" (.ref P)) (F_partEnds_vr0 : Fld Z h0 vr0 "com/example/careful_ledger/carefulledger/json/PlainLine" "partEnds" "[I" (.ref EN)) (F_tags_vr0 : Fld Z h0 vr0 "com/example/careful_ledger/carefulledger/json/PlainLine" "tags" "[Ljava/lang/Object;" (.ref TG)) (F_shapeReader_vr0 : Fld Z h0 vr0 "com/example/careful_ledger/carefulledger/json/PlainLine" "shapeReader" "Ljava/lang/Object;" u_shapeReader) (F_values_vr0 : Fld Z h0 vr0 "com/example/careful_ledger/carefulledger/json/PlainLine" "values" "I" (.int (1 : Int32))) (F_learning_vr0 : Fld Z h0 vr0 "com/example/careful_ledger/carefulledger/json/PlainLine" "learning" "Z" (.int (1 : Int32))) (F_partStart_vr0 : Fld Z h0 vr0 "com/example/careful_ledger/carefulledger/json/PlainLine" "partStart" "I" (.int w_ps)) (V_EN : Arv Z h0 EN kE .int (16 : Int32) [(.int en0), (.int en1), (.int en2)] (.int (0 : Int32))) (V_P : Arv Z h0 P kP .byte pn vP (.int (0 : Int32))) (V_B : Arv Z h0 B kB .byte (6144 : Int32) vB (.int (0 : Int32))) (V_TG : Arv Z h0 TG kT (.object "java/lang/Object") (16 : Int32) [tg0, tg1] .null) (hvP : vP.length = pn.toNatClampNeg) (hp1 : ¬ pn < (64 : Int32)) (hp2 : ¬ (4096 : Int32) < pn) (g_vr0 : n0 ≤ vr0) (g_P : n0 ≤ P) (g_EN : n0 ≤ EN) (g_TG : n0 ≤ TG) (ne_P_vr0 : P ≠ vr0) (ne_EN_vr0 : EN ≠ vr0) (ne_TG_vr0 : TG ≠ vr0) (ne_B_vr0 : B ≠ vr0) (ne_P_EN : P ≠ EN) (ne_P_TG : P ≠ TG) (ne_P_B : P ≠ B) (ne_EN_TG : EN ≠ TG) (ne_EN_B : EN ≠ B) (ne_TG_B : TG ≠ B) (OvT : Ovr Z kT "java/lang/Object") (lq1 : ¬ w_ps < 0) (lq2 : ¬ en0 < 0) (lq3 : ¬ (w_at - w_ps) < 0) (lq4 : w_ps.toNatClampNeg + (w_at - w_ps).toNatClampNeg ≤ (6144 : Int32).toNatClampNeg) (lq5 : en0.toNatClampNeg + (w_at - w_ps).toNatClampNeg ≤ (en0 + (w_at - w_ps)).toNatClampNeg) (lq6 : ¬ (en0 + (w_at - w_ps)) < 0) (hc54 : ¬ ((4096 : Int32) < (en0 + (w_at - w_ps)))) :
    MetFree l (⟨"com/example/careful_ledger/carefulledger/json/PlainLine", "endShape", "(Ljava/lang/Object;)V"⟩ : MethodName) (head1 (Jvm.Cond.code (⟨"com/example/careful_ledger/carefulledger/json/PlainLine", "endShape", "(Ljava/lang/Object;)V"⟩ : MethodName) prog_58_method_8_code 2 none :: ws) ({ frames := 3, cells := 1, slots := 4096, locals := 47 } : Room)) (fun a U => a = #[(.ref vr0), (.ref vr1)] ∧ Z.Warmed39 U.vm ∧ U.heap = h0) (fun _ _ _ _ _ => True) (fun _ U o U' => ∃ v L, o = .returned v ∧ Q12_ok1 Z vr0 vr1 B w_at u_end P EN TG u_shapeReader w_ps kE pn kP vP kB vB kT en0 en1 en2 tg0 tg1 h0 n0 v U'.heap L ∧ FrameEnd U o U' L ({ frames := 3, cells := 1, slots := 4096, locals := 47 } : Room).cells ({ frames := 3, cells := 1, slots := 4096, locals := 47 } : Room).slots) := by
  refine MetFree.of_bodySF (plainFor_of_name pn_com_example_careful_ledger_carefulledger_json_PlainLine) hisR ?_
  intro p e s m args below meth c s₁ Bd hml0 hP hK
  obtain ⟨rfl, hZ, hh⟩ := hP
  have hx := Bd.exec
  have hby := Bd.bytes
  have hml : c.maxLocals = 2 := hml0
  have hown : s.vm.findClass "com/example/careful_ledger/carefulledger/json/PlainLine" = some m.cls := findClass_of_methodNamed Bd.named
  have hnm := (name_of_methodNamed Bd.named Bd.method).1
  have X0 : Stand p l e ({ frames := 3, cells := 1, slots := 4096, locals := 47 } : Room) s m #[(.ref vr0), (.ref vr1)] below meth c s₁ [] 0 0 := Stand.of_body Bd
  have e0 : s₁.heap = h0 := by rw [← hh, Bd.state]; rfl
  have N0 := Fr.nil n0
  have pre0 : ∀ t, Steps p.tables e below (s₁.setTop (mkF m 0 #[.val (.ref vr0), .val (.ref vr1)] [])) t → Steps p.tables e below (s₁.setTop (entryFrame m #[(.ref vr0), (.ref vr1)] 2)) t := fun t k => castTop (ef_12_ok1 m vr0 vr1) k
  obtain ⟨cq1, q1, q1'⟩ := E_vr0.cell
  have sp1 := own_selp (mvT hZ (wd_32 hw) (args := #[])) (Cond.privateMethod_at (mvP hZ (wd_96 hw) (args := #[]))) (mvT hZ (wd_95 hw) (args := #[(.ref vr0), (.ref vr1)])) (by decide)
  obtain ⟨_, _, ⟨T1, L1, k1, n1⟩, -, X1, ⟨Lc1, hQ1, l1, y1, z1⟩, st1⟩ := X0.privateBack hx (y := (⟨"com/example/careful_ledger/carefulledger/json/PlainLine", "endPart", "()V"⟩ : MethodName)) hown (mvT hZ (wd_94 hw)) (mvT hZ (wd_95 hw)) sp1 (Cond.privateMethod_at (mvP hZ (wd_96 hw) (args := #[]))) (mvT hZ (wd_97 hw)) (by decide) (backOf (W := 0) (rmE1 l Z a0 hw [] vr0 B w_at u_end P EN TG u_shapeReader w_ps kE pn kP vP kB vB kT en0 en1 en2 tg0 tg1 h0 n0 Z0 E_vr0 F_bytes_vr0 F_at_vr0 F_end_vr0 F_parts_vr0 F_partEnds_vr0 F_tags_vr0 F_shapeReader_vr0 F_values_vr0 F_learning_vr0 F_partStart_vr0 V_EN V_P V_B V_TG hvP hp1 hp2 g_vr0 g_P g_EN g_TG ne_P_vr0 ne_EN_vr0 ne_TG_vr0 ne_B_vr0 ne_P_EN ne_P_TG ne_P_B ne_EN_TG ne_EN_B ne_TG_B OvT lq1 lq2 lq3 lq4 lq5 lq6 hc54) hZ (wd_97 hw) (wd_33 hw) (by decide) (by decide)) (g := (mkF m 1 #[.val (.ref vr0), .val (.ref vr1)] [(.ref vr0)])) rfl (by rw [hml]; rfl) (Steps.refl _) (a := vr0) (by rw [e0]; exact q1) q1' (argsL := []) (rest := []) (lenOf pd_2 rfl) rfl (by show 2 * 0 + _ ≤ _; exact Nat.le_of_eq rfl) (hb hby d12_1) (fun _ _ => ⟨rfl, e0, (by decide : 0 + 1 ≤ _), (by decide : 0 + 4096 ≤ _)⟩)
  dsimp only [Pt.U, Pt.locs, Pt.cells, Pt.slots] at X1 l1 y1 z1 st1 hQ1
  subst l1 y1 z1
  obtain ⟨p21, k21, n21, v21, rfl, N1q, p1_0, p1_1, p1_2, p1_3, p1_4, p1_5, p1_6, p1_7, p1_8, p1_9, p1_10, p1_11, p1_12, p1_13, p1_14, p1_15, p1_16, p1_17, p1_18, p1_19, p1_20, p1_21⟩ := hQ1
  have N1 := Fr.app N0 N1q
  have K1 : Keep h0 T1.heap [vr0, P, EN] := (Keep.refl h0 [vr0, P, EN]).trans p1_0 (allS (Or.inl (List.mem_of_getElem? (i := 0) rfl)) (allS (Or.inl (List.mem_of_getElem? (i := 1) rfl)) (allS (Or.inl (List.mem_of_getElem? (i := 2) rfl)) all0)))
  obtain ⟨T2, X2, e2, st2⟩ := getF X1 hx hZ hown (host := "") (Or.inl (wd_80 hw)) Via.refl rfl p1_9 (g := (mkF m 6 #[.val (.ref vr0), .val (.ref vr1)] [(.ref vr0), (.ref vr0)])) rfl rfl (hb hby d12_6)
  obtain ⟨T3, h3, X3, e3, W3, st3⟩ := putF X2 hx hZ hown (host := "") (Or.inl (wd_76 hw)) Via.refl e2 p1_7 (E_vr0.keep p1_0) (Or.inl (wd_77 hw)) (wd_32 hw) (ty := (.object "java/lang/Object")) (by decide) rfl rfl (g := (mkF m 17 #[.val (.ref vr0), .val (.ref vr1)] [(.ref vr1), (.ref vr0)])) rfl rfl (hb hby d12_17)
  have Fw3 := p1_7.same W3
  have N3 := Fr.snoc X3 N1 g_vr0
  have K3 : Keep h0 h3 [vr0, P, EN] := K1.wr W3 (Or.inl (List.mem_of_getElem? (i := 0) rfl))
  obtain ⟨fs, hr, hrun, hended, hW, hsame⟩ := X3.leave (v := none) (fun _ => rfl)
  refine ⟨_, _, pre0 _ ?_, hrun, hended, _, _, rfl, ?_, ⟨_, rfl⟩, hW, hsame.mono (by decide) (by decide)⟩
  · show Steps p.tables e below (s₁.setTop (mkF m 0 #[.val (.ref vr0), .val (.ref vr1)] [])) _
    refine XS.aloadN X0.here hx rfl (hb hby d12_0) rfl rfl ?_
    show Steps p.tables e below (s₁.setTop (mkF m 1 #[.val (.ref vr0), .val (.ref vr1)] [(.ref vr0)])) _
    refine st1.trans ?_
    refine XS.aloadN X1.here hx rfl (hb hby d12_4) rfl rfl ?_
    refine XS.aloadN X1.here hx rfl (hb hby d12_5) rfl rfl ?_
    show Steps p.tables e below (T1.setTop (mkF m 6 #[.val (.ref vr0), .val (.ref vr1)] [(.ref vr0), (.ref vr0)])) _
    refine st2 _ ?_
    show Steps p.tables e below (T2.setTop (mkF m 9 #[.val (.ref vr0), .val (.ref vr1)] [(.int (1 : Int32)), (.ref vr0)])) _
    refine XS.ifNo X2.here hx rfl (hb hby d12_9) rfl ((if0 _ _).trans (feq (by decide : ¬ ((1 : Int32) = (0 : Int32)))).1) ?_
    refine XS.aloadN X2.here hx rfl (hb hby d12_12) rfl rfl ?_
    refine XS.goto X2.here hx rfl (pc0 := 13) (pc' := 17) rfl (hb hby d12_13) (by decide) (by decide) ?_
    show Steps p.tables e below (T2.setTop (mkF m 17 #[.val (.ref vr0), .val (.ref vr1)] [(.ref vr1), (.ref vr0)])) _
    refine st3 _ ?_
    exact X3.returnOut hx Bd.returns (hb hby d12_20) hr
  · show Q12_ok1 Z vr0 vr1 B w_at u_end P EN TG u_shapeReader w_ps kE pn kP vP kB vB kT en0 en1 en2 tg0 tg1 h0 n0 _ T3.heap _
    rw [e3]
    exact ⟨p21, rfl, N3, K3, (p1_1.other W3 (Or.inr (sl_76 hw))), (p1_2.other W3 (Or.inr (sl_70 hw))), (p1_3.other W3 (Or.inr (sl_81 hw))), (p1_4.other W3 (Or.inr (sl_85 hw))), (p1_5.other W3 (Or.inr (sl_89 hw))), (p1_6.other W3 (Or.inr (sl_93 hw))), Fw3, (p1_8.other W3 (Or.inr (sl_67 hw))), (p1_9.other W3 (Or.inr (sl_68 hw))), (p1_10.other W3 (Or.inr (sl_73 hw)))⟩
theorem ef_12_ov1 (m : MethodId) (x0 : Addr) (x1 : Addr) : entryFrame m #[(.ref x0), (.ref x1)] 2 = mkF m 0 #[.val (.ref x0), .val (.ref x1)] [] := by first | (simp [entryFrame, mkF, argsToLocals, Value.category]; done) | rfl
def Q12_ov1 (Z : State) (vr0 : Addr) (vr1 : Addr) (B : Addr) (w_at : Int32) (u_end : Value) (P : Addr) (EN : Addr) (TG : Addr) (u_shapeReader : Value) (w_ps : Int32) (kE : ClassId) (pn : Int32) (kP : ClassId) (vP : List Value) (kB : ClassId) (vB : List Value) (kT : ClassId) (en0 : Int32) (en1 : Int32) (en2 : Int32) (tg0 : Value) (tg1 : Value) (h0 : Heap) (n0 : Nat) (v : Option Value) (h : Heap) (L : List Loc) : Prop := v = none ∧ Fr n0 L ∧ Keep h0 h [vr0] ∧ Fld Z h vr0 "com/example/careful_ledger/carefulledger/json/PlainLine" "bytes" "[B" (.ref B) ∧ Fld Z h vr0 "com/example/careful_ledger/carefulledger/json/PlainLine" "at" "I" (.int w_at) ∧ Fld Z h vr0 "com/example/careful_ledger/carefulledger/json/PlainLine" "end" "I" u_end ∧ Fld Z h vr0 "com/example/careful_ledger/carefulledger/json/PlainLine" "parts" "[B" (.ref P) ∧ Fld Z h vr0 "com/example/careful_ledger/carefulledger/json/PlainLine" "partEnds" "[I" (.ref EN) ∧ Fld Z h vr0 "com/example/careful_ledger/carefulledger/json/PlainLine" "tags" "[Ljava/lang/Object;" (.ref TG) ∧ Fld Z h vr0 "com/example/careful_ledger/carefulledger/json/PlainLine" "shapeReader" "Ljava/lang/Object;" .null ∧ Fld Z h vr0 "com/example/careful_ledger/carefulledger/json/PlainLine" "values" "I" (.int (1 : Int32)) ∧ Fld Z h vr0 "com/example/careful_ledger/carefulledger/json/PlainLine" "learning" "Z" (.int (0 : Int32)) ∧ Fld Z h vr0 "com/example/careful_ledger/carefulledger/json/PlainLine" "partStart" "I" (.int w_ps)
set_option maxRecDepth 65536 in
set_option maxHeartbeats 40000000 in
theorem rm12_ov1 (l : Launch) (Z : State) (a0 : Array Value) (hw : ∀ d ∈ tables_1, d.before a0 Z = true) (ws : List Jvm.Cond) (vr0 : Addr) (vr1 : Addr) (B : Addr) (w_at : Int32) (u_end : Value) (P : Addr) (EN : Addr) (TG : Addr) (u_shapeReader : Value) (w_ps : Int32) (kE : ClassId) (pn : Int32) (kP : ClassId) (vP : List Value) (kB : ClassId) (vB : List Value) (kT : ClassId) (en0 : Int32) (en1 : Int32) (en2 : Int32) (tg0 : Value) (tg1 : Value) (h0 : Heap) (n0 : Nat) (Z0 : n0 ≤ h0.size) (E_vr0 : Exa Z h0 vr0 "com/example/careful_ledger/carefulledger/json/PlainLine") (F_bytes_vr0 : Fld Z h0 vr0 "com/example/careful_ledger/carefulledger/json/PlainLine" "bytes" "[B" (.ref B)) (F_at_vr0 : Fld Z h0 vr0 "com/example/careful_ledger/carefulledger/json/PlainLine" "at" "I" (.int w_at)) (F_end_vr0 : Fld Z h0 vr0 "com/example/careful_ledger/carefulledger/json/PlainLine" "end" "I" u_end) (F_parts_vr0 : Fld Z h0 vr0 "com/example/careful_ledger/carefulledger/json/PlainLine" "parts" "[B" (.ref P)) (F_partEnds_vr0 : Fld Z h0 vr0 "com/example/careful_ledger/carefulledger/json/PlainLine" "partEnds" "[I" (.ref EN)) (F_tags_vr0 : Fld Z h0 vr0 "com/example/careful_ledger/carefulledger/json/PlainLine" "tags" "[Ljava/lang/Object;" (.ref TG)) (F_shapeReader_vr0 : Fld Z h0 vr0 "com/example/careful_ledger/carefulledger/json/PlainLine" "shapeReader" "Ljava/lang/Object;" u_shapeReader) (F_values_vr0 : Fld Z h0 vr0 "com/example/careful_ledger/carefulledger/json/PlainLine" "values" "I" (.int (1 : Int32))) (F_learning_vr0 : Fld Z h0 vr0 "com/example/careful_ledger/carefulledger/json/PlainLine" "learning" "Z" (.int (1 : Int32))) (F_partStart_vr0 : Fld Z h0 vr0 "com/example/careful_ledger/carefulledger/json/PlainLine" "partStart" "I" (.int w_ps)) (V_EN : Arv Z h0 EN kE .int (16 : Int32) [(.int en0), (.int en1), (.int en2)] (.int (0 : Int32))) (V_P : Arv Z h0 P kP .byte pn vP (.int (0 : Int32))) (V_B : Arv Z h0 B kB .byte (6144 : Int32) vB (.int (0 : Int32))) (V_TG : Arv Z h0 TG kT (.object "java/lang/Object") (16 : Int32) [tg0, tg1] .null) (hvP : vP.length = pn.toNatClampNeg) (hp1 : ¬ pn < (64 : Int32)) (hp2 : ¬ (4096 : Int32) < pn) (g_vr0 : n0 ≤ vr0) (g_P : n0 ≤ P) (g_EN : n0 ≤ EN) (g_TG : n0 ≤ TG) (ne_P_vr0 : P ≠ vr0) (ne_EN_vr0 : EN ≠ vr0) (ne_TG_vr0 : TG ≠ vr0) (ne_B_vr0 : B ≠ vr0) (ne_P_EN : P ≠ EN) (ne_P_TG : P ≠ TG) (ne_P_B : P ≠ B) (ne_EN_TG : EN ≠ TG) (ne_EN_B : EN ≠ B) (ne_TG_B : TG ≠ B) (OvT : Ovr Z kT "java/lang/Object") (hc54 : (4096 : Int32) < (en0 + (w_at - w_ps))) :
    MetFree l (⟨"com/example/careful_ledger/carefulledger/json/PlainLine", "endShape", "(Ljava/lang/Object;)V"⟩ : MethodName) (head1 (Jvm.Cond.code (⟨"com/example/careful_ledger/carefulledger/json/PlainLine", "endShape", "(Ljava/lang/Object;)V"⟩ : MethodName) prog_58_method_8_code 2 none :: ws) ({ frames := 1, cells := 0, slots := 0, locals := 14 } : Room)) (fun a U => a = #[(.ref vr0), (.ref vr1)] ∧ Z.Warmed39 U.vm ∧ U.heap = h0) (fun _ _ _ _ _ => True) (fun _ U o U' => ∃ v L, o = .returned v ∧ Q12_ov1 Z vr0 vr1 B w_at u_end P EN TG u_shapeReader w_ps kE pn kP vP kB vB kT en0 en1 en2 tg0 tg1 h0 n0 v U'.heap L ∧ FrameEnd U o U' L ({ frames := 1, cells := 0, slots := 0, locals := 14 } : Room).cells ({ frames := 1, cells := 0, slots := 0, locals := 14 } : Room).slots) := by
  refine MetFree.of_bodySF (plainFor_of_name pn_com_example_careful_ledger_carefulledger_json_PlainLine) hisR ?_
  intro p e s m args below meth c s₁ Bd hml0 hP hK
  obtain ⟨rfl, hZ, hh⟩ := hP
  have hx := Bd.exec
  have hby := Bd.bytes
  have hml : c.maxLocals = 2 := hml0
  have hown : s.vm.findClass "com/example/careful_ledger/carefulledger/json/PlainLine" = some m.cls := findClass_of_methodNamed Bd.named
  have hnm := (name_of_methodNamed Bd.named Bd.method).1
  have X0 : Stand p l e ({ frames := 1, cells := 0, slots := 0, locals := 14 } : Room) s m #[(.ref vr0), (.ref vr1)] below meth c s₁ [] 0 0 := Stand.of_body Bd
  have e0 : s₁.heap = h0 := by rw [← hh, Bd.state]; rfl
  have N0 := Fr.nil n0
  have pre0 : ∀ t, Steps p.tables e below (s₁.setTop (mkF m 0 #[.val (.ref vr0), .val (.ref vr1)] [])) t → Steps p.tables e below (s₁.setTop (entryFrame m #[(.ref vr0), (.ref vr1)] 2)) t := fun t k => castTop (ef_12_ov1 m vr0 vr1) k
  obtain ⟨cq1, q1, q1'⟩ := E_vr0.cell
  have sp1 := own_selp (mvT hZ (wd_32 hw) (args := #[])) (Cond.privateMethod_at (mvP hZ (wd_96 hw) (args := #[]))) (mvT hZ (wd_95 hw) (args := #[(.ref vr0), (.ref vr1)])) (by decide)
  obtain ⟨_, _, ⟨T1, L1, k1, n1⟩, -, X1, ⟨Lc1, hQ1, l1, y1, z1⟩, st1⟩ := X0.privateBack hx (y := (⟨"com/example/careful_ledger/carefulledger/json/PlainLine", "endPart", "()V"⟩ : MethodName)) hown (mvT hZ (wd_94 hw)) (mvT hZ (wd_95 hw)) sp1 (Cond.privateMethod_at (mvP hZ (wd_96 hw) (args := #[]))) (mvT hZ (wd_97 hw)) (by decide) (backOf (W := 0) (rm13_ov1 l Z a0 hw [] vr0 B w_at u_end P EN TG u_shapeReader w_ps kE pn kP vP kB vB kT en0 en1 en2 tg0 tg1 h0 n0 Z0 E_vr0 F_bytes_vr0 F_at_vr0 F_end_vr0 F_parts_vr0 F_partEnds_vr0 F_tags_vr0 F_shapeReader_vr0 F_values_vr0 F_learning_vr0 F_partStart_vr0 V_EN V_P V_B V_TG hvP hp1 hp2 g_vr0 g_P g_EN g_TG ne_P_vr0 ne_EN_vr0 ne_TG_vr0 ne_B_vr0 ne_P_EN ne_P_TG ne_P_B ne_EN_TG ne_EN_B ne_TG_B OvT hc54) hZ (wd_97 hw) (wd_33 hw) (by decide) (by decide)) (g := (mkF m 1 #[.val (.ref vr0), .val (.ref vr1)] [(.ref vr0)])) rfl (by rw [hml]; rfl) (Steps.refl _) (a := vr0) (by rw [e0]; exact q1) q1' (argsL := []) (rest := []) (lenOf pd_2 rfl) rfl (by show 2 * 0 + _ ≤ _; exact Nat.le_of_eq rfl) (hb hby d12_1) (fun _ _ => ⟨rfl, e0, (by decide : 0 + 0 ≤ _), (by decide : 0 + 0 ≤ _)⟩)
  dsimp only [Pt.U, Pt.locs, Pt.cells, Pt.slots] at X1 l1 y1 z1 st1 hQ1
  subst l1 y1 z1
  obtain ⟨rfl, N1q, p1_0, p1_1, p1_2, p1_3, p1_4, p1_5, p1_6, p1_7, p1_8, p1_9, p1_10⟩ := hQ1
  have N1 := Fr.app N0 N1q
  have K1 : Keep h0 T1.heap [vr0] := (Keep.refl h0 [vr0]).trans p1_0 (allS (Or.inl (List.mem_of_getElem? (i := 0) rfl)) all0)
  obtain ⟨T2, X2, e2, st2⟩ := getF X1 hx hZ hown (host := "") (Or.inl (wd_80 hw)) Via.refl rfl p1_9 (g := (mkF m 6 #[.val (.ref vr0), .val (.ref vr1)] [(.ref vr0), (.ref vr0)])) rfl rfl (hb hby d12_6)
  obtain ⟨T3, h3, X3, e3, W3, st3⟩ := putF X2 hx hZ hown (host := "") (Or.inl (wd_76 hw)) Via.refl e2 p1_7 (E_vr0.keep p1_0) (Or.inl (wd_77 hw)) (wd_32 hw) (ty := (.object "java/lang/Object")) (by decide) rfl rfl (g := (mkF m 17 #[.val (.ref vr0), .val (.ref vr1)] [.null, (.ref vr0)])) rfl rfl (hb hby d12_17)
  have Fw3 := p1_7.same W3
  have N3 := Fr.snoc X3 N1 g_vr0
  have K3 : Keep h0 h3 [vr0] := K1.wr W3 (Or.inl (List.mem_of_getElem? (i := 0) rfl))
  obtain ⟨fs, hr, hrun, hended, hW, hsame⟩ := X3.leave (v := none) (fun _ => rfl)
  refine ⟨_, _, pre0 _ ?_, hrun, hended, _, _, rfl, ?_, ⟨_, rfl⟩, hW, hsame.mono (by decide) (by decide)⟩
  · show Steps p.tables e below (s₁.setTop (mkF m 0 #[.val (.ref vr0), .val (.ref vr1)] [])) _
    refine XS.aloadN X0.here hx rfl (hb hby d12_0) rfl rfl ?_
    show Steps p.tables e below (s₁.setTop (mkF m 1 #[.val (.ref vr0), .val (.ref vr1)] [(.ref vr0)])) _
    refine st1.trans ?_
    refine XS.aloadN X1.here hx rfl (hb hby d12_4) rfl rfl ?_
    refine XS.aloadN X1.here hx rfl (hb hby d12_5) rfl rfl ?_
    show Steps p.tables e below (T1.setTop (mkF m 6 #[.val (.ref vr0), .val (.ref vr1)] [(.ref vr0), (.ref vr0)])) _
    refine st2 _ ?_
    show Steps p.tables e below (T2.setTop (mkF m 9 #[.val (.ref vr0), .val (.ref vr1)] [(.int (0 : Int32)), (.ref vr0)])) _
    refine XS.ifYes X2.here hx rfl (pc0 := 9) (pc' := 16) rfl (hb hby d12_9) rfl ((if0 _ _).trans (teq (rfl : (0 : Int32) = (0 : Int32))).1) (by decide) (by decide) ?_
    refine XS.aconstNull X2.here hx rfl (hb hby d12_16) ?_
    show Steps p.tables e below (T2.setTop (mkF m 17 #[.val (.ref vr0), .val (.ref vr1)] [.null, (.ref vr0)])) _
    refine st3 _ ?_
    show Steps p.tables e below (T3.setTop (mkF m 20 #[.val (.ref vr0), .val (.ref vr1)] [])) _
    exact X3.returnOut hx Bd.returns (hb hby d12_20) hr
  · show Q12_ov1 Z vr0 vr1 B w_at u_end P EN TG u_shapeReader w_ps kE pn kP vP kB vB kT en0 en1 en2 tg0 tg1 h0 n0 _ T3.heap _
    rw [e3]
    exact ⟨rfl, N3, K3, (p1_1.other W3 (Or.inr (sl_76 hw))), (p1_2.other W3 (Or.inr (sl_70 hw))), (p1_3.other W3 (Or.inr (sl_81 hw))), (p1_4.other W3 (Or.inr (sl_85 hw))), (p1_5.other W3 (Or.inr (sl_89 hw))), (p1_6.other W3 (Or.inr (sl_93 hw))), Fw3, (p1_8.other W3 (Or.inr (sl_67 hw))), (p1_9.other W3 (Or.inr (sl_68 hw))), (p1_10.other W3 (Or.inr (sl_73 hw)))⟩
theorem ef_12_ok2 (m : MethodId) (x0 : Addr) (x1 : Addr) : entryFrame m #[(.ref x0), (.ref x1)] 2 = mkF m 0 #[.val (.ref x0), .val (.ref x1)] [] := by first | (simp [entryFrame, mkF, argsToLocals, Value.category]; done) | rfl
def Q12_ok2 (Z : State) (vr0 : Addr) (vr1 : Addr) (B : Addr) (w_at : Int32) (u_end : Value) (P : Addr) (EN : Addr) (TG : Addr) (u_shapeReader : Value) (w_ps : Int32) (kE : ClassId) (pn : Int32) (kP : ClassId) (vP : List Value) (kB : ClassId) (vB : List Value) (kT : ClassId) (en0 : Int32) (en1 : Int32) (en2 : Int32) (tg0 : Value) (tg1 : Value) (h0 : Heap) (n0 : Nat) (v : Option Value) (h : Heap) (L : List Loc) : Prop := ∃ p2 : Addr, v = none ∧ Fr n0 L ∧ Keep h0 h [vr0, P, EN] ∧ Fld Z h vr0 "com/example/careful_ledger/carefulledger/json/PlainLine" "bytes" "[B" (.ref B) ∧ Fld Z h vr0 "com/example/careful_ledger/carefulledger/json/PlainLine" "at" "I" (.int w_at) ∧ Fld Z h vr0 "com/example/careful_ledger/carefulledger/json/PlainLine" "end" "I" u_end ∧ Fld Z h vr0 "com/example/careful_ledger/carefulledger/json/PlainLine" "parts" "[B" (.ref p2) ∧ Fld Z h vr0 "com/example/careful_ledger/carefulledger/json/PlainLine" "partEnds" "[I" (.ref EN) ∧ Fld Z h vr0 "com/example/careful_ledger/carefulledger/json/PlainLine" "tags" "[Ljava/lang/Object;" (.ref TG) ∧ Fld Z h vr0 "com/example/careful_ledger/carefulledger/json/PlainLine" "shapeReader" "Ljava/lang/Object;" (.ref vr1) ∧ Fld Z h vr0 "com/example/careful_ledger/carefulledger/json/PlainLine" "values" "I" (.int (2 : Int32)) ∧ Fld Z h vr0 "com/example/careful_ledger/carefulledger/json/PlainLine" "learning" "Z" (.int (1 : Int32)) ∧ Fld Z h vr0 "com/example/careful_ledger/carefulledger/json/PlainLine" "partStart" "I" (.int w_ps)
set_option maxRecDepth 65536 in
set_option maxHeartbeats 40000000 in
theorem rm12_ok2 (l : Launch) (Z : State) (a0 : Array Value) (hw : ∀ d ∈ tables_1, d.before a0 Z = true) (ws : List Jvm.Cond) (vr0 : Addr) (vr1 : Addr) (B : Addr) (w_at : Int32) (u_end : Value) (P : Addr) (EN : Addr) (TG : Addr) (u_shapeReader : Value) (w_ps : Int32) (kE : ClassId) (pn : Int32) (kP : ClassId) (vP : List Value) (kB : ClassId) (vB : List Value) (kT : ClassId) (en0 : Int32) (en1 : Int32) (en2 : Int32) (tg0 : Value) (tg1 : Value) (h0 : Heap) (n0 : Nat) (Z0 : n0 ≤ h0.size) (E_vr0 : Exa Z h0 vr0 "com/example/careful_ledger/carefulledger/json/PlainLine") (F_bytes_vr0 : Fld Z h0 vr0 "com/example/careful_ledger/carefulledger/json/PlainLine" "bytes" "[B" (.ref B)) (F_at_vr0 : Fld Z h0 vr0 "com/example/careful_ledger/carefulledger/json/PlainLine" "at" "I" (.int w_at)) (F_end_vr0 : Fld Z h0 vr0 "com/example/careful_ledger/carefulledger/json/PlainLine" "end" "I" u_end) (F_parts_vr0 : Fld Z h0 vr0 "com/example/careful_ledger/carefulledger/json/PlainLine" "parts" "[B" (.ref P)) (F_partEnds_vr0 : Fld Z h0 vr0 "com/example/careful_ledger/carefulledger/json/PlainLine" "partEnds" "[I" (.ref EN)) (F_tags_vr0 : Fld Z h0 vr0 "com/example/careful_ledger/carefulledger/json/PlainLine" "tags" "[Ljava/lang/Object;" (.ref TG)) (F_shapeReader_vr0 : Fld Z h0 vr0 "com/example/careful_ledger/carefulledger/json/PlainLine" "shapeReader" "Ljava/lang/Object;" u_shapeReader) (F_values_vr0 : Fld Z h0 vr0 "com/example/careful_ledger/carefulledger/json/PlainLine" "values" "I" (.int (2 : Int32))) (F_learning_vr0 : Fld Z h0 vr0 "com/example/careful_ledger/carefulledger/json/PlainLine" "learning" "Z" (.int (1 : Int32))) (F_partStart_vr0 : Fld Z h0 vr0 "com/example/careful_ledger/carefulledger/json/PlainLine" "partStart" "I" (.int w_ps)) (V_EN : Arv Z h0 EN kE .int (16 : Int32) [(.int en0), (.int en1), (.int en2)] (.int (0 : Int32))) (V_P : Arv Z h0 P kP .byte pn vP (.int (0 : Int32))) (V_B : Arv Z h0 B kB .byte (6144 : Int32) vB (.int (0 : Int32))) (V_TG : Arv Z h0 TG kT (.object "java/lang/Object") (16 : Int32) [tg0, tg1] .null) (hvP : vP.length = pn.toNatClampNeg) (hp1 : ¬ pn < (64 : Int32)) (hp2 : ¬ (4096 : Int32) < pn) (g_vr0 : n0 ≤ vr0) (g_P : n0 ≤ P) (g_EN : n0 ≤ EN) (g_TG : n0 ≤ TG) (ne_P_vr0 : P ≠ vr0) (ne_EN_vr0 : EN ≠ vr0) (ne_TG_vr0 : TG ≠ vr0) (ne_B_vr0 : B ≠ vr0) (ne_P_EN : P ≠ EN) (ne_P_TG : P ≠ TG) (ne_P_B : P ≠ B) (ne_EN_TG : EN ≠ TG) (ne_EN_B : EN ≠ B) (ne_TG_B : TG ≠ B) (OvT : Ovr Z kT "java/lang/Object") (lq1 : ¬ w_ps < 0) (lq2 : ¬ en1 < 0) (lq3 : ¬ (w_at - w_ps) < 0) (lq4 : w_ps.toNatClampNeg + (w_at - w_ps).toNatClampNeg ≤ (6144 : Int32).toNatClampNeg) (lq5 : en1.toNatClampNeg + (w_at - w_ps).toNatClampNeg ≤ (en1 + (w_at - w_ps)).toNatClampNeg) (lq6 : ¬ (en1 + (w_at - w_ps)) < 0) (hc54 : ¬ ((4096 : Int32) < (en1 + (w_at - w_ps)))) :
    MetFree l (⟨"com/example/careful_ledger/carefulledger/json/PlainLine", "endShape", "(Ljava/lang/Object;)V"⟩ : MethodName) (head1 (Jvm.Cond.code (⟨"com/example/careful_ledger/carefulledger/json/PlainLine", "endShape", "(Ljava/lang/Object;)V"⟩ : MethodName) prog_58_method_8_code 2 none :: ws) ({ frames := 3, cells := 1, slots := 4096, locals := 47 } : Room)) (fun a U => a = #[(.ref vr0), (.ref vr1)] ∧ Z.Warmed39 U.vm ∧ U.heap = h0) (fun _ _ _ _ _ => True) (fun _ U o U' => ∃ v L, o = .returned v ∧ Q12_ok2 Z vr0 vr1 B w_at u_end P EN TG u_shapeReader w_ps kE pn kP vP kB vB kT en0 en1 en2 tg0 tg1 h0 n0 v U'.heap L ∧ FrameEnd U o U' L ({ frames := 3, cells := 1, slots := 4096, locals := 47 } : Room).cells ({ frames := 3, cells := 1, slots := 4096, locals := 47 } : Room).slots) := by
  refine MetFree.of_bodySF (plainFor_of_name pn_com_example_careful_ledger_carefulledger_json_PlainLine) hisR ?_
  intro p e s m args below meth c s₁ Bd hml0 hP hK
  obtain ⟨rfl, hZ, hh⟩ := hP
  have hx := Bd.exec
  have hby := Bd.bytes
  have hml : c.maxLocals = 2 := hml0
  have hown : s.vm.findClass "com/example/careful_ledger/carefulledger/json/PlainLine" = some m.cls := findClass_of_methodNamed Bd.named
  have hnm := (name_of_methodNamed Bd.named Bd.method).1
  have X0 : Stand p l e ({ frames := 3, cells := 1, slots := 4096, locals := 47 } : Room) s m #[(.ref vr0), (.ref vr1)] below meth c s₁ [] 0 0 := Stand.of_body Bd
  have e0 : s₁.heap = h0 := by rw [← hh, Bd.state]; rfl
  have N0 := Fr.nil n0
  have pre0 : ∀ t, Steps p.tables e below (s₁.setTop (mkF m 0 #[.val (.ref vr0), .val (.ref vr1)] [])) t → Steps p.tables e below (s₁.setTop (entryFrame m #[(.ref vr0), (.ref vr1)] 2)) t := fun t k => castTop (ef_12_ok2 m vr0 vr1) k
  obtain ⟨cq1, q1, q1'⟩ := E_vr0.cell
  have sp1 := own_selp (mvT hZ (wd_32 hw) (args := #[])) (Cond.privateMethod_at (mvP hZ (wd_96 hw) (args := #[]))) (mvT hZ (wd_95 hw) (args := #[(.ref vr0), (.ref vr1)])) (by decide)
  obtain ⟨_, _, ⟨T1, L1, k1, n1⟩, -, X1, ⟨Lc1, hQ1, l1, y1, z1⟩, st1⟩ := X0.privateBack hx (y := (⟨"com/example/careful_ledger/carefulledger/json/PlainLine", "endPart", "()V"⟩ : MethodName)) hown (mvT hZ (wd_94 hw)) (mvT hZ (wd_95 hw)) sp1 (Cond.privateMethod_at (mvP hZ (wd_96 hw) (args := #[]))) (mvT hZ (wd_97 hw)) (by decide) (backOf (W := 0) (rmE2 l Z a0 hw [] vr0 B w_at u_end P EN TG u_shapeReader w_ps kE pn kP vP kB vB kT en0 en1 en2 tg0 tg1 h0 n0 Z0 E_vr0 F_bytes_vr0 F_at_vr0 F_end_vr0 F_parts_vr0 F_partEnds_vr0 F_tags_vr0 F_shapeReader_vr0 F_values_vr0 F_learning_vr0 F_partStart_vr0 V_EN V_P V_B V_TG hvP hp1 hp2 g_vr0 g_P g_EN g_TG ne_P_vr0 ne_EN_vr0 ne_TG_vr0 ne_B_vr0 ne_P_EN ne_P_TG ne_P_B ne_EN_TG ne_EN_B ne_TG_B OvT lq1 lq2 lq3 lq4 lq5 lq6 hc54) hZ (wd_97 hw) (wd_33 hw) (by decide) (by decide)) (g := (mkF m 1 #[.val (.ref vr0), .val (.ref vr1)] [(.ref vr0)])) rfl (by rw [hml]; rfl) (Steps.refl _) (a := vr0) (by rw [e0]; exact q1) q1' (argsL := []) (rest := []) (lenOf pd_2 rfl) rfl (by show 2 * 0 + _ ≤ _; exact Nat.le_of_eq rfl) (hb hby d12_1) (fun _ _ => ⟨rfl, e0, (by decide : 0 + 1 ≤ _), (by decide : 0 + 4096 ≤ _)⟩)
  dsimp only [Pt.U, Pt.locs, Pt.cells, Pt.slots] at X1 l1 y1 z1 st1 hQ1
  subst l1 y1 z1
  obtain ⟨p21, k21, n21, v21, rfl, N1q, p1_0, p1_1, p1_2, p1_3, p1_4, p1_5, p1_6, p1_7, p1_8, p1_9, p1_10, p1_11, p1_12, p1_13, p1_14, p1_15, p1_16, p1_17, p1_18, p1_19, p1_20, p1_21⟩ := hQ1
  have N1 := Fr.app N0 N1q
  have K1 : Keep h0 T1.heap [vr0, P, EN] := (Keep.refl h0 [vr0, P, EN]).trans p1_0 (allS (Or.inl (List.mem_of_getElem? (i := 0) rfl)) (allS (Or.inl (List.mem_of_getElem? (i := 1) rfl)) (allS (Or.inl (List.mem_of_getElem? (i := 2) rfl)) all0)))
  obtain ⟨T2, X2, e2, st2⟩ := getF X1 hx hZ hown (host := "") (Or.inl (wd_80 hw)) Via.refl rfl p1_9 (g := (mkF m 6 #[.val (.ref vr0), .val (.ref vr1)] [(.ref vr0), (.ref vr0)])) rfl rfl (hb hby d12_6)
  obtain ⟨T3, h3, X3, e3, W3, st3⟩ := putF X2 hx hZ hown (host := "") (Or.inl (wd_76 hw)) Via.refl e2 p1_7 (E_vr0.keep p1_0) (Or.inl (wd_77 hw)) (wd_32 hw) (ty := (.object "java/lang/Object")) (by decide) rfl rfl (g := (mkF m 17 #[.val (.ref vr0), .val (.ref vr1)] [(.ref vr1), (.ref vr0)])) rfl rfl (hb hby d12_17)
  have Fw3 := p1_7.same W3
  have N3 := Fr.snoc X3 N1 g_vr0
  have K3 : Keep h0 h3 [vr0, P, EN] := K1.wr W3 (Or.inl (List.mem_of_getElem? (i := 0) rfl))
  obtain ⟨fs, hr, hrun, hended, hW, hsame⟩ := X3.leave (v := none) (fun _ => rfl)
  refine ⟨_, _, pre0 _ ?_, hrun, hended, _, _, rfl, ?_, ⟨_, rfl⟩, hW, hsame.mono (by decide) (by decide)⟩
  · show Steps p.tables e below (s₁.setTop (mkF m 0 #[.val (.ref vr0), .val (.ref vr1)] [])) _
    refine XS.aloadN X0.here hx rfl (hb hby d12_0) rfl rfl ?_
    show Steps p.tables e below (s₁.setTop (mkF m 1 #[.val (.ref vr0), .val (.ref vr1)] [(.ref vr0)])) _
    refine st1.trans ?_
    refine XS.aloadN X1.here hx rfl (hb hby d12_4) rfl rfl ?_
    refine XS.aloadN X1.here hx rfl (hb hby d12_5) rfl rfl ?_
    show Steps p.tables e below (T1.setTop (mkF m 6 #[.val (.ref vr0), .val (.ref vr1)] [(.ref vr0), (.ref vr0)])) _
    refine st2 _ ?_
    show Steps p.tables e below (T2.setTop (mkF m 9 #[.val (.ref vr0), .val (.ref vr1)] [(.int (1 : Int32)), (.ref vr0)])) _
    refine XS.ifNo X2.here hx rfl (hb hby d12_9) rfl ((if0 _ _).trans (feq (by decide : ¬ ((1 : Int32) = (0 : Int32)))).1) ?_
    refine XS.aloadN X2.here hx rfl (hb hby d12_12) rfl rfl ?_
    refine XS.goto X2.here hx rfl (pc0 := 13) (pc' := 17) rfl (hb hby d12_13) (by decide) (by decide) ?_
    show Steps p.tables e below (T2.setTop (mkF m 17 #[.val (.ref vr0), .val (.ref vr1)] [(.ref vr1), (.ref vr0)])) _
    refine st3 _ ?_
    exact X3.returnOut hx Bd.returns (hb hby d12_20) hr
  · show Q12_ok2 Z vr0 vr1 B w_at u_end P EN TG u_shapeReader w_ps kE pn kP vP kB vB kT en0 en1 en2 tg0 tg1 h0 n0 _ T3.heap _
    rw [e3]
    exact ⟨p21, rfl, N3, K3, (p1_1.other W3 (Or.inr (sl_76 hw))), (p1_2.other W3 (Or.inr (sl_70 hw))), (p1_3.other W3 (Or.inr (sl_81 hw))), (p1_4.other W3 (Or.inr (sl_85 hw))), (p1_5.other W3 (Or.inr (sl_89 hw))), (p1_6.other W3 (Or.inr (sl_93 hw))), Fw3, (p1_8.other W3 (Or.inr (sl_67 hw))), (p1_9.other W3 (Or.inr (sl_68 hw))), (p1_10.other W3 (Or.inr (sl_73 hw)))⟩
theorem ef_12_ov2 (m : MethodId) (x0 : Addr) (x1 : Addr) : entryFrame m #[(.ref x0), (.ref x1)] 2 = mkF m 0 #[.val (.ref x0), .val (.ref x1)] [] := by first | (simp [entryFrame, mkF, argsToLocals, Value.category]; done) | rfl
def Q12_ov2 (Z : State) (vr0 : Addr) (vr1 : Addr) (B : Addr) (w_at : Int32) (u_end : Value) (P : Addr) (EN : Addr) (TG : Addr) (u_shapeReader : Value) (w_ps : Int32) (kE : ClassId) (pn : Int32) (kP : ClassId) (vP : List Value) (kB : ClassId) (vB : List Value) (kT : ClassId) (en0 : Int32) (en1 : Int32) (en2 : Int32) (tg0 : Value) (tg1 : Value) (h0 : Heap) (n0 : Nat) (v : Option Value) (h : Heap) (L : List Loc) : Prop := v = none ∧ Fr n0 L ∧ Keep h0 h [vr0] ∧ Fld Z h vr0 "com/example/careful_ledger/carefulledger/json/PlainLine" "bytes" "[B" (.ref B) ∧ Fld Z h vr0 "com/example/careful_ledger/carefulledger/json/PlainLine" "at" "I" (.int w_at) ∧ Fld Z h vr0 "com/example/careful_ledger/carefulledger/json/PlainLine" "end" "I" u_end ∧ Fld Z h vr0 "com/example/careful_ledger/carefulledger/json/PlainLine" "parts" "[B" (.ref P) ∧ Fld Z h vr0 "com/example/careful_ledger/carefulledger/json/PlainLine" "partEnds" "[I" (.ref EN) ∧ Fld Z h vr0 "com/example/careful_ledger/carefulledger/json/PlainLine" "tags" "[Ljava/lang/Object;" (.ref TG) ∧ Fld Z h vr0 "com/example/careful_ledger/carefulledger/json/PlainLine" "shapeReader" "Ljava/lang/Object;" .null ∧ Fld Z h vr0 "com/example/careful_ledger/carefulledger/json/PlainLine" "values" "I" (.int (2 : Int32)) ∧ Fld Z h vr0 "com/example/careful_ledger/carefulledger/json/PlainLine" "learning" "Z" (.int (0 : Int32)) ∧ Fld Z h vr0 "com/example/careful_ledger/carefulledger/json/PlainLine" "partStart" "I" (.int w_ps)
set_option maxRecDepth 65536 in
set_option maxHeartbeats 40000000 in
theorem rm12_ov2 (l : Launch) (Z : State) (a0 : Array Value) (hw : ∀ d ∈ tables_1, d.before a0 Z = true) (ws : List Jvm.Cond) (vr0 : Addr) (vr1 : Addr) (B : Addr) (w_at : Int32) (u_end : Value) (P : Addr) (EN : Addr) (TG : Addr) (u_shapeReader : Value) (w_ps : Int32) (kE : ClassId) (pn : Int32) (kP : ClassId) (vP : List Value) (kB : ClassId) (vB : List Value) (kT : ClassId) (en0 : Int32) (en1 : Int32) (en2 : Int32) (tg0 : Value) (tg1 : Value) (h0 : Heap) (n0 : Nat) (Z0 : n0 ≤ h0.size) (E_vr0 : Exa Z h0 vr0 "com/example/careful_ledger/carefulledger/json/PlainLine") (F_bytes_vr0 : Fld Z h0 vr0 "com/example/careful_ledger/carefulledger/json/PlainLine" "bytes" "[B" (.ref B)) (F_at_vr0 : Fld Z h0 vr0 "com/example/careful_ledger/carefulledger/json/PlainLine" "at" "I" (.int w_at)) (F_end_vr0 : Fld Z h0 vr0 "com/example/careful_ledger/carefulledger/json/PlainLine" "end" "I" u_end) (F_parts_vr0 : Fld Z h0 vr0 "com/example/careful_ledger/carefulledger/json/PlainLine" "parts" "[B" (.ref P)) (F_partEnds_vr0 : Fld Z h0 vr0 "com/example/careful_ledger/carefulledger/json/PlainLine" "partEnds" "[I" (.ref EN)) (F_tags_vr0 : Fld Z h0 vr0 "com/example/careful_ledger/carefulledger/json/PlainLine" "tags" "[Ljava/lang/Object;" (.ref TG)) (F_shapeReader_vr0 : Fld Z h0 vr0 "com/example/careful_ledger/carefulledger/json/PlainLine" "shapeReader" "Ljava/lang/Object;" u_shapeReader) (F_values_vr0 : Fld Z h0 vr0 "com/example/careful_ledger/carefulledger/json/PlainLine" "values" "I" (.int (2 : Int32))) (F_learning_vr0 : Fld Z h0 vr0 "com/example/careful_ledger/carefulledger/json/PlainLine" "learning" "Z" (.int (1 : Int32))) (F_partStart_vr0 : Fld Z h0 vr0 "com/example/careful_ledger/carefulledger/json/PlainLine" "partStart" "I" (.int w_ps)) (V_EN : Arv Z h0 EN kE .int (16 : Int32) [(.int en0), (.int en1), (.int en2)] (.int (0 : Int32))) (V_P : Arv Z h0 P kP .byte pn vP (.int (0 : Int32))) (V_B : Arv Z h0 B kB .byte (6144 : Int32) vB (.int (0 : Int32))) (V_TG : Arv Z h0 TG kT (.object "java/lang/Object") (16 : Int32) [tg0, tg1] .null) (hvP : vP.length = pn.toNatClampNeg) (hp1 : ¬ pn < (64 : Int32)) (hp2 : ¬ (4096 : Int32) < pn) (g_vr0 : n0 ≤ vr0) (g_P : n0 ≤ P) (g_EN : n0 ≤ EN) (g_TG : n0 ≤ TG) (ne_P_vr0 : P ≠ vr0) (ne_EN_vr0 : EN ≠ vr0) (ne_TG_vr0 : TG ≠ vr0) (ne_B_vr0 : B ≠ vr0) (ne_P_EN : P ≠ EN) (ne_P_TG : P ≠ TG) (ne_P_B : P ≠ B) (ne_EN_TG : EN ≠ TG) (ne_EN_B : EN ≠ B) (ne_TG_B : TG ≠ B) (OvT : Ovr Z kT "java/lang/Object") (hc54 : (4096 : Int32) < (en1 + (w_at - w_ps))) :
    MetFree l (⟨"com/example/careful_ledger/carefulledger/json/PlainLine", "endShape", "(Ljava/lang/Object;)V"⟩ : MethodName) (head1 (Jvm.Cond.code (⟨"com/example/careful_ledger/carefulledger/json/PlainLine", "endShape", "(Ljava/lang/Object;)V"⟩ : MethodName) prog_58_method_8_code 2 none :: ws) ({ frames := 1, cells := 0, slots := 0, locals := 14 } : Room)) (fun a U => a = #[(.ref vr0), (.ref vr1)] ∧ Z.Warmed39 U.vm ∧ U.heap = h0) (fun _ _ _ _ _ => True) (fun _ U o U' => ∃ v L, o = .returned v ∧ Q12_ov2 Z vr0 vr1 B w_at u_end P EN TG u_shapeReader w_ps kE pn kP vP kB vB kT en0 en1 en2 tg0 tg1 h0 n0 v U'.heap L ∧ FrameEnd U o U' L ({ frames := 1, cells := 0, slots := 0, locals := 14 } : Room).cells ({ frames := 1, cells := 0, slots := 0, locals := 14 } : Room).slots) := by
  refine MetFree.of_bodySF (plainFor_of_name pn_com_example_careful_ledger_carefulledger_json_PlainLine) hisR ?_
  intro p e s m args below meth c s₁ Bd hml0 hP hK
  obtain ⟨rfl, hZ, hh⟩ := hP
  have hx := Bd.exec
  have hby := Bd.bytes
  have hml : c.maxLocals = 2 := hml0
  have hown : s.vm.findClass "com/example/careful_ledger/carefulledger/json/PlainLine" = some m.cls := findClass_of_methodNamed Bd.named
  have hnm := (name_of_methodNamed Bd.named Bd.method).1
  have X0 : Stand p l e ({ frames := 1, cells := 0, slots := 0, locals := 14 } : Room) s m #[(.ref vr0), (.ref vr1)] below meth c s₁ [] 0 0 := Stand.of_body Bd
  have e0 : s₁.heap = h0 := by rw [← hh, Bd.state]; rfl
  have N0 := Fr.nil n0
  have pre0 : ∀ t, Steps p.tables e below (s₁.setTop (mkF m 0 #[.val (.ref vr0), .val (.ref vr1)] [])) t → Steps p.tables e below (s₁.setTop (entryFrame m #[(.ref vr0), (.ref vr1)] 2)) t := fun t k => castTop (ef_12_ov2 m vr0 vr1) k
  obtain ⟨cq1, q1, q1'⟩ := E_vr0.cell
  have sp1 := own_selp (mvT hZ (wd_32 hw) (args := #[])) (Cond.privateMethod_at (mvP hZ (wd_96 hw) (args := #[]))) (mvT hZ (wd_95 hw) (args := #[(.ref vr0), (.ref vr1)])) (by decide)
  obtain ⟨_, _, ⟨T1, L1, k1, n1⟩, -, X1, ⟨Lc1, hQ1, l1, y1, z1⟩, st1⟩ := X0.privateBack hx (y := (⟨"com/example/careful_ledger/carefulledger/json/PlainLine", "endPart", "()V"⟩ : MethodName)) hown (mvT hZ (wd_94 hw)) (mvT hZ (wd_95 hw)) sp1 (Cond.privateMethod_at (mvP hZ (wd_96 hw) (args := #[]))) (mvT hZ (wd_97 hw)) (by decide) (backOf (W := 0) (rm13_ov2 l Z a0 hw [] vr0 B w_at u_end P EN TG u_shapeReader w_ps kE pn kP vP kB vB kT en0 en1 en2 tg0 tg1 h0 n0 Z0 E_vr0 F_bytes_vr0 F_at_vr0 F_end_vr0 F_parts_vr0 F_partEnds_vr0 F_tags_vr0 F_shapeReader_vr0 F_values_vr0 F_learning_vr0 F_partStart_vr0 V_EN V_P V_B V_TG hvP hp1 hp2 g_vr0 g_P g_EN g_TG ne_P_vr0 ne_EN_vr0 ne_TG_vr0 ne_B_vr0 ne_P_EN ne_P_TG ne_P_B ne_EN_TG ne_EN_B ne_TG_B OvT hc54) hZ (wd_97 hw) (wd_33 hw) (by decide) (by decide)) (g := (mkF m 1 #[.val (.ref vr0), .val (.ref vr1)] [(.ref vr0)])) rfl (by rw [hml]; rfl) (Steps.refl _) (a := vr0) (by rw [e0]; exact q1) q1' (argsL := []) (rest := []) (lenOf pd_2 rfl) rfl (by show 2 * 0 + _ ≤ _; exact Nat.le_of_eq rfl) (hb hby d12_1) (fun _ _ => ⟨rfl, e0, (by decide : 0 + 0 ≤ _), (by decide : 0 + 0 ≤ _)⟩)
  dsimp only [Pt.U, Pt.locs, Pt.cells, Pt.slots] at X1 l1 y1 z1 st1 hQ1
  subst l1 y1 z1
  obtain ⟨rfl, N1q, p1_0, p1_1, p1_2, p1_3, p1_4, p1_5, p1_6, p1_7, p1_8, p1_9, p1_10⟩ := hQ1
  have N1 := Fr.app N0 N1q
  have K1 : Keep h0 T1.heap [vr0] := (Keep.refl h0 [vr0]).trans p1_0 (allS (Or.inl (List.mem_of_getElem? (i := 0) rfl)) all0)
  obtain ⟨T2, X2, e2, st2⟩ := getF X1 hx hZ hown (host := "") (Or.inl (wd_80 hw)) Via.refl rfl p1_9 (g := (mkF m 6 #[.val (.ref vr0), .val (.ref vr1)] [(.ref vr0), (.ref vr0)])) rfl rfl (hb hby d12_6)
  obtain ⟨T3, h3, X3, e3, W3, st3⟩ := putF X2 hx hZ hown (host := "") (Or.inl (wd_76 hw)) Via.refl e2 p1_7 (E_vr0.keep p1_0) (Or.inl (wd_77 hw)) (wd_32 hw) (ty := (.object "java/lang/Object")) (by decide) rfl rfl (g := (mkF m 17 #[.val (.ref vr0), .val (.ref vr1)] [.null, (.ref vr0)])) rfl rfl (hb hby d12_17)
  have Fw3 := p1_7.same W3
  have N3 := Fr.snoc X3 N1 g_vr0
  have K3 : Keep h0 h3 [vr0] := K1.wr W3 (Or.inl (List.mem_of_getElem? (i := 0) rfl))
  obtain ⟨fs, hr, hrun, hended, hW, hsame⟩ := X3.leave (v := none) (fun _ => rfl)
  refine ⟨_, _, pre0 _ ?_, hrun, hended, _, _, rfl, ?_, ⟨_, rfl⟩, hW, hsame.mono (by decide) (by decide)⟩
  · show Steps p.tables e below (s₁.setTop (mkF m 0 #[.val (.ref vr0), .val (.ref vr1)] [])) _
    refine XS.aloadN X0.here hx rfl (hb hby d12_0) rfl rfl ?_
    show Steps p.tables e below (s₁.setTop (mkF m 1 #[.val (.ref vr0), .val (.ref vr1)] [(.ref vr0)])) _
    refine st1.trans ?_
    refine XS.aloadN X1.here hx rfl (hb hby d12_4) rfl rfl ?_
    refine XS.aloadN X1.here hx rfl (hb hby d12_5) rfl rfl ?_
    show Steps p.tables e below (T1.setTop (mkF m 6 #[.val (.ref vr0), .val (.ref vr1)] [(.ref vr0), (.ref vr0)])) _
    refine st2 _ ?_
    show Steps p.tables e below (T2.setTop (mkF m 9 #[.val (.ref vr0), .val (.ref vr1)] [(.int (0 : Int32)), (.ref vr0)])) _
    refine XS.ifYes X2.here hx rfl (pc0 := 9) (pc' := 16) rfl (hb hby d12_9) rfl ((if0 _ _).trans (teq (rfl : (0 : Int32) = (0 : Int32))).1) (by decide) (by decide) ?_
    refine XS.aconstNull X2.here hx rfl (hb hby d12_16) ?_
    show Steps p.tables e below (T2.setTop (mkF m 17 #[.val (.ref vr0), .val (.ref vr1)] [.null, (.ref vr0)])) _
    refine st3 _ ?_
    show Steps p.tables e below (T3.setTop (mkF m 20 #[.val (.ref vr0), .val (.ref vr1)] [])) _
    exact X3.returnOut hx Bd.returns (hb hby d12_20) hr
  · show Q12_ov2 Z vr0 vr1 B w_at u_end P EN TG u_shapeReader w_ps kE pn kP vP kB vB kT en0 en1 en2 tg0 tg1 h0 n0 _ T3.heap _
    rw [e3]
    exact ⟨rfl, N3, K3, (p1_1.other W3 (Or.inr (sl_76 hw))), (p1_2.other W3 (Or.inr (sl_70 hw))), (p1_3.other W3 (Or.inr (sl_81 hw))), (p1_4.other W3 (Or.inr (sl_85 hw))), (p1_5.other W3 (Or.inr (sl_89 hw))), (p1_6.other W3 (Or.inr (sl_93 hw))), Fw3, (p1_8.other W3 (Or.inr (sl_67 hw))), (p1_9.other W3 (Or.inr (sl_68 hw))), (p1_10.other W3 (Or.inr (sl_73 hw)))⟩
theorem d14_0 : decode prog_58_method_9_code 0 = .ok (.aload_n 0, 1) := by decide +kernel
theorem d14_1 : decode prog_58_method_9_code 1 = .ok (.getfield 40, 3) := by decide +kernel
theorem d14_4 : decode prog_58_method_9_code 4 = .ok (.aload_n 1, 1) := by decide +kernel
theorem d14_5 : decode prog_58_method_9_code 5 = .ok (.if_acmp .ne 10, 3) := by decide +kernel
theorem d14_8 : decode prog_58_method_9_code 8 = .ok (.aload_n 0, 1) := by decide +kernel
theorem d14_9 : decode prog_58_method_9_code 9 = .ok (.getfield 44, 3) := by decide +kernel
theorem d14_12 : decode prog_58_method_9_code 12 = .ok (.goto 4, 3) := by decide +kernel
theorem d14_16 : decode prog_58_method_9_code 16 = .ok (.ireturn, 1) := by decide +kernel
theorem ef_14_same (m : MethodId) (x0 : Addr) (x1 : Addr) : entryFrame m #[(.ref x0), (.ref x1)] 2 = mkF m 0 #[.val (.ref x0), .val (.ref x1)] [] := by first | (simp [entryFrame, mkF, argsToLocals, Value.category]; done) | rfl
def Q14_same (Z : State) (vr0 : Addr) (vr1 : Addr) (w_values_vr0 : Int32) (h0 : Heap) (n0 : Nat) (v : Option Value) (h : Heap) (L : List Loc) : Prop := v = some (.int w_values_vr0) ∧ Fr n0 L ∧ h = h0
set_option maxRecDepth 65536 in
set_option maxHeartbeats 40000000 in
theorem rm14_same (l : Launch) (Z : State) (a0 : Array Value) (hw : ∀ d ∈ tables_1, d.before a0 Z = true) (ws : List Jvm.Cond) (vr0 : Addr) (vr1 : Addr) (w_values_vr0 : Int32) (h0 : Heap) (n0 : Nat) (Z0 : n0 ≤ h0.size) (F_shapeReader_vr0 : Fld Z h0 vr0 "com/example/careful_ledger/carefulledger/json/PlainLine" "shapeReader" "Ljava/lang/Object;" (.ref vr1)) (F_values_vr0 : Fld Z h0 vr0 "com/example/careful_ledger/carefulledger/json/PlainLine" "values" "I" (.int w_values_vr0)) :
    MetFree l (⟨"com/example/careful_ledger/carefulledger/json/PlainLine", "shapeValues", "(Ljava/lang/Object;)I"⟩ : MethodName) (head1 (Jvm.Cond.code (⟨"com/example/careful_ledger/carefulledger/json/PlainLine", "shapeValues", "(Ljava/lang/Object;)I"⟩ : MethodName) prog_58_method_9_code 2 (some .int) :: ws) ({ frames := 0, cells := 0, slots := 0, locals := 0 } : Room)) (fun a U => a = #[(.ref vr0), (.ref vr1)] ∧ Z.Warmed39 U.vm ∧ U.heap = h0) (fun _ _ _ _ _ => True) (fun _ U o U' => ∃ v L, o = .returned v ∧ Q14_same Z vr0 vr1 w_values_vr0 h0 n0 v U'.heap L ∧ FrameEnd U o U' L ({ frames := 0, cells := 0, slots := 0, locals := 0 } : Room).cells ({ frames := 0, cells := 0, slots := 0, locals := 0 } : Room).slots) := by
  refine MetFree.of_bodySF (plainFor_of_name pn_com_example_careful_ledger_carefulledger_json_PlainLine) hisR ?_
  intro p e s m args below meth c s₁ Bd hml0 hP hK
  obtain ⟨rfl, hZ, hh⟩ := hP
  have hx := Bd.exec
  have hby := Bd.bytes
  have hml : c.maxLocals = 2 := hml0
  have hown : s.vm.findClass "com/example/careful_ledger/carefulledger/json/PlainLine" = some m.cls := findClass_of_methodNamed Bd.named
  have hnm := (name_of_methodNamed Bd.named Bd.method).1
  have X0 : Stand p l e ({ frames := 0, cells := 0, slots := 0, locals := 0 } : Room) s m #[(.ref vr0), (.ref vr1)] below meth c s₁ [] 0 0 := Stand.of_body Bd
  have e0 : s₁.heap = h0 := by rw [← hh, Bd.state]; rfl
  have N0 := Fr.nil n0
  have pre0 : ∀ t, Steps p.tables e below (s₁.setTop (mkF m 0 #[.val (.ref vr0), .val (.ref vr1)] [])) t → Steps p.tables e below (s₁.setTop (entryFrame m #[(.ref vr0), (.ref vr1)] 2)) t := fun t k => castTop (ef_14_same m vr0 vr1) k
  obtain ⟨T1, X1, e1, st1⟩ := getF X0 hx hZ hown (host := "") (Or.inl (wd_76 hw)) Via.refl e0 F_shapeReader_vr0 (g := (mkF m 1 #[.val (.ref vr0), .val (.ref vr1)] [(.ref vr0)])) rfl rfl (hb hby d14_1)
  obtain ⟨T2, X2, e2, st2⟩ := getF X1 hx hZ hown (host := "") (Or.inl (wd_78 hw)) Via.refl e1 F_values_vr0 (g := (mkF m 9 #[.val (.ref vr0), .val (.ref vr1)] [(.ref vr0)])) rfl rfl (hb hby d14_9)
  obtain ⟨fs, hr, hrun, hended, hW, hsame⟩ := X2.leave (v := some (.int w_values_vr0)) (fun h => by rw [Bd.returns] at h; cases h)
  refine ⟨_, _, pre0 _ ?_, hrun, hended, _, _, rfl, ?_, ⟨_, rfl⟩, hW, hsame.mono (by decide) (by decide)⟩
  · show Steps p.tables e below (s₁.setTop (mkF m 0 #[.val (.ref vr0), .val (.ref vr1)] [])) _
    refine XS.aloadN X0.here hx rfl (hb hby d14_0) rfl rfl ?_
    show Steps p.tables e below (s₁.setTop (mkF m 1 #[.val (.ref vr0), .val (.ref vr1)] [(.ref vr0)])) _
    refine st1 _ ?_
    refine XS.aloadN X1.here hx rfl (hb hby d14_4) rfl rfl ?_
    show Steps p.tables e below (T1.setTop (mkF m 5 #[.val (.ref vr0), .val (.ref vr1)] [(.ref vr1), (.ref vr1)])) _
    refine Jvm.RoadKit.acmp (g := (mkF m 5 #[.val (.ref vr0), .val (.ref vr1)] [(.ref vr1), (.ref vr1)])) X1 hx rfl rfl rfl (pc0 := 5) (pc' := 8) (same := true) rfl (hb hby d14_5) rfl (decide_eq_true rfl) (by decide) (by decide) ?_
    show Steps p.tables e below (T1.setTop (mkF m 8 #[.val (.ref vr0), .val (.ref vr1)] [])) _
    refine XS.aloadN X1.here hx rfl (hb hby d14_8) rfl rfl ?_
    show Steps p.tables e below (T1.setTop (mkF m 9 #[.val (.ref vr0), .val (.ref vr1)] [(.ref vr0)])) _
    refine st2 _ ?_
    refine XS.goto X2.here hx rfl (pc0 := 12) (pc' := 16) rfl (hb hby d14_12) (by decide) (by decide) ?_
    exact retI X2 hx Bd.returns (hb hby d14_16) hr
  · show Q14_same Z vr0 vr1 w_values_vr0 h0 n0 _ T2.heap _
    rw [e2]
    exact ⟨rfl, N0, rfl⟩
theorem d14_15 : decode prog_58_method_9_code 15 = .ok (.iconst (-1), 1) := by decide +kernel
theorem ef_14_other (m : MethodId) (x0 : Addr) (x1 : Addr) : entryFrame m #[(.ref x0), (.ref x1)] 2 = mkF m 0 #[.val (.ref x0), .val (.ref x1)] [] := by first | (simp [entryFrame, mkF, argsToLocals, Value.category]; done) | rfl
def Q14_other (Z : State) (vr0 : Addr) (vr1 : Addr) (w_shapeReader_vr0 : Addr) (h0 : Heap) (n0 : Nat) (v : Option Value) (h : Heap) (L : List Loc) : Prop := v = some (.int (-1 : Int32)) ∧ Fr n0 L ∧ h = h0
set_option maxRecDepth 65536 in
set_option maxHeartbeats 40000000 in
theorem rm14_other (l : Launch) (Z : State) (a0 : Array Value) (hw : ∀ d ∈ tables_1, d.before a0 Z = true) (ws : List Jvm.Cond) (vr0 : Addr) (vr1 : Addr) (w_shapeReader_vr0 : Addr) (h0 : Heap) (n0 : Nat) (Z0 : n0 ≤ h0.size) (F_shapeReader_vr0 : Fld Z h0 vr0 "com/example/careful_ledger/carefulledger/json/PlainLine" "shapeReader" "Ljava/lang/Object;" (.ref w_shapeReader_vr0)) (ha5 : ¬ (w_shapeReader_vr0 = vr1)) :
    MetFree l (⟨"com/example/careful_ledger/carefulledger/json/PlainLine", "shapeValues", "(Ljava/lang/Object;)I"⟩ : MethodName) (head1 (Jvm.Cond.code (⟨"com/example/careful_ledger/carefulledger/json/PlainLine", "shapeValues", "(Ljava/lang/Object;)I"⟩ : MethodName) prog_58_method_9_code 2 (some .int) :: ws) ({ frames := 0, cells := 0, slots := 0, locals := 0 } : Room)) (fun a U => a = #[(.ref vr0), (.ref vr1)] ∧ Z.Warmed39 U.vm ∧ U.heap = h0) (fun _ _ _ _ _ => True) (fun _ U o U' => ∃ v L, o = .returned v ∧ Q14_other Z vr0 vr1 w_shapeReader_vr0 h0 n0 v U'.heap L ∧ FrameEnd U o U' L ({ frames := 0, cells := 0, slots := 0, locals := 0 } : Room).cells ({ frames := 0, cells := 0, slots := 0, locals := 0 } : Room).slots) := by
  refine MetFree.of_bodySF (plainFor_of_name pn_com_example_careful_ledger_carefulledger_json_PlainLine) hisR ?_
  intro p e s m args below meth c s₁ Bd hml0 hP hK
  obtain ⟨rfl, hZ, hh⟩ := hP
  have hx := Bd.exec
  have hby := Bd.bytes
  have hml : c.maxLocals = 2 := hml0
  have hown : s.vm.findClass "com/example/careful_ledger/carefulledger/json/PlainLine" = some m.cls := findClass_of_methodNamed Bd.named
  have hnm := (name_of_methodNamed Bd.named Bd.method).1
  have X0 : Stand p l e ({ frames := 0, cells := 0, slots := 0, locals := 0 } : Room) s m #[(.ref vr0), (.ref vr1)] below meth c s₁ [] 0 0 := Stand.of_body Bd
  have e0 : s₁.heap = h0 := by rw [← hh, Bd.state]; rfl
  have N0 := Fr.nil n0
  have pre0 : ∀ t, Steps p.tables e below (s₁.setTop (mkF m 0 #[.val (.ref vr0), .val (.ref vr1)] [])) t → Steps p.tables e below (s₁.setTop (entryFrame m #[(.ref vr0), (.ref vr1)] 2)) t := fun t k => castTop (ef_14_other m vr0 vr1) k
  obtain ⟨T1, X1, e1, st1⟩ := getF X0 hx hZ hown (host := "") (Or.inl (wd_76 hw)) Via.refl e0 F_shapeReader_vr0 (g := (mkF m 1 #[.val (.ref vr0), .val (.ref vr1)] [(.ref vr0)])) rfl rfl (hb hby d14_1)
  obtain ⟨fs, hr, hrun, hended, hW, hsame⟩ := X1.leave (v := some (.int (-1 : Int32))) (fun h => by rw [Bd.returns] at h; cases h)
  refine ⟨_, _, pre0 _ ?_, hrun, hended, _, _, rfl, ?_, ⟨_, rfl⟩, hW, hsame.mono (by decide) (by decide)⟩
  · show Steps p.tables e below (s₁.setTop (mkF m 0 #[.val (.ref vr0), .val (.ref vr1)] [])) _
    refine XS.aloadN X0.here hx rfl (hb hby d14_0) rfl rfl ?_
    show Steps p.tables e below (s₁.setTop (mkF m 1 #[.val (.ref vr0), .val (.ref vr1)] [(.ref vr0)])) _
    refine st1 _ ?_
    refine XS.aloadN X1.here hx rfl (hb hby d14_4) rfl rfl ?_
    show Steps p.tables e below (T1.setTop (mkF m 5 #[.val (.ref vr0), .val (.ref vr1)] [(.ref vr1), (.ref w_shapeReader_vr0)])) _
    refine Jvm.RoadKit.acmp (g := (mkF m 5 #[.val (.ref vr0), .val (.ref vr1)] [(.ref vr1), (.ref w_shapeReader_vr0)])) X1 hx rfl rfl rfl (pc0 := 5) (pc' := 15) (same := false) rfl (hb hby d14_5) rfl (decide_eq_false fun q => ha5 (Value.ref.inj q)) (by decide) (by decide) ?_
    show Steps p.tables e below (T1.setTop (mkF m 15 #[.val (.ref vr0), .val (.ref vr1)] [])) _
    refine XS.iconst X1.here hx rfl (hb hby d14_15) ?_
    exact retI X1 hx Bd.returns (hb hby d14_16) hr
  · show Q14_other Z vr0 vr1 w_shapeReader_vr0 h0 n0 _ T1.heap _
    rw [e1]
    exact ⟨rfl, N0, rfl⟩
theorem ef_14_null (m : MethodId) (x0 : Addr) (x1 : Addr) : entryFrame m #[(.ref x0), (.ref x1)] 2 = mkF m 0 #[.val (.ref x0), .val (.ref x1)] [] := by first | (simp [entryFrame, mkF, argsToLocals, Value.category]; done) | rfl
def Q14_null (Z : State) (vr0 : Addr) (vr1 : Addr) (h0 : Heap) (n0 : Nat) (v : Option Value) (h : Heap) (L : List Loc) : Prop := v = some (.int (-1 : Int32)) ∧ Fr n0 L ∧ h = h0
set_option maxRecDepth 65536 in
set_option maxHeartbeats 40000000 in
theorem rm14_null (l : Launch) (Z : State) (a0 : Array Value) (hw : ∀ d ∈ tables_1, d.before a0 Z = true) (ws : List Jvm.Cond) (vr0 : Addr) (vr1 : Addr) (h0 : Heap) (n0 : Nat) (Z0 : n0 ≤ h0.size) (F_shapeReader_vr0 : Fld Z h0 vr0 "com/example/careful_ledger/carefulledger/json/PlainLine" "shapeReader" "Ljava/lang/Object;" .null) :
    MetFree l (⟨"com/example/careful_ledger/carefulledger/json/PlainLine", "shapeValues", "(Ljava/lang/Object;)I"⟩ : MethodName) (head1 (Jvm.Cond.code (⟨"com/example/careful_ledger/carefulledger/json/PlainLine", "shapeValues", "(Ljava/lang/Object;)I"⟩ : MethodName) prog_58_method_9_code 2 (some .int) :: ws) ({ frames := 0, cells := 0, slots := 0, locals := 0 } : Room)) (fun a U => a = #[(.ref vr0), (.ref vr1)] ∧ Z.Warmed39 U.vm ∧ U.heap = h0) (fun _ _ _ _ _ => True) (fun _ U o U' => ∃ v L, o = .returned v ∧ Q14_null Z vr0 vr1 h0 n0 v U'.heap L ∧ FrameEnd U o U' L ({ frames := 0, cells := 0, slots := 0, locals := 0 } : Room).cells ({ frames := 0, cells := 0, slots := 0, locals := 0 } : Room).slots) := by
  refine MetFree.of_bodySF (plainFor_of_name pn_com_example_careful_ledger_carefulledger_json_PlainLine) hisR ?_
  intro p e s m args below meth c s₁ Bd hml0 hP hK
  obtain ⟨rfl, hZ, hh⟩ := hP
  have hx := Bd.exec
  have hby := Bd.bytes
  have hml : c.maxLocals = 2 := hml0
  have hown : s.vm.findClass "com/example/careful_ledger/carefulledger/json/PlainLine" = some m.cls := findClass_of_methodNamed Bd.named
  have hnm := (name_of_methodNamed Bd.named Bd.method).1
  have X0 : Stand p l e ({ frames := 0, cells := 0, slots := 0, locals := 0 } : Room) s m #[(.ref vr0), (.ref vr1)] below meth c s₁ [] 0 0 := Stand.of_body Bd
  have e0 : s₁.heap = h0 := by rw [← hh, Bd.state]; rfl
  have N0 := Fr.nil n0
  have pre0 : ∀ t, Steps p.tables e below (s₁.setTop (mkF m 0 #[.val (.ref vr0), .val (.ref vr1)] [])) t → Steps p.tables e below (s₁.setTop (entryFrame m #[(.ref vr0), (.ref vr1)] 2)) t := fun t k => castTop (ef_14_null m vr0 vr1) k
  obtain ⟨T1, X1, e1, st1⟩ := getF X0 hx hZ hown (host := "") (Or.inl (wd_76 hw)) Via.refl e0 F_shapeReader_vr0 (g := (mkF m 1 #[.val (.ref vr0), .val (.ref vr1)] [(.ref vr0)])) rfl rfl (hb hby d14_1)
  obtain ⟨fs, hr, hrun, hended, hW, hsame⟩ := X1.leave (v := some (.int (-1 : Int32))) (fun h => by rw [Bd.returns] at h; cases h)
  refine ⟨_, _, pre0 _ ?_, hrun, hended, _, _, rfl, ?_, ⟨_, rfl⟩, hW, hsame.mono (by decide) (by decide)⟩
  · show Steps p.tables e below (s₁.setTop (mkF m 0 #[.val (.ref vr0), .val (.ref vr1)] [])) _
    refine XS.aloadN X0.here hx rfl (hb hby d14_0) rfl rfl ?_
    show Steps p.tables e below (s₁.setTop (mkF m 1 #[.val (.ref vr0), .val (.ref vr1)] [(.ref vr0)])) _
    refine st1 _ ?_
    refine XS.aloadN X1.here hx rfl (hb hby d14_4) rfl rfl ?_
    show Steps p.tables e below (T1.setTop (mkF m 5 #[.val (.ref vr0), .val (.ref vr1)] [(.ref vr1), .null])) _
    refine Jvm.RoadKit.acmp (g := (mkF m 5 #[.val (.ref vr0), .val (.ref vr1)] [(.ref vr1), .null])) X1 hx rfl rfl rfl (pc0 := 5) (pc' := 15) (same := false) rfl (hb hby d14_5) rfl (decide_eq_false nofun) (by decide) (by decide) ?_
    show Steps p.tables e below (T1.setTop (mkF m 15 #[.val (.ref vr0), .val (.ref vr1)] [])) _
    refine XS.iconst X1.here hx rfl (hb hby d14_15) ?_
    exact retI X1 hx Bd.returns (hb hby d14_16) hr
  · show Q14_null Z vr0 vr1 h0 n0 _ T1.heap _
    rw [e1]
    exact ⟨rfl, N0, rfl⟩
theorem own_m (x : Int32) : 0 ≤ (x &&& (2047 : Int32)).toInt ∧ (x &&& (2047 : Int32)).toInt ≤ 2047 := by
  have a := c_and x (2047 : Int32) (by decide)
  have m : (2047 : Int32).toInt = 2047 := by decide
  rw [m] at a
  exact a
theorem own_n3 (x : Int32) : 0 ≤ ((x &&& (2147483647 : Int32)) % (3 : Int32)).toInt ∧ ((x &&& (2147483647 : Int32)) % (3 : Int32)).toInt ≤ 2 := by
  have a := c_and x (2147483647 : Int32) (by decide)
  have b := (c_irem (x &&& (2147483647 : Int32)) (3 : Int32) 3 (by decide)).1 a.1
  omega
theorem own_is {n k : Int32} (K : Int) (hk : k.toInt = K) (h : n.toInt = K) : k = n := Int32.toInt_inj.mp (hk.trans h.symm)
theorem wd_0 {Z : State} {a0 : Array Value} (hw : ∀ d ∈ tables_1, d.before a0 Z = true) : ((Jvm.Cond.constant "com/example/careful_ledger/carefulledger/json/PlainLineShapeValuesPinLaw" (7 : Nat) (2147483647 : Int32))).before a0 Z = true := hw _ (List.mem_of_getElem? (i := 0) rfl)
theorem wd_1 {Z : State} {a0 : Array Value} (hw : ∀ d ∈ tables_1, d.before a0 Z = true) : ((Jvm.Cond.classLink "com/example/careful_ledger/carefulledger/json/PlainLineShapeValuesPinLaw" (8 : Nat) "java/lang/String")).before a0 Z = true := hw _ (List.mem_of_getElem? (i := 1) rfl)
theorem wd_2 {Z : State} {a0 : Array Value} (hw : ∀ d ∈ tables_1, d.before a0 Z = true) : ((Jvm.Cond.instantiable "java/lang/String" (4 : Nat))).before a0 Z = true := hw _ (List.mem_of_getElem? (i := 2) rfl)
theorem wd_3 {Z : State} {a0 : Array Value} (hw : ∀ d ∈ tables_1, d.before a0 Z = true) : ((Jvm.Cond.initialized "java/lang/String")).before a0 Z = true := hw _ (List.mem_of_getElem? (i := 3) rfl)
theorem wd_28 {Z : State} {a0 : Array Value} (hw : ∀ d ∈ tables_1, d.before a0 Z = true) : ((Jvm.Cond.laysFinal "java/lang/String" "java/lang/String" "coder" "B")).before a0 Z = true := hw _ (List.mem_of_getElem? (i := 28) rfl)
theorem wd_30 {Z : State} {a0 : Array Value} (hw : ∀ d ∈ tables_1, d.before a0 Z = true) : ((Jvm.Cond.laysFinal "java/lang/String" "java/lang/String" "value" "[B")).before a0 Z = true := hw _ (List.mem_of_getElem? (i := 30) rfl)
theorem wd_4 {Z : State} {a0 : Array Value} (hw : ∀ d ∈ tables_1, d.before a0 Z = true) : ((Jvm.Cond.arrayClass Jvm.ClassFile.FieldType.char)).before a0 Z = true := hw _ (List.mem_of_getElem? (i := 4) rfl)
theorem wd_5 {Z : State} {a0 : Array Value} (hw : ∀ d ∈ tables_1, d.before a0 Z = true) : ((Jvm.Cond.methodLink "com/example/careful_ledger/carefulledger/json/PlainLineShapeValuesPinLaw" (10 : Nat) ({ cls := "java/lang/String", name := "<init>", desc := "([C)V" } : Jvm.MethodName))).before a0 Z = true := hw _ (List.mem_of_getElem? (i := 5) rfl)
theorem wd_7 {Z : State} {a0 : Array Value} (hw : ∀ d ∈ tables_1, d.before a0 Z = true) : ((Jvm.Cond.code ({ cls := "java/lang/String", name := "<init>", desc := "([C)V" } : Jvm.MethodName) jdk_42_method_3_code (2 : Nat) (Option.none : Option Jvm.ClassFile.FieldType))).before a0 Z = true := hw _ (List.mem_of_getElem? (i := 7) rfl)
theorem pd_0 : parseMethodDescriptor "([C)V" = some ⟨[(.array .char)], none⟩ := by decide +kernel
theorem wd_6 {Z : State} {a0 : Array Value} (hw : ∀ d ∈ tables_1, d.before a0 Z = true) : ((Jvm.Cond.instanceMethod ({ cls := "java/lang/String", name := "<init>", desc := "([C)V" } : Jvm.MethodName))).before a0 Z = true := hw _ (List.mem_of_getElem? (i := 6) rfl)
theorem wd_31 {Z : State} {a0 : Array Value} (hw : ∀ d ∈ tables_1, d.before a0 Z = true) : ((Jvm.Cond.classLink "com/example/careful_ledger/carefulledger/json/PlainLineShapeValuesPinLaw" (13 : Nat) "com/example/careful_ledger/carefulledger/json/PlainLine")).before a0 Z = true := hw _ (List.mem_of_getElem? (i := 31) rfl)
theorem wd_34 {Z : State} {a0 : Array Value} (hw : ∀ d ∈ tables_1, d.before a0 Z = true) : ((Jvm.Cond.methodLink "com/example/careful_ledger/carefulledger/json/PlainLineShapeValuesPinLaw" (15 : Nat) ({ cls := "com/example/careful_ledger/carefulledger/json/PlainLine", name := "<init>", desc := "()V" } : Jvm.MethodName))).before a0 Z = true := hw _ (List.mem_of_getElem? (i := 34) rfl)
theorem wd_36 {Z : State} {a0 : Array Value} (hw : ∀ d ∈ tables_1, d.before a0 Z = true) : ((Jvm.Cond.code ({ cls := "com/example/careful_ledger/carefulledger/json/PlainLine", name := "<init>", desc := "()V" } : Jvm.MethodName) prog_58_method_1_code (1 : Nat) (Option.none : Option Jvm.ClassFile.FieldType))).before a0 Z = true := hw _ (List.mem_of_getElem? (i := 36) rfl)
theorem wd_35 {Z : State} {a0 : Array Value} (hw : ∀ d ∈ tables_1, d.before a0 Z = true) : ((Jvm.Cond.instanceMethod ({ cls := "com/example/careful_ledger/carefulledger/json/PlainLine", name := "<init>", desc := "()V" } : Jvm.MethodName))).before a0 Z = true := hw _ (List.mem_of_getElem? (i := 35) rfl)
theorem wd_62 {Z : State} {a0 : Array Value} (hw : ∀ d ∈ tables_1, d.before a0 Z = true) : ((Jvm.Cond.methodLink "com/example/careful_ledger/carefulledger/json/PlainLineShapeValuesPinLaw" (16 : Nat) ({ cls := "com/example/careful_ledger/carefulledger/json/PlainLine", name := "reset", desc := "([BII)V" } : Jvm.MethodName))).before a0 Z = true := hw _ (List.mem_of_getElem? (i := 62) rfl)
theorem wd_66 {Z : State} {a0 : Array Value} (hw : ∀ d ∈ tables_1, d.before a0 Z = true) : ((Jvm.Cond.code ({ cls := "com/example/careful_ledger/carefulledger/json/PlainLine", name := "reset", desc := "([BII)V" } : Jvm.MethodName) prog_58_method_2_code (4 : Nat) (Option.none : Option Jvm.ClassFile.FieldType))).before a0 Z = true := hw _ (List.mem_of_getElem? (i := 66) rfl)
theorem pd_7 : parseMethodDescriptor "([BII)V" = some ⟨[(.array .byte), .int, .int], none⟩ := by decide +kernel
theorem wd_65 {Z : State} {a0 : Array Value} (hw : ∀ d ∈ tables_1, d.before a0 Z = true) : ((Jvm.Cond.selects "com/example/careful_ledger/carefulledger/json/PlainLine" ({ cls := "com/example/careful_ledger/carefulledger/json/PlainLine", name := "reset", desc := "([BII)V" } : Jvm.MethodName) ({ cls := "com/example/careful_ledger/carefulledger/json/PlainLine", name := "reset", desc := "([BII)V" } : Jvm.MethodName))).before a0 Z = true := hw _ (List.mem_of_getElem? (i := 65) rfl)
theorem wd_63 {Z : State} {a0 : Array Value} (hw : ∀ d ∈ tables_1, d.before a0 Z = true) : ((Jvm.Cond.declares ({ cls := "com/example/careful_ledger/carefulledger/json/PlainLine", name := "reset", desc := "([BII)V" } : Jvm.MethodName))).before a0 Z = true := hw _ (List.mem_of_getElem? (i := 63) rfl)
theorem wd_64 {Z : State} {a0 : Array Value} (hw : ∀ d ∈ tables_1, d.before a0 Z = true) : ((Jvm.Cond.instanceMethod ({ cls := "com/example/careful_ledger/carefulledger/json/PlainLine", name := "reset", desc := "([BII)V" } : Jvm.MethodName))).before a0 Z = true := hw _ (List.mem_of_getElem? (i := 64) rfl)
theorem wd_71 {Z : State} {a0 : Array Value} (hw : ∀ d ∈ tables_1, d.before a0 Z = true) : ((Jvm.Cond.methodLink "com/example/careful_ledger/carefulledger/json/PlainLineShapeValuesPinLaw" (20 : Nat) ({ cls := "com/example/careful_ledger/carefulledger/json/PlainLine", name := "beginShape", desc := "()V" } : Jvm.MethodName))).before a0 Z = true := hw _ (List.mem_of_getElem? (i := 71) rfl)
theorem wd_75 {Z : State} {a0 : Array Value} (hw : ∀ d ∈ tables_1, d.before a0 Z = true) : ((Jvm.Cond.code ({ cls := "com/example/careful_ledger/carefulledger/json/PlainLine", name := "beginShape", desc := "()V" } : Jvm.MethodName) prog_58_method_5_code (1 : Nat) (Option.none : Option Jvm.ClassFile.FieldType))).before a0 Z = true := hw _ (List.mem_of_getElem? (i := 75) rfl)
theorem wd_74 {Z : State} {a0 : Array Value} (hw : ∀ d ∈ tables_1, d.before a0 Z = true) : ((Jvm.Cond.selects "com/example/careful_ledger/carefulledger/json/PlainLine" ({ cls := "com/example/careful_ledger/carefulledger/json/PlainLine", name := "beginShape", desc := "()V" } : Jvm.MethodName) ({ cls := "com/example/careful_ledger/carefulledger/json/PlainLine", name := "beginShape", desc := "()V" } : Jvm.MethodName))).before a0 Z = true := hw _ (List.mem_of_getElem? (i := 74) rfl)
theorem wd_72 {Z : State} {a0 : Array Value} (hw : ∀ d ∈ tables_1, d.before a0 Z = true) : ((Jvm.Cond.declares ({ cls := "com/example/careful_ledger/carefulledger/json/PlainLine", name := "beginShape", desc := "()V" } : Jvm.MethodName))).before a0 Z = true := hw _ (List.mem_of_getElem? (i := 72) rfl)
theorem wd_73 {Z : State} {a0 : Array Value} (hw : ∀ d ∈ tables_1, d.before a0 Z = true) : ((Jvm.Cond.instanceMethod ({ cls := "com/example/careful_ledger/carefulledger/json/PlainLine", name := "beginShape", desc := "()V" } : Jvm.MethodName))).before a0 Z = true := hw _ (List.mem_of_getElem? (i := 73) rfl)
set_option maxRecDepth 65536 in
set_option maxHeartbeats 40000000 in
theorem cut0 (l : Launch) (Z : State) (a0 : Array Value) (hw : ∀ d ∈ tables_1, d.before a0 Z = true) (vi0 : Int32) (vi1 : Int32) (vi2 : Int32) (vi3 : Int32) (vi4 : Int32) (w_COMPACT_STRINGS : Int32) (h0 : Heap) (n0 : Nat) (Z0 : n0 ≤ h0.size) (S_COMPACT_STRINGS : Sta Z Z.heap "java/lang/String" "COMPACT_STRINGS" "Z" (.int w_COMPACT_STRINGS)) (hG : ¬ (w_COMPACT_STRINGS = (0 : Int32))) (O0 : Old Z n0 h0) {p : Program} {e : Env} {s : State} {m : MethodId} {below : List Frame} {meth : Method} {c : Code} {s₁ : State}
    (X0 : Stand p l e room_1 s m #[(.int vi0), (.int vi1), (.int vi2), (.int vi3), (.int vi4)] below meth c s₁ [] 0 0) (hx : p.tables.exec = Jvm.exec) (hby : c.code = code) (hml : c.maxLocals = 15) (hown : s.vm.findClass "com/example/careful_ledger/carefulledger/json/PlainLineShapeValuesPinLaw" = some m.cls) (hnm : meth.name = "law") (hZ : Z.Warmed39 s.vm) (e0 : s₁.heap = h0) :
    ∃ (T : State) (L : List Loc) (b1 : Addr) (b5 : Addr) (b9 : Addr) (b10 : Addr) (p11 : Addr) (en11 : Addr) (tg11 : Addr) (ln : Int32) (la : Int32) (lb : Int32) (lc : Int32) (k9 : ClassId) (kp11 : ClassId) (ke11 : ClassId) (kt11 : ClassId) (t4 : Addr) (t8 : Addr), Stand p l e room_1 s m #[(.int vi0), (.int vi1), (.int vi2), (.int vi3), (.int vi4)] below meth c T L 13 6265 ∧ Fr n0 L ∧ n0 ≤ T.heap.size ∧ Keep h0 T.heap [] ∧ Old Z n0 T.heap ∧ Exa Z T.heap b1 "java/lang/String" ∧ Fld Z T.heap b1 "java/lang/String" "coder" "B" (.int (0 : Int32)) ∧ Fld Z T.heap b1 "java/lang/String" "value" "[B" (.ref t4) ∧ Exa Z T.heap b5 "java/lang/String" ∧ Fld Z T.heap b5 "java/lang/String" "coder" "B" (.int (0 : Int32)) ∧ Fld Z T.heap b5 "java/lang/String" "value" "[B" (.ref t8) ∧ Arv Z T.heap b9 k9 .byte (6144 : Int32) (List.replicate 6144 (.int (0 : Int32))) (.int (0 : Int32)) ∧ Exa Z T.heap b10 "com/example/careful_ledger/carefulledger/json/PlainLine" ∧ Arv Z T.heap p11 kp11 .byte (64 : Int32) (List.replicate 64 (.int (0 : Int32))) (.int (0 : Int32)) ∧ Arv Z T.heap en11 ke11 .int (16 : Int32) [(.int (0 : Int32)), (.int (0 : Int32)), (.int (0 : Int32))] (.int (0 : Int32)) ∧ Arv Z T.heap tg11 kt11 (.object "java/lang/Object") (16 : Int32) [.null, .null] .null ∧ Ovr Z kt11 "java/lang/Object" ∧ Fld Z T.heap b10 "com/example/careful_ledger/carefulledger/json/PlainLine" "bytes" "[B" (.ref b9) ∧ Fld Z T.heap b10 "com/example/careful_ledger/carefulledger/json/PlainLine" "at" "I" (.int (0 : Int32)) ∧ Fld Z T.heap b10 "com/example/careful_ledger/carefulledger/json/PlainLine" "end" "I" (.int (6144 : Int32)) ∧ Fld Z T.heap b10 "com/example/careful_ledger/carefulledger/json/PlainLine" "parts" "[B" (.ref p11) ∧ Fld Z T.heap b10 "com/example/careful_ledger/carefulledger/json/PlainLine" "partEnds" "[I" (.ref en11) ∧ Fld Z T.heap b10 "com/example/careful_ledger/carefulledger/json/PlainLine" "tags" "[Ljava/lang/Object;" (.ref tg11) ∧ Fld Z T.heap b10 "com/example/careful_ledger/carefulledger/json/PlainLine" "shapeReader" "Ljava/lang/Object;" .null ∧ Fld Z T.heap b10 "com/example/careful_ledger/carefulledger/json/PlainLine" "values" "I" (.int (0 : Int32)) ∧ Fld Z T.heap b10 "com/example/careful_ledger/carefulledger/json/PlainLine" "learning" "Z" (.int (1 : Int32)) ∧ Fld Z T.heap b10 "com/example/careful_ledger/carefulledger/json/PlainLine" "partStart" "I" (.int (0 : Int32)) ∧ n0 ≤ b1 ∧ h0.size ≤ b1 ∧ n0 ≤ b5 ∧ h0.size ≤ b5 ∧ n0 ≤ b9 ∧ h0.size ≤ b9 ∧ n0 ≤ b10 ∧ h0.size ≤ b10 ∧ n0 ≤ p11 ∧ h0.size ≤ p11 ∧ n0 ≤ en11 ∧ h0.size ≤ en11 ∧ n0 ≤ tg11 ∧ h0.size ≤ tg11 ∧ b1 ≠ b5 ∧ b1 ≠ b9 ∧ b1 ≠ b10 ∧ b1 ≠ p11 ∧ b1 ≠ en11 ∧ b1 ≠ tg11 ∧ b5 ≠ b9 ∧ b5 ≠ b10 ∧ b5 ≠ p11 ∧ b5 ≠ en11 ∧ b5 ≠ tg11 ∧ b9 ≠ b10 ∧ b9 ≠ p11 ∧ b9 ≠ en11 ∧ b9 ≠ tg11 ∧ b10 ≠ p11 ∧ b10 ≠ en11 ∧ b10 ≠ tg11 ∧ p11 ≠ en11 ∧ p11 ≠ tg11 ∧ en11 ≠ tg11 ∧ ln = ((vi0 &&& (2147483647 : Int32)) % (3 : Int32)) ∧ la = (vi1 &&& (2047 : Int32)) ∧ lb = (vi2 &&& (2047 : Int32)) ∧ lc = (vi3 &&& (2047 : Int32)) ∧ (0 ≤ ln.toInt ∧ ln.toInt ≤ 2) ∧ (0 ≤ la.toInt ∧ la.toInt ≤ 2047) ∧ (0 ≤ lb.toInt ∧ lb.toInt ≤ 2047) ∧ (0 ≤ lc.toInt ∧ lc.toInt ≤ 2047) ∧ ∀ target, Steps p.tables e below (T.setTop (mkF m 104 #[.val (.int vi0), .val (.int vi1), .val (.int vi2), .val (.int vi3), .val (.int vi4), .val (.int ln), .val (.int la), .val (.int lb), .val (.int lc), .val (.int ((vi4 &&& (255 : Int32)).toUInt32.toUInt16.toUInt32.toInt32)), .val (.ref b1), .val (.ref b5), .val (.ref b9), .val (.ref b10), .unset] [])) target → Steps p.tables e below (s₁.setTop (mkF m 0 #[.val (.int vi0), .val (.int vi1), .val (.int vi2), .val (.int vi3), .val (.int vi4), .unset, .unset, .unset, .unset, .unset, .unset, .unset, .unset, .unset, .unset] [])) target := by
  have N0 := Fr.nil n0
  obtain ⟨ln, e_ln⟩ : ∃ z : Int32, z = ((vi0 &&& (2147483647 : Int32)) % (3 : Int32)) := ⟨_, rfl⟩
  have hln := own_n3 vi0
  rw [← e_ln] at hln
  obtain ⟨la, e_la⟩ : ∃ z : Int32, z = (vi1 &&& (2047 : Int32)) := ⟨_, rfl⟩
  have hla := own_m vi1
  rw [← e_la] at hla
  obtain ⟨lb, e_lb⟩ : ∃ z : Int32, z = (vi2 &&& (2047 : Int32)) := ⟨_, rfl⟩
  have hlb := own_m vi2
  rw [← e_lb] at hlb
  obtain ⟨lc, e_lc⟩ : ∃ z : Int32, z = (vi3 &&& (2047 : Int32)) := ⟨_, rfl⟩
  have hlc := own_m vi3
  rw [← e_lc] at hlc
  obtain ⟨T1, h1, X1, e1, E1, A1, D1, -, st1⟩ := newO X0 hx hZ hown (wd_1 hw) (wd_2 hw) (wd_3 hw) e0 (g := (mkF m 38 #[.val (.int vi0), .val (.int vi1), .val (.int vi2), .val (.int vi3), .val (.int vi4), .val (.int ln), .val (.int la), .val (.int lb), .val (.int lc), .val (.int ((vi4 &&& (255 : Int32)).toUInt32.toUInt16.toUInt32.toInt32)), .unset, .unset, .unset, .unset, .unset] [])) rfl (hb hby at_38) (by decide) (by decide)
  obtain ⟨b1, g1⟩ : ∃ z, z = h0.size := ⟨_, rfl⟩
  rw [← g1] at A1 D1 st1
  have g_b1 : n0 ≤ b1 := Nat.le_trans Z0 (Nat.le_of_eq g1.symm)
  have sz_b1 : h0.size ≤ b1 := Nat.le_trans (Keep.refl h0 []).1 (Nat.le_of_eq g1.symm)
  have K1 : Keep h0 h1 [] := (Keep.refl h0 []).ext E1
  have F_coder_b1 : Fld Z h1 b1 "java/lang/String" "coder" "B" (.int (0 : Int32)) := D1 (Or.inr (wd_28 hw)) (ty := .byte) (by decide)
  have F_value_b1 : Fld Z h1 b1 "java/lang/String" "value" "[B" .null := D1 (Or.inr (wd_30 hw)) (ty := (.array .byte)) (by decide)
  obtain ⟨T2, h2, k2, X2, e2, E2, A2, st2⟩ := newP X1 hx hZ (aty := .char) (wd_4 hw) e1 (g := (mkF m 43 #[.val (.int vi0), .val (.int vi1), .val (.int vi2), .val (.int vi3), .val (.int vi4), .val (.int ln), .val (.int la), .val (.int lb), .val (.int lc), .val (.int ((vi4 &&& (255 : Int32)).toUInt32.toUInt16.toUInt32.toInt32)), .unset, .unset, .unset, .unset, .unset] [(.int (1 : Int32)), (.ref b1), (.ref b1)])) rfl (hb hby at_43) rfl (by decide) (cap := 1) (by decide) (by decide) (by decide) (by decide)
  obtain ⟨b2, g2⟩ : ∃ z, z = h1.size := ⟨_, rfl⟩
  rw [← g2] at A2 st2
  have g_b2 : n0 ≤ b2 := Nat.le_trans (Nat.le_trans Z0 E1.1) (Nat.le_of_eq g2.symm)
  have sz_b2 : h0.size ≤ b2 := Nat.le_trans K1.1 (Nat.le_of_eq g2.symm)
  have K2 : Keep h0 h2 [] := K1.ext E2
  have V_b2 : Arv Z h2 b2 k2 .char (1 : Int32) [(.int (0 : Int32))] (.int (0 : Int32)) := (Arv.new A2 (by decide)).pad (pad_rep [] (.int (0 : Int32)) 1)
  obtain ⟨cl3, Ar3, q3, Sz3, Ng3, Hh3, Gg3⟩ := (id V_b2)
  have hin3 : ¬ ((0 : Int32) < 0 ∨ cl3.slots.size ≤ ((0 : Int32)).toNatClampNeg) := inb_of Sz3 ⟨by decide, by decide⟩
  obtain ⟨T3, h3, X3, e3, W3, st3⟩ := stC X2 hx hZ e2 Ar3 (j := (0 : Int32)) hin3 (g := (mkF m 49 #[.val (.int vi0), .val (.int vi1), .val (.int vi2), .val (.int vi3), .val (.int vi4), .val (.int ln), .val (.int la), .val (.int lb), .val (.int lc), .val (.int ((vi4 &&& (255 : Int32)).toUInt32.toUInt16.toUInt32.toInt32)), .unset, .unset, .unset, .unset, .unset] [(.int ((vi4 &&& (255 : Int32)).toUInt32.toUInt16.toUInt32.toInt32)), (.int (0 : Int32)), (.ref b2), (.ref b2), (.ref b1), (.ref b1)])) rfl rfl (hb hby at_49)
  have V_b2_3 : Arv Z h3 b2 k2 .char (1 : Int32) [(.int (nar .char ((vi4 &&& (255 : Int32)).toUInt32.toUInt16.toUInt32.toInt32)))] (.int (0 : Int32)) := Arv.set Ar3 q3 Sz3 Ng3 Hh3 Gg3 (fits_nar_char _) W3 0 rfl (Nat.le_of_ble_eq_true rfl)
  have N3 := Fr.snoc X3 N0 g_b2
  have K3 : Keep h0 h3 [] := K2.wr W3 (Or.inr sz_b2)
  obtain ⟨_, _, ⟨T4, L4, k4, n4⟩, -, X4, ⟨Lc4, hQ4, l4, y4, z4⟩, st4⟩ := X3.specialBack hx (y := (⟨"java/lang/String", "<init>", "([C)V"⟩ : MethodName)) rfl hown (mvT hZ (wd_5 hw)) (mvT hZ (wd_6 hw)) (mvT hZ (wd_7 hw)) (by decide) (StrChars.Road.backV (W := 1) hZ (fun d hd => hw d (own_words d hd)) (kI := 4) (wd_2 hw) (cs := ([(nar .char ((vi4 &&& (255 : Int32)).toUInt32.toUInt16.toUInt32.toInt32))] : List Int32)) (bs := ([(nar .char ((vi4 &&& (255 : Int32)).toUInt32.toUInt16.toUInt32.toInt32))] : List Int32).map (fun c => c.toInt8.toInt32)) (n := 1) g_b1 (Nat.le_trans (Nat.le_trans (Nat.le_trans Z0 E1.1) E2.1) (Keep.of_wr W3).1) ((A1.ext E2).wr W3) ((F_value_b1.ext E2).other W3 (Or.inl (Nat.ne_of_lt (Nat.lt_of_lt_of_le A1.lt (Nat.le_of_eq g2.symm))))) ((F_coder_b1.ext E2).other W3 (Or.inl (Nat.ne_of_lt (Nat.lt_of_lt_of_le A1.lt (Nat.le_of_eq g2.symm))))) V_b2_3 (S_COMPACT_STRINGS.ext (((O0.ext E1).ext E2).wr W3 g_b2).2) hG rfl rfl (by decide) (by decide) (by intro c hc; simp only [List.mem_cons, List.not_mem_nil, or_false] at hc; subst hc; exact own_255 _) rfl (by decide) (by decide)) (g := (mkF m 50 #[.val (.int vi0), .val (.int vi1), .val (.int vi2), .val (.int vi3), .val (.int vi4), .val (.int ln), .val (.int la), .val (.int lb), .val (.int lc), .val (.int ((vi4 &&& (255 : Int32)).toUInt32.toUInt16.toUInt32.toInt32)), .unset, .unset, .unset, .unset, .unset] [(.ref b2), (.ref b1), (.ref b1)])) rfl (by rw [hml]; rfl) (Steps.refl _) (a := b1) (argsL := [(.ref b2)]) (rest := [(.ref b1)]) (lenOf pd_0 rfl) rfl (by show 2 * 0 + _ ≤ _; exact Nat.le_of_eq rfl) (hb hby at_50) (fun _ _ => ⟨rfl, e3, (by decide : 2 + 1 ≤ _), (by decide : 5 + 1 ≤ _)⟩)
  dsimp only [Pt.U, Pt.locs, Pt.cells, Pt.slots] at X4 l4 y4 z4 st4 hQ4
  subst l4 y4 z4
  obtain ⟨rfl, N4q, p4_0, p4_1, p4_2, t4, kb4, gt4, p4_3, nt4, p4_4, p4_5⟩ := hQ4
  have N4 := Fr.app N3 N4q
  have g_t4 : n0 ≤ t4 := Nat.le_trans (Nat.le_trans (Nat.le_trans (Nat.le_trans Z0 E1.1) E2.1) (Keep.of_wr W3).1) p4_3
  have sz_t4 : h0.size ≤ t4 := Nat.le_trans K3.1 p4_3
  have K4 : Keep h0 T4.heap [] := K3.trans p4_0 (allS (Or.inr sz_b1) all0)
  obtain ⟨T5, h5, X5, e5, E5, A5, D5, -, st5⟩ := newO X4 hx hZ hown (wd_1 hw) (wd_2 hw) (wd_3 hw) rfl (g := (mkF m 55 #[.val (.int vi0), .val (.int vi1), .val (.int vi2), .val (.int vi3), .val (.int vi4), .val (.int ln), .val (.int la), .val (.int lb), .val (.int lc), .val (.int ((vi4 &&& (255 : Int32)).toUInt32.toUInt16.toUInt32.toInt32)), .val (.ref b1), .unset, .unset, .unset, .unset] [])) rfl (hb hby at_55) (by decide) (by decide)
  obtain ⟨b5, g5⟩ : ∃ z, z = T4.heap.size := ⟨_, rfl⟩
  rw [← g5] at A5 D5 st5
  have g_b5 : n0 ≤ b5 := Nat.le_trans (Nat.le_trans (Nat.le_trans (Nat.le_trans (Nat.le_trans Z0 E1.1) E2.1) (Keep.of_wr W3).1) p4_0.1) (Nat.le_of_eq g5.symm)
  have sz_b5 : h0.size ≤ b5 := Nat.le_trans K4.1 (Nat.le_of_eq g5.symm)
  have K5 : Keep h0 h5 [] := K4.ext E5
  have F_coder_b5 : Fld Z h5 b5 "java/lang/String" "coder" "B" (.int (0 : Int32)) := D5 (Or.inr (wd_28 hw)) (ty := .byte) (by decide)
  have F_value_b5 : Fld Z h5 b5 "java/lang/String" "value" "[B" .null := D5 (Or.inr (wd_30 hw)) (ty := (.array .byte)) (by decide)
  obtain ⟨T6, h6, k6, X6, e6, E6, A6, st6⟩ := newP X5 hx hZ (aty := .char) (wd_4 hw) e5 (g := (mkF m 60 #[.val (.int vi0), .val (.int vi1), .val (.int vi2), .val (.int vi3), .val (.int vi4), .val (.int ln), .val (.int la), .val (.int lb), .val (.int lc), .val (.int ((vi4 &&& (255 : Int32)).toUInt32.toUInt16.toUInt32.toInt32)), .val (.ref b1), .unset, .unset, .unset, .unset] [(.int (1 : Int32)), (.ref b5), (.ref b5)])) rfl (hb hby at_60) rfl (by decide) (cap := 1) (by decide) (by decide) (by decide) (by decide)
  obtain ⟨b6, g6⟩ : ∃ z, z = h5.size := ⟨_, rfl⟩
  rw [← g6] at A6 st6
  have g_b6 : n0 ≤ b6 := Nat.le_trans (Nat.le_trans (Nat.le_trans (Nat.le_trans (Nat.le_trans (Nat.le_trans Z0 E1.1) E2.1) (Keep.of_wr W3).1) p4_0.1) E5.1) (Nat.le_of_eq g6.symm)
  have sz_b6 : h0.size ≤ b6 := Nat.le_trans K5.1 (Nat.le_of_eq g6.symm)
  have K6 : Keep h0 h6 [] := K5.ext E6
  have V_b6 : Arv Z h6 b6 k6 .char (1 : Int32) [(.int (0 : Int32))] (.int (0 : Int32)) := (Arv.new A6 (by decide)).pad (pad_rep [] (.int (0 : Int32)) 1)
  obtain ⟨cl7, Ar7, q7, Sz7, Ng7, Hh7, Gg7⟩ := (id V_b6)
  have hin7 : ¬ ((0 : Int32) < 0 ∨ cl7.slots.size ≤ ((0 : Int32)).toNatClampNeg) := inb_of Sz7 ⟨by decide, by decide⟩
  obtain ⟨T7, h7, X7, e7, W7, st7⟩ := stC X6 hx hZ e6 Ar7 (j := (0 : Int32)) hin7 (g := (mkF m 66 #[.val (.int vi0), .val (.int vi1), .val (.int vi2), .val (.int vi3), .val (.int vi4), .val (.int ln), .val (.int la), .val (.int lb), .val (.int lc), .val (.int ((vi4 &&& (255 : Int32)).toUInt32.toUInt16.toUInt32.toInt32)), .val (.ref b1), .unset, .unset, .unset, .unset] [(.int ((vi4 &&& (255 : Int32)).toUInt32.toUInt16.toUInt32.toInt32)), (.int (0 : Int32)), (.ref b6), (.ref b6), (.ref b5), (.ref b5)])) rfl rfl (hb hby at_66)
  have V_b6_7 : Arv Z h7 b6 k6 .char (1 : Int32) [(.int (nar .char ((vi4 &&& (255 : Int32)).toUInt32.toUInt16.toUInt32.toInt32)))] (.int (0 : Int32)) := Arv.set Ar7 q7 Sz7 Ng7 Hh7 Gg7 (fits_nar_char _) W7 0 rfl (Nat.le_of_ble_eq_true rfl)
  have N7 := Fr.snoc X7 N4 g_b6
  have K7 : Keep h0 h7 [] := K6.wr W7 (Or.inr sz_b6)
  obtain ⟨_, _, ⟨T8, L8, k8, n8⟩, -, X8, ⟨Lc8, hQ8, l8, y8, z8⟩, st8⟩ := X7.specialBack hx (y := (⟨"java/lang/String", "<init>", "([C)V"⟩ : MethodName)) rfl hown (mvT hZ (wd_5 hw)) (mvT hZ (wd_6 hw)) (mvT hZ (wd_7 hw)) (by decide) (StrChars.Road.backV (W := 1) hZ (fun d hd => hw d (own_words d hd)) (kI := 4) (wd_2 hw) (cs := ([(nar .char ((vi4 &&& (255 : Int32)).toUInt32.toUInt16.toUInt32.toInt32))] : List Int32)) (bs := ([(nar .char ((vi4 &&& (255 : Int32)).toUInt32.toUInt16.toUInt32.toInt32))] : List Int32).map (fun c => c.toInt8.toInt32)) (n := 1) g_b5 (Nat.le_trans (Nat.le_trans (Nat.le_trans (Nat.le_trans (Nat.le_trans (Nat.le_trans (Nat.le_trans Z0 E1.1) E2.1) (Keep.of_wr W3).1) p4_0.1) E5.1) E6.1) (Keep.of_wr W7).1) ((A5.ext E6).wr W7) ((F_value_b5.ext E6).other W7 (Or.inl (Nat.ne_of_lt (Nat.lt_of_lt_of_le A5.lt (Nat.le_of_eq g6.symm))))) ((F_coder_b5.ext E6).other W7 (Or.inl (Nat.ne_of_lt (Nat.lt_of_lt_of_le A5.lt (Nat.le_of_eq g6.symm))))) V_b6_7 (S_COMPACT_STRINGS.ext (((((((O0.ext E1).ext E2).wr W3 g_b2).keep p4_0 (allS g_b1 all0)).ext E5).ext E6).wr W7 g_b6).2) hG rfl rfl (by decide) (by decide) (by intro c hc; simp only [List.mem_cons, List.not_mem_nil, or_false] at hc; subst hc; exact own_255 _) rfl (by decide) (by decide)) (g := (mkF m 67 #[.val (.int vi0), .val (.int vi1), .val (.int vi2), .val (.int vi3), .val (.int vi4), .val (.int ln), .val (.int la), .val (.int lb), .val (.int lc), .val (.int ((vi4 &&& (255 : Int32)).toUInt32.toUInt16.toUInt32.toInt32)), .val (.ref b1), .unset, .unset, .unset, .unset] [(.ref b6), (.ref b5), (.ref b5)])) rfl (by rw [hml]; rfl) (Steps.refl _) (a := b5) (argsL := [(.ref b6)]) (rest := [(.ref b5)]) (lenOf pd_0 rfl) rfl (by show 2 * 0 + _ ≤ _; exact Nat.le_of_eq rfl) (hb hby at_67) (fun _ _ => ⟨rfl, e7, (by decide : 5 + 1 ≤ _), (by decide : 11 + 1 ≤ _)⟩)
  dsimp only [Pt.U, Pt.locs, Pt.cells, Pt.slots] at X8 l8 y8 z8 st8 hQ8
  subst l8 y8 z8
  obtain ⟨rfl, N8q, p8_0, p8_1, p8_2, t8, kb8, gt8, p8_3, nt8, p8_4, p8_5⟩ := hQ8
  have N8 := Fr.app N7 N8q
  have g_t8 : n0 ≤ t8 := Nat.le_trans (Nat.le_trans (Nat.le_trans (Nat.le_trans (Nat.le_trans (Nat.le_trans (Nat.le_trans (Nat.le_trans Z0 E1.1) E2.1) (Keep.of_wr W3).1) p4_0.1) E5.1) E6.1) (Keep.of_wr W7).1) p8_3
  have sz_t8 : h0.size ≤ t8 := Nat.le_trans K7.1 p8_3
  have K8 : Keep h0 T8.heap [] := K7.trans p8_0 (allS (Or.inr sz_b5) all0)
  obtain ⟨T9, h9, k9, X9, e9, E9, A9, st9⟩ := newP X8 hx hZ (aty := .byte) (wd_20 hw) rfl (g := (mkF m 75 #[.val (.int vi0), .val (.int vi1), .val (.int vi2), .val (.int vi3), .val (.int vi4), .val (.int ln), .val (.int la), .val (.int lb), .val (.int lc), .val (.int ((vi4 &&& (255 : Int32)).toUInt32.toUInt16.toUInt32.toInt32)), .val (.ref b1), .val (.ref b5), .unset, .unset, .unset] [(.int (6144 : Int32))])) rfl (hb hby at_75) rfl (by decide) (cap := 6144) (by decide) (by decide) (by decide) (by decide)
  obtain ⟨b9, g9⟩ : ∃ z, z = T8.heap.size := ⟨_, rfl⟩
  rw [← g9] at A9 st9
  have g_b9 : n0 ≤ b9 := Nat.le_trans (Nat.le_trans (Nat.le_trans (Nat.le_trans (Nat.le_trans (Nat.le_trans (Nat.le_trans (Nat.le_trans (Nat.le_trans Z0 E1.1) E2.1) (Keep.of_wr W3).1) p4_0.1) E5.1) E6.1) (Keep.of_wr W7).1) p8_0.1) (Nat.le_of_eq g9.symm)
  have sz_b9 : h0.size ≤ b9 := Nat.le_trans K8.1 (Nat.le_of_eq g9.symm)
  have K9 : Keep h0 h9 [] := K8.ext E9
  have V_b9 : Arv Z h9 b9 k9 .byte (6144 : Int32) (List.replicate 6144 (.int (0 : Int32))) (.int (0 : Int32)) := (Arv.new A9 (by decide)).pad (pad_rep [] (.int (0 : Int32)) 6144)
  obtain ⟨T10, h10, X10, e10, E10, A10, D10, -, st10⟩ := newO X9 hx hZ hown (wd_31 hw) (wd_32 hw) (wd_33 hw) e9 (g := (mkF m 79 #[.val (.int vi0), .val (.int vi1), .val (.int vi2), .val (.int vi3), .val (.int vi4), .val (.int ln), .val (.int la), .val (.int lb), .val (.int lc), .val (.int ((vi4 &&& (255 : Int32)).toUInt32.toUInt16.toUInt32.toInt32)), .val (.ref b1), .val (.ref b5), .val (.ref b9), .unset, .unset] [])) rfl (hb hby at_79) (by decide) (by decide)
  obtain ⟨b10, g10⟩ : ∃ z, z = h9.size := ⟨_, rfl⟩
  rw [← g10] at A10 D10 st10
  have g_b10 : n0 ≤ b10 := Nat.le_trans (Nat.le_trans (Nat.le_trans (Nat.le_trans (Nat.le_trans (Nat.le_trans (Nat.le_trans (Nat.le_trans (Nat.le_trans (Nat.le_trans Z0 E1.1) E2.1) (Keep.of_wr W3).1) p4_0.1) E5.1) E6.1) (Keep.of_wr W7).1) p8_0.1) E9.1) (Nat.le_of_eq g10.symm)
  have sz_b10 : h0.size ≤ b10 := Nat.le_trans K9.1 (Nat.le_of_eq g10.symm)
  have K10 : Keep h0 h10 [] := K9.ext E10
  have F_bytes_b10 : Fld Z h10 b10 "com/example/careful_ledger/carefulledger/json/PlainLine" "bytes" "[B" .null := D10 (Or.inl (wd_39 hw)) (ty := (.array .byte)) (by decide)
  have F_number_b10 : Fld Z h10 b10 "com/example/careful_ledger/carefulledger/json/PlainLine" "number" "Ljava/text/ParsePosition;" .null := D10 (Or.inr (wd_52 hw)) (ty := (.object "java/text/ParsePosition")) (by decide)
  have F_parts_b10 : Fld Z h10 b10 "com/example/careful_ledger/carefulledger/json/PlainLine" "parts" "[B" .null := D10 (Or.inl (wd_54 hw)) (ty := (.array .byte)) (by decide)
  have F_partEnds_b10 : Fld Z h10 b10 "com/example/careful_ledger/carefulledger/json/PlainLine" "partEnds" "[I" .null := D10 (Or.inl (wd_57 hw)) (ty := (.array .int)) (by decide)
  have F_tags_b10 : Fld Z h10 b10 "com/example/careful_ledger/carefulledger/json/PlainLine" "tags" "[Ljava/lang/Object;" .null := D10 (Or.inl (wd_61 hw)) (ty := (.array (.object "java/lang/Object"))) (by decide)
  have F_at_b10 : Fld Z h10 b10 "com/example/careful_ledger/carefulledger/json/PlainLine" "at" "I" (.int (0 : Int32)) := D10 (Or.inl (wd_68 hw)) (ty := .int) (by decide)
  have F_end_b10 : Fld Z h10 b10 "com/example/careful_ledger/carefulledger/json/PlainLine" "end" "I" (.int (0 : Int32)) := D10 (Or.inl (wd_70 hw)) (ty := .int) (by decide)
  have F_shapeReader_b10 : Fld Z h10 b10 "com/example/careful_ledger/carefulledger/json/PlainLine" "shapeReader" "Ljava/lang/Object;" .null := D10 (Or.inl (wd_77 hw)) (ty := (.object "java/lang/Object")) (by decide)
  have F_values_b10 : Fld Z h10 b10 "com/example/careful_ledger/carefulledger/json/PlainLine" "values" "I" (.int (0 : Int32)) := D10 (Or.inl (wd_79 hw)) (ty := .int) (by decide)
  have F_learning_b10 : Fld Z h10 b10 "com/example/careful_ledger/carefulledger/json/PlainLine" "learning" "Z" (.int (0 : Int32)) := D10 (Or.inl (wd_81 hw)) (ty := .boolean) (by decide)
  have F_partStart_b10 : Fld Z h10 b10 "com/example/careful_ledger/carefulledger/json/PlainLine" "partStart" "I" (.int (0 : Int32)) := D10 (Or.inl (wd_83 hw)) (ty := .int) (by decide)
  obtain ⟨_, _, ⟨T11, L11, k11, n11⟩, -, X11, ⟨Lc11, hQ11, l11, y11, z11⟩, st11⟩ := X10.specialBack hx (y := (⟨"com/example/careful_ledger/carefulledger/json/PlainLine", "<init>", "()V"⟩ : MethodName)) rfl hown (mvT hZ (wd_34 hw)) (mvT hZ (wd_35 hw)) (mvT hZ (wd_36 hw)) (by decide) (backOf (W := 1) (rm7 l Z a0 hw [] b10 .null (.int (0 : Int32)) (.int (0 : Int32)) .null .null .null .null (.int (0 : Int32)) (.int (0 : Int32)) (.int (0 : Int32)) .null h10 n0 (Nat.le_trans (Nat.le_trans (Nat.le_trans (Nat.le_trans (Nat.le_trans (Nat.le_trans (Nat.le_trans (Nat.le_trans (Nat.le_trans (Nat.le_trans Z0 E1.1) E2.1) (Keep.of_wr W3).1) p4_0.1) E5.1) E6.1) (Keep.of_wr W7).1) p8_0.1) E9.1) E10.1) A10 F_bytes_b10 F_at_b10 F_end_b10 F_parts_b10 F_partEnds_b10 F_tags_b10 F_shapeReader_b10 F_values_b10 F_learning_b10 F_partStart_b10 g_b10 F_number_b10) hZ (wd_36 hw) (wd_33 hw) (by decide) (by decide)) (g := (mkF m 83 #[.val (.int vi0), .val (.int vi1), .val (.int vi2), .val (.int vi3), .val (.int vi4), .val (.int ln), .val (.int la), .val (.int lb), .val (.int lc), .val (.int ((vi4 &&& (255 : Int32)).toUInt32.toUInt16.toUInt32.toInt32)), .val (.ref b1), .val (.ref b5), .val (.ref b9), .unset, .unset] [(.ref b10), (.ref b10)])) rfl (by rw [hml]; rfl) (Steps.refl _) (a := b10) (argsL := []) (rest := [(.ref b10)]) (lenOf pd_2 rfl) rfl (by show 2 * 0 + _ ≤ _; exact Nat.le_of_eq rfl) (hb hby at_83) (fun _ _ => ⟨rfl, e10, (by decide : 8 + 5 ≤ _), (by decide : 6167 + 98 ≤ _)⟩)
  dsimp only [Pt.U, Pt.locs, Pt.cells, Pt.slots] at X11 l11 y11 z11 st11 hQ11
  subst l11 y11 z11
  obtain ⟨bb11, p11, en11, tg11, kp11, ke11, kt11, rfl, N11q, p11_0, p11_1, p11_2, p11_3, p11_4, p11_5, p11_6, p11_7, p11_8, p11_9, p11_10, p11_11, p11_12, p11_13, p11_14, p11_15, p11_16, p11_17, p11_18, p11_19, p11_20⟩ := hQ11
  have N11 := Fr.app N8 N11q
  have g_p11 : n0 ≤ p11 := Nat.le_trans (Nat.le_trans (Nat.le_trans (Nat.le_trans (Nat.le_trans (Nat.le_trans (Nat.le_trans (Nat.le_trans (Nat.le_trans (Nat.le_trans (Nat.le_trans Z0 E1.1) E2.1) (Keep.of_wr W3).1) p4_0.1) E5.1) E6.1) (Keep.of_wr W7).1) p8_0.1) E9.1) E10.1) p11_1
  have sz_p11 : h0.size ≤ p11 := Nat.le_trans K10.1 p11_1
  have g_en11 : n0 ≤ en11 := Nat.le_trans (Nat.le_trans (Nat.le_trans (Nat.le_trans (Nat.le_trans (Nat.le_trans (Nat.le_trans (Nat.le_trans (Nat.le_trans (Nat.le_trans (Nat.le_trans Z0 E1.1) E2.1) (Keep.of_wr W3).1) p4_0.1) E5.1) E6.1) (Keep.of_wr W7).1) p8_0.1) E9.1) E10.1) p11_2
  have sz_en11 : h0.size ≤ en11 := Nat.le_trans K10.1 p11_2
  have g_tg11 : n0 ≤ tg11 := Nat.le_trans (Nat.le_trans (Nat.le_trans (Nat.le_trans (Nat.le_trans (Nat.le_trans (Nat.le_trans (Nat.le_trans (Nat.le_trans (Nat.le_trans (Nat.le_trans Z0 E1.1) E2.1) (Keep.of_wr W3).1) p4_0.1) E5.1) E6.1) (Keep.of_wr W7).1) p8_0.1) E9.1) E10.1) p11_3
  have sz_tg11 : h0.size ≤ tg11 := Nat.le_trans K10.1 p11_3
  have K11 : Keep h0 T11.heap [] := K10.trans p11_0 (allS (Or.inr sz_b10) all0)
  obtain ⟨cq12, kq12, q12a, q12b, q12c⟩ := isOf hZ rfl (A10.keep p11_0)
  obtain ⟨_, _, ⟨T12, L12, k12, n12⟩, -, X12, ⟨Lc12, hQ12, l12, y12, z12⟩, st12⟩ := X11.virtualBack hx (y := (⟨"com/example/careful_ledger/carefulledger/json/PlainLine", "reset", "([BII)V"⟩ : MethodName)) (z := (⟨"com/example/careful_ledger/carefulledger/json/PlainLine", "reset", "([BII)V"⟩ : MethodName)) hown (mvT hZ (wd_62 hw)) (mvT hZ (wd_63 hw)) (notFace_of_selects (args := #[]) (mvT hZ (wd_65 hw))) (mvT hZ (wd_65 hw)) (mvT hZ (wd_64 hw)) (by decide) (backOf (W := 0) (rm9 l Z a0 hw [] b10 b9 (0 : Int32) (6144 : Int32) (.ref bb11) (.int (0 : Int32)) (.int (0 : Int32)) (.ref p11) (.ref en11) (.ref tg11) .null (.int (0 : Int32)) (.int (0 : Int32)) (.int (0 : Int32)) T11.heap n0 (Nat.le_trans (Nat.le_trans (Nat.le_trans (Nat.le_trans (Nat.le_trans (Nat.le_trans (Nat.le_trans (Nat.le_trans (Nat.le_trans (Nat.le_trans (Nat.le_trans Z0 E1.1) E2.1) (Keep.of_wr W3).1) p4_0.1) E5.1) E6.1) (Keep.of_wr W7).1) p8_0.1) E9.1) E10.1) p11_0.1) (A10.keep p11_0) p11_4 p11_5 p11_6 p11_7 p11_8 p11_9 p11_10 p11_11 p11_12 p11_13 g_b10) hZ (wd_66 hw) (wd_33 hw) (by decide) (by decide)) q12a q12c (g := (mkF m 96 #[.val (.int vi0), .val (.int vi1), .val (.int vi2), .val (.int vi3), .val (.int vi4), .val (.int ln), .val (.int la), .val (.int lb), .val (.int lc), .val (.int ((vi4 &&& (255 : Int32)).toUInt32.toUInt16.toUInt32.toInt32)), .val (.ref b1), .val (.ref b5), .val (.ref b9), .val (.ref b10), .unset] [(.int (6144 : Int32)), (.int (0 : Int32)), (.ref b9), (.ref b10)])) rfl (by rw [hml]; rfl) (Steps.refl _) (argsL := [(.ref b9), (.int (0 : Int32)), (.int (6144 : Int32))]) (rest := []) (lenOf pd_7 rfl) rfl (by show 2 * 0 + _ ≤ _; exact Nat.le_of_eq rfl) (hb hby at_96) (fun _ _ => ⟨rfl, rfl, (by decide : 13 + 0 ≤ _), (by decide : 6265 + 0 ≤ _)⟩)
  dsimp only [Pt.U, Pt.locs, Pt.cells, Pt.slots] at X12 l12 y12 z12 st12 hQ12
  subst l12 y12 z12
  obtain ⟨rfl, N12q, p12_0, p12_1, p12_2, p12_3, p12_4, p12_5, p12_6, p12_7, p12_8, p12_9, p12_10⟩ := hQ12
  have N12 := Fr.app N11 N12q
  have K12 : Keep h0 T12.heap [] := K11.trans p12_0 (allS (Or.inr sz_b10) all0)
  obtain ⟨cq13, kq13, q13a, q13b, q13c⟩ := isOf hZ rfl ((A10.keep p11_0).keep p12_0)
  obtain ⟨_, _, ⟨T13, L13, k13, n13⟩, -, X13, ⟨Lc13, hQ13, l13, y13, z13⟩, st13⟩ := X12.virtualBack hx (y := (⟨"com/example/careful_ledger/carefulledger/json/PlainLine", "beginShape", "()V"⟩ : MethodName)) (z := (⟨"com/example/careful_ledger/carefulledger/json/PlainLine", "beginShape", "()V"⟩ : MethodName)) hown (mvT hZ (wd_71 hw)) (mvT hZ (wd_72 hw)) (notFace_of_selects (args := #[]) (mvT hZ (wd_74 hw))) (mvT hZ (wd_74 hw)) (mvT hZ (wd_73 hw)) (by decide) (backOf (W := 0) (rm10 l Z a0 hw [] b10 (.ref b9) (0 : Int32) (.int (6144 : Int32)) (.ref p11) (.ref en11) (.ref tg11) .null (.int (0 : Int32)) (.int (0 : Int32)) (.int (0 : Int32)) T12.heap n0 (Nat.le_trans (Nat.le_trans (Nat.le_trans (Nat.le_trans (Nat.le_trans (Nat.le_trans (Nat.le_trans (Nat.le_trans (Nat.le_trans (Nat.le_trans (Nat.le_trans (Nat.le_trans Z0 E1.1) E2.1) (Keep.of_wr W3).1) p4_0.1) E5.1) E6.1) (Keep.of_wr W7).1) p8_0.1) E9.1) E10.1) p11_0.1) p12_0.1) ((A10.keep p11_0).keep p12_0) p12_1 p12_2 p12_3 p12_4 p12_5 p12_6 p12_7 p12_8 p12_9 p12_10 g_b10) hZ (wd_75 hw) (wd_33 hw) (by decide) (by decide)) q13a q13c (g := (mkF m 101 #[.val (.int vi0), .val (.int vi1), .val (.int vi2), .val (.int vi3), .val (.int vi4), .val (.int ln), .val (.int la), .val (.int lb), .val (.int lc), .val (.int ((vi4 &&& (255 : Int32)).toUInt32.toUInt16.toUInt32.toInt32)), .val (.ref b1), .val (.ref b5), .val (.ref b9), .val (.ref b10), .unset] [(.ref b10)])) rfl (by rw [hml]; rfl) (Steps.refl _) (argsL := []) (rest := []) (lenOf pd_2 rfl) rfl (by show 2 * 0 + _ ≤ _; exact Nat.le_of_eq rfl) (hb hby at_101) (fun _ _ => ⟨rfl, rfl, (by decide : 13 + 0 ≤ _), (by decide : 6265 + 0 ≤ _)⟩)
  dsimp only [Pt.U, Pt.locs, Pt.cells, Pt.slots] at X13 l13 y13 z13 st13 hQ13
  subst l13 y13 z13
  obtain ⟨rfl, N13q, p13_0, p13_1, p13_2, p13_3, p13_4, p13_5, p13_6, p13_7, p13_8, p13_9, p13_10⟩ := hQ13
  have N13 := Fr.app N12 N13q
  have K13 : Keep h0 T13.heap [] := K12.trans p13_0 (allS (Or.inr sz_b10) all0)
  refine ⟨T13, _, b1, b5, b9, b10, p11, en11, tg11, ln, la, lb, lc, k9, kp11, ke11, kt11, t4, t8, X13, N13, (Nat.le_trans (Nat.le_trans (Nat.le_trans (Nat.le_trans (Nat.le_trans (Nat.le_trans (Nat.le_trans (Nat.le_trans (Nat.le_trans (Nat.le_trans (Nat.le_trans (Nat.le_trans (Nat.le_trans Z0 E1.1) E2.1) (Keep.of_wr W3).1) p4_0.1) E5.1) E6.1) (Keep.of_wr W7).1) p8_0.1) E9.1) E10.1) p11_0.1) p12_0.1) p13_0.1), K13, (((((((((((((O0.ext E1).ext E2).wr W3 g_b2).keep p4_0 (allS g_b1 all0)).ext E5).ext E6).wr W7 g_b6).keep p8_0 (allS g_b5 all0)).ext E9).ext E10).keep p11_0 (allS g_b10 all0)).keep p12_0 (allS g_b10 all0)).keep p13_0 (allS g_b10 all0)), (((((((((p4_1.ext E5).ext E6).wr W7).keep p8_0).ext E9).ext E10).keep p11_0).keep p12_0).keep p13_0), (((((((((p4_2.ext E5).ext E6).other W7 (Or.inl (Nat.ne_of_lt (Nat.lt_of_lt_of_le (p4_1.ext E5).lt (Nat.le_of_eq g6.symm))))).keep p8_0 (ninS (Nat.ne_of_lt (Nat.lt_of_lt_of_le p4_1.lt (Nat.le_of_eq g5.symm))) nin0)).ext E9).ext E10).keep p11_0 (ninS (Nat.ne_of_lt (Nat.lt_of_lt_of_le (((((p4_1.ext E5).ext E6).wr W7).keep p8_0).ext E9).lt (Nat.le_of_eq g10.symm))) nin0)).keep p12_0 (ninS (Nat.ne_of_lt (Nat.lt_of_lt_of_le (((((p4_1.ext E5).ext E6).wr W7).keep p8_0).ext E9).lt (Nat.le_of_eq g10.symm))) nin0)).keep p13_0 (ninS (Nat.ne_of_lt (Nat.lt_of_lt_of_le (((((p4_1.ext E5).ext E6).wr W7).keep p8_0).ext E9).lt (Nat.le_of_eq g10.symm))) nin0)), (((((((((p4_4.ext E5).ext E6).other W7 (Or.inl (Nat.ne_of_lt (Nat.lt_of_lt_of_le (p4_1.ext E5).lt (Nat.le_of_eq g6.symm))))).keep p8_0 (ninS (Nat.ne_of_lt (Nat.lt_of_lt_of_le p4_1.lt (Nat.le_of_eq g5.symm))) nin0)).ext E9).ext E10).keep p11_0 (ninS (Nat.ne_of_lt (Nat.lt_of_lt_of_le (((((p4_1.ext E5).ext E6).wr W7).keep p8_0).ext E9).lt (Nat.le_of_eq g10.symm))) nin0)).keep p12_0 (ninS (Nat.ne_of_lt (Nat.lt_of_lt_of_le (((((p4_1.ext E5).ext E6).wr W7).keep p8_0).ext E9).lt (Nat.le_of_eq g10.symm))) nin0)).keep p13_0 (ninS (Nat.ne_of_lt (Nat.lt_of_lt_of_le (((((p4_1.ext E5).ext E6).wr W7).keep p8_0).ext E9).lt (Nat.le_of_eq g10.symm))) nin0)), (((((p8_1.ext E9).ext E10).keep p11_0).keep p12_0).keep p13_0), (((((p8_2.ext E9).ext E10).keep p11_0 (ninS (Nat.ne_of_lt (Nat.lt_of_lt_of_le (p8_1.ext E9).lt (Nat.le_of_eq g10.symm))) nin0)).keep p12_0 (ninS (Nat.ne_of_lt (Nat.lt_of_lt_of_le (p8_1.ext E9).lt (Nat.le_of_eq g10.symm))) nin0)).keep p13_0 (ninS (Nat.ne_of_lt (Nat.lt_of_lt_of_le (p8_1.ext E9).lt (Nat.le_of_eq g10.symm))) nin0)), (((((p8_4.ext E9).ext E10).keep p11_0 (ninS (Nat.ne_of_lt (Nat.lt_of_lt_of_le (p8_1.ext E9).lt (Nat.le_of_eq g10.symm))) nin0)).keep p12_0 (ninS (Nat.ne_of_lt (Nat.lt_of_lt_of_le (p8_1.ext E9).lt (Nat.le_of_eq g10.symm))) nin0)).keep p13_0 (ninS (Nat.ne_of_lt (Nat.lt_of_lt_of_le (p8_1.ext E9).lt (Nat.le_of_eq g10.symm))) nin0)), ((((V_b9.ext E10).keep p11_0 (ninS (Nat.ne_of_lt (Nat.lt_of_lt_of_le V_b9.lt (Nat.le_of_eq g10.symm))) nin0)).keep p12_0 (ninS (Nat.ne_of_lt (Nat.lt_of_lt_of_le V_b9.lt (Nat.le_of_eq g10.symm))) nin0)).keep p13_0 (ninS (Nat.ne_of_lt (Nat.lt_of_lt_of_le V_b9.lt (Nat.le_of_eq g10.symm))) nin0)), (((A10.keep p11_0).keep p12_0).keep p13_0), ((p11_14.keep p12_0 (ninS (Ne.symm (Nat.ne_of_lt (Nat.lt_of_lt_of_le A10.lt p11_1))) nin0)).keep p13_0 (ninS (Ne.symm (Nat.ne_of_lt (Nat.lt_of_lt_of_le A10.lt p11_1))) nin0)), ((p11_15.keep p12_0 (ninS (Ne.symm (Nat.ne_of_lt (Nat.lt_of_lt_of_le A10.lt p11_2))) nin0)).keep p13_0 (ninS (Ne.symm (Nat.ne_of_lt (Nat.lt_of_lt_of_le A10.lt p11_2))) nin0)), ((p11_16.keep p12_0 (ninS (Ne.symm (Nat.ne_of_lt (Nat.lt_of_lt_of_le A10.lt p11_3))) nin0)).keep p13_0 (ninS (Ne.symm (Nat.ne_of_lt (Nat.lt_of_lt_of_le A10.lt p11_3))) nin0)), p11_17, p13_1, p13_2, p13_3, p13_4, p13_5, p13_6, p13_7, p13_8, p13_9, p13_10, g_b1, sz_b1, g_b5, sz_b5, g_b9, sz_b9, g_b10, sz_b10, g_p11, sz_p11, g_en11, sz_en11, g_tg11, sz_tg11, (Nat.ne_of_lt (Nat.lt_of_lt_of_le p4_1.lt (Nat.le_of_eq g5.symm))), (Nat.ne_of_lt (Nat.lt_of_lt_of_le ((((p4_1.ext E5).ext E6).wr W7).keep p8_0).lt (Nat.le_of_eq g9.symm))), (Nat.ne_of_lt (Nat.lt_of_lt_of_le (((((p4_1.ext E5).ext E6).wr W7).keep p8_0).ext E9).lt (Nat.le_of_eq g10.symm))), (Nat.ne_of_lt (Nat.lt_of_lt_of_le ((((((p4_1.ext E5).ext E6).wr W7).keep p8_0).ext E9).ext E10).lt p11_1)), (Nat.ne_of_lt (Nat.lt_of_lt_of_le ((((((p4_1.ext E5).ext E6).wr W7).keep p8_0).ext E9).ext E10).lt p11_2)), (Nat.ne_of_lt (Nat.lt_of_lt_of_le ((((((p4_1.ext E5).ext E6).wr W7).keep p8_0).ext E9).ext E10).lt p11_3)), (Nat.ne_of_lt (Nat.lt_of_lt_of_le p8_1.lt (Nat.le_of_eq g9.symm))), (Nat.ne_of_lt (Nat.lt_of_lt_of_le (p8_1.ext E9).lt (Nat.le_of_eq g10.symm))), (Nat.ne_of_lt (Nat.lt_of_lt_of_le ((p8_1.ext E9).ext E10).lt p11_1)), (Nat.ne_of_lt (Nat.lt_of_lt_of_le ((p8_1.ext E9).ext E10).lt p11_2)), (Nat.ne_of_lt (Nat.lt_of_lt_of_le ((p8_1.ext E9).ext E10).lt p11_3)), (Nat.ne_of_lt (Nat.lt_of_lt_of_le V_b9.lt (Nat.le_of_eq g10.symm))), (Nat.ne_of_lt (Nat.lt_of_lt_of_le (V_b9.ext E10).lt p11_1)), (Nat.ne_of_lt (Nat.lt_of_lt_of_le (V_b9.ext E10).lt p11_2)), (Nat.ne_of_lt (Nat.lt_of_lt_of_le (V_b9.ext E10).lt p11_3)), (Nat.ne_of_lt (Nat.lt_of_lt_of_le A10.lt p11_1)), (Nat.ne_of_lt (Nat.lt_of_lt_of_le A10.lt p11_2)), (Nat.ne_of_lt (Nat.lt_of_lt_of_le A10.lt p11_3)), p11_18, p11_19, p11_20, e_ln, e_la, e_lb, e_lc, hln, hla, hlb, hlc, fun target kt => ?_⟩
  show Steps p.tables e below (s₁.setTop (mkF m 0 #[.val (.int vi0), .val (.int vi1), .val (.int vi2), .val (.int vi3), .val (.int vi4), .unset, .unset, .unset, .unset, .unset, .unset, .unset, .unset, .unset, .unset] [])) _
  refine XS.iloadN X0.here hx rfl (hb hby at_0) rfl ?_
  show Steps p.tables e below (s₁.setTop (mkF m 1 #[.val (.int vi0), .val (.int vi1), .val (.int vi2), .val (.int vi3), .val (.int vi4), .unset, .unset, .unset, .unset, .unset, .unset, .unset, .unset, .unset, .unset] [(.int vi0)])) _
  refine X0.ldcInt hx hown (mvT hZ (wd_0 hw)) (g := (mkF m 1 #[.val (.int vi0), .val (.int vi1), .val (.int vi2), .val (.int vi3), .val (.int vi4), .unset, .unset, .unset, .unset, .unset, .unset, .unset, .unset, .unset, .unset] [(.int vi0)])) rfl (hb hby at_1) _ ?_
  refine XS.iand X0.here hx rfl (hb hby at_3) rfl ?_
  refine XS.iconst X0.here hx rfl (hb hby at_4) ?_
  show Steps p.tables e below (s₁.setTop (mkF m 5 #[.val (.int vi0), .val (.int vi1), .val (.int vi2), .val (.int vi3), .val (.int vi4), .unset, .unset, .unset, .unset, .unset, .unset, .unset, .unset, .unset, .unset] [(.int (3 : Int32)), (.int (vi0 &&& (2147483647 : Int32)))])) _
  refine iremM X0 hx rfl (hb hby at_5) rfl (by decide) ?_
  refine XS.istore X0.here hx rfl (hb hby at_6) rfl (l' := #[.val (.int vi0), .val (.int vi1), .val (.int vi2), .val (.int vi3), .val (.int vi4), .val (.int ((vi0 &&& (2147483647 : Int32)) % (3 : Int32))), .unset, .unset, .unset, .unset, .unset, .unset, .unset, .unset, .unset]) rfl ?_
  show Steps p.tables e below (s₁.setTop (mkF m 8 #[.val (.int vi0), .val (.int vi1), .val (.int vi2), .val (.int vi3), .val (.int vi4), .val (.int ((vi0 &&& (2147483647 : Int32)) % (3 : Int32))), .unset, .unset, .unset, .unset, .unset, .unset, .unset, .unset, .unset] [])) _
  rw [← e_ln]
  refine XS.iloadN X0.here hx rfl (hb hby at_8) rfl ?_
  refine XS.sipush X0.here hx rfl (hb hby at_9) ?_
  show Steps p.tables e below (s₁.setTop (mkF m 12 #[.val (.int vi0), .val (.int vi1), .val (.int vi2), .val (.int vi3), .val (.int vi4), .val (.int ln), .unset, .unset, .unset, .unset, .unset, .unset, .unset, .unset, .unset] [(.int (2047 : Int32)), (.int vi1)])) _
  refine XS.iand X0.here hx rfl (hb hby at_12) rfl ?_
  refine XS.istore X0.here hx rfl (hb hby at_13) rfl (l' := #[.val (.int vi0), .val (.int vi1), .val (.int vi2), .val (.int vi3), .val (.int vi4), .val (.int ln), .val (.int (vi1 &&& (2047 : Int32))), .unset, .unset, .unset, .unset, .unset, .unset, .unset, .unset]) rfl ?_
  show Steps p.tables e below (s₁.setTop (mkF m 15 #[.val (.int vi0), .val (.int vi1), .val (.int vi2), .val (.int vi3), .val (.int vi4), .val (.int ln), .val (.int (vi1 &&& (2047 : Int32))), .unset, .unset, .unset, .unset, .unset, .unset, .unset, .unset] [])) _
  rw [← e_la]
  refine XS.iloadN X0.here hx rfl (hb hby at_15) rfl ?_
  refine XS.sipush X0.here hx rfl (hb hby at_16) ?_
  show Steps p.tables e below (s₁.setTop (mkF m 19 #[.val (.int vi0), .val (.int vi1), .val (.int vi2), .val (.int vi3), .val (.int vi4), .val (.int ln), .val (.int la), .unset, .unset, .unset, .unset, .unset, .unset, .unset, .unset] [(.int (2047 : Int32)), (.int vi2)])) _
  refine XS.iand X0.here hx rfl (hb hby at_19) rfl ?_
  refine XS.istore X0.here hx rfl (hb hby at_20) rfl (l' := #[.val (.int vi0), .val (.int vi1), .val (.int vi2), .val (.int vi3), .val (.int vi4), .val (.int ln), .val (.int la), .val (.int (vi2 &&& (2047 : Int32))), .unset, .unset, .unset, .unset, .unset, .unset, .unset]) rfl ?_
  show Steps p.tables e below (s₁.setTop (mkF m 22 #[.val (.int vi0), .val (.int vi1), .val (.int vi2), .val (.int vi3), .val (.int vi4), .val (.int ln), .val (.int la), .val (.int (vi2 &&& (2047 : Int32))), .unset, .unset, .unset, .unset, .unset, .unset, .unset] [])) _
  rw [← e_lb]
  refine XS.iloadN X0.here hx rfl (hb hby at_22) rfl ?_
  refine XS.sipush X0.here hx rfl (hb hby at_23) ?_
  show Steps p.tables e below (s₁.setTop (mkF m 26 #[.val (.int vi0), .val (.int vi1), .val (.int vi2), .val (.int vi3), .val (.int vi4), .val (.int ln), .val (.int la), .val (.int lb), .unset, .unset, .unset, .unset, .unset, .unset, .unset] [(.int (2047 : Int32)), (.int vi3)])) _
  refine XS.iand X0.here hx rfl (hb hby at_26) rfl ?_
  refine XS.istore X0.here hx rfl (hb hby at_27) rfl (l' := #[.val (.int vi0), .val (.int vi1), .val (.int vi2), .val (.int vi3), .val (.int vi4), .val (.int ln), .val (.int la), .val (.int lb), .val (.int (vi3 &&& (2047 : Int32))), .unset, .unset, .unset, .unset, .unset, .unset]) rfl ?_
  show Steps p.tables e below (s₁.setTop (mkF m 29 #[.val (.int vi0), .val (.int vi1), .val (.int vi2), .val (.int vi3), .val (.int vi4), .val (.int ln), .val (.int la), .val (.int lb), .val (.int (vi3 &&& (2047 : Int32))), .unset, .unset, .unset, .unset, .unset, .unset] [])) _
  rw [← e_lc]
  refine XS.iload X0.here hx rfl (hb hby at_29) rfl ?_
  refine XS.sipush X0.here hx rfl (hb hby at_31) ?_
  show Steps p.tables e below (s₁.setTop (mkF m 34 #[.val (.int vi0), .val (.int vi1), .val (.int vi2), .val (.int vi3), .val (.int vi4), .val (.int ln), .val (.int la), .val (.int lb), .val (.int lc), .unset, .unset, .unset, .unset, .unset, .unset] [(.int (255 : Int32)), (.int vi4)])) _
  refine XS.iand X0.here hx rfl (hb hby at_34) rfl ?_
  refine XS.i2c X0.here hx rfl (hb hby at_35) rfl ?_
  refine XS.istore X0.here hx rfl (hb hby at_36) rfl (l' := #[.val (.int vi0), .val (.int vi1), .val (.int vi2), .val (.int vi3), .val (.int vi4), .val (.int ln), .val (.int la), .val (.int lb), .val (.int lc), .val (.int ((vi4 &&& (255 : Int32)).toUInt32.toUInt16.toUInt32.toInt32)), .unset, .unset, .unset, .unset, .unset]) rfl ?_
  show Steps p.tables e below (s₁.setTop (mkF m 38 #[.val (.int vi0), .val (.int vi1), .val (.int vi2), .val (.int vi3), .val (.int vi4), .val (.int ln), .val (.int la), .val (.int lb), .val (.int lc), .val (.int ((vi4 &&& (255 : Int32)).toUInt32.toUInt16.toUInt32.toInt32)), .unset, .unset, .unset, .unset, .unset] [])) _
  refine st1 _ ?_
  show Steps p.tables e below (T1.setTop (mkF m 41 #[.val (.int vi0), .val (.int vi1), .val (.int vi2), .val (.int vi3), .val (.int vi4), .val (.int ln), .val (.int la), .val (.int lb), .val (.int lc), .val (.int ((vi4 &&& (255 : Int32)).toUInt32.toUInt16.toUInt32.toInt32)), .unset, .unset, .unset, .unset, .unset] [(.ref b1)])) _
  refine XS.dup X1.here hx rfl (hb hby at_41) rfl rfl ?_
  refine XS.iconst X1.here hx rfl (hb hby at_42) ?_
  show Steps p.tables e below (T1.setTop (mkF m 43 #[.val (.int vi0), .val (.int vi1), .val (.int vi2), .val (.int vi3), .val (.int vi4), .val (.int ln), .val (.int la), .val (.int lb), .val (.int lc), .val (.int ((vi4 &&& (255 : Int32)).toUInt32.toUInt16.toUInt32.toInt32)), .unset, .unset, .unset, .unset, .unset] [(.int (1 : Int32)), (.ref b1), (.ref b1)])) _
  refine st2 _ ?_
  refine XS.dup X2.here hx rfl (hb hby at_45) rfl rfl ?_
  show Steps p.tables e below (T2.setTop (mkF m 46 #[.val (.int vi0), .val (.int vi1), .val (.int vi2), .val (.int vi3), .val (.int vi4), .val (.int ln), .val (.int la), .val (.int lb), .val (.int lc), .val (.int ((vi4 &&& (255 : Int32)).toUInt32.toUInt16.toUInt32.toInt32)), .unset, .unset, .unset, .unset, .unset] [(.ref b2), (.ref b2), (.ref b1), (.ref b1)])) _
  refine XS.iconst X2.here hx rfl (hb hby at_46) ?_
  refine XS.iload X2.here hx rfl (hb hby at_47) rfl ?_
  show Steps p.tables e below (T2.setTop (mkF m 49 #[.val (.int vi0), .val (.int vi1), .val (.int vi2), .val (.int vi3), .val (.int vi4), .val (.int ln), .val (.int la), .val (.int lb), .val (.int lc), .val (.int ((vi4 &&& (255 : Int32)).toUInt32.toUInt16.toUInt32.toInt32)), .unset, .unset, .unset, .unset, .unset] [(.int ((vi4 &&& (255 : Int32)).toUInt32.toUInt16.toUInt32.toInt32)), (.int (0 : Int32)), (.ref b2), (.ref b2), (.ref b1), (.ref b1)])) _
  refine st3 _ ?_
  show Steps p.tables e below (T3.setTop (mkF m 50 #[.val (.int vi0), .val (.int vi1), .val (.int vi2), .val (.int vi3), .val (.int vi4), .val (.int ln), .val (.int la), .val (.int lb), .val (.int lc), .val (.int ((vi4 &&& (255 : Int32)).toUInt32.toUInt16.toUInt32.toInt32)), .unset, .unset, .unset, .unset, .unset] [(.ref b2), (.ref b1), (.ref b1)])) _
  refine st4.trans ?_
  show Steps p.tables e below (T4.setTop (mkF m 53 #[.val (.int vi0), .val (.int vi1), .val (.int vi2), .val (.int vi3), .val (.int vi4), .val (.int ln), .val (.int la), .val (.int lb), .val (.int lc), .val (.int ((vi4 &&& (255 : Int32)).toUInt32.toUInt16.toUInt32.toInt32)), .unset, .unset, .unset, .unset, .unset] [(.ref b1)])) _
  refine XS.astore X4.here hx rfl (hb hby at_53) rfl rfl (l' := #[.val (.int vi0), .val (.int vi1), .val (.int vi2), .val (.int vi3), .val (.int vi4), .val (.int ln), .val (.int la), .val (.int lb), .val (.int lc), .val (.int ((vi4 &&& (255 : Int32)).toUInt32.toUInt16.toUInt32.toInt32)), .val (.ref b1), .unset, .unset, .unset, .unset]) rfl ?_
  show Steps p.tables e below (T4.setTop (mkF m 55 #[.val (.int vi0), .val (.int vi1), .val (.int vi2), .val (.int vi3), .val (.int vi4), .val (.int ln), .val (.int la), .val (.int lb), .val (.int lc), .val (.int ((vi4 &&& (255 : Int32)).toUInt32.toUInt16.toUInt32.toInt32)), .val (.ref b1), .unset, .unset, .unset, .unset] [])) _
  refine st5 _ ?_
  refine XS.dup X5.here hx rfl (hb hby at_58) rfl rfl ?_
  refine XS.iconst X5.here hx rfl (hb hby at_59) ?_
  show Steps p.tables e below (T5.setTop (mkF m 60 #[.val (.int vi0), .val (.int vi1), .val (.int vi2), .val (.int vi3), .val (.int vi4), .val (.int ln), .val (.int la), .val (.int lb), .val (.int lc), .val (.int ((vi4 &&& (255 : Int32)).toUInt32.toUInt16.toUInt32.toInt32)), .val (.ref b1), .unset, .unset, .unset, .unset] [(.int (1 : Int32)), (.ref b5), (.ref b5)])) _
  refine st6 _ ?_
  refine XS.dup X6.here hx rfl (hb hby at_62) rfl rfl ?_
  refine XS.iconst X6.here hx rfl (hb hby at_63) ?_
  refine XS.iload X6.here hx rfl (hb hby at_64) rfl ?_
  show Steps p.tables e below (T6.setTop (mkF m 66 #[.val (.int vi0), .val (.int vi1), .val (.int vi2), .val (.int vi3), .val (.int vi4), .val (.int ln), .val (.int la), .val (.int lb), .val (.int lc), .val (.int ((vi4 &&& (255 : Int32)).toUInt32.toUInt16.toUInt32.toInt32)), .val (.ref b1), .unset, .unset, .unset, .unset] [(.int ((vi4 &&& (255 : Int32)).toUInt32.toUInt16.toUInt32.toInt32)), (.int (0 : Int32)), (.ref b6), (.ref b6), (.ref b5), (.ref b5)])) _
  refine st7 _ ?_
  show Steps p.tables e below (T7.setTop (mkF m 67 #[.val (.int vi0), .val (.int vi1), .val (.int vi2), .val (.int vi3), .val (.int vi4), .val (.int ln), .val (.int la), .val (.int lb), .val (.int lc), .val (.int ((vi4 &&& (255 : Int32)).toUInt32.toUInt16.toUInt32.toInt32)), .val (.ref b1), .unset, .unset, .unset, .unset] [(.ref b6), (.ref b5), (.ref b5)])) _
  refine st8.trans ?_
  refine XS.astore X8.here hx rfl (hb hby at_70) rfl rfl (l' := #[.val (.int vi0), .val (.int vi1), .val (.int vi2), .val (.int vi3), .val (.int vi4), .val (.int ln), .val (.int la), .val (.int lb), .val (.int lc), .val (.int ((vi4 &&& (255 : Int32)).toUInt32.toUInt16.toUInt32.toInt32)), .val (.ref b1), .val (.ref b5), .unset, .unset, .unset]) rfl ?_
  refine XS.sipush X8.here hx rfl (hb hby at_72) ?_
  show Steps p.tables e below (T8.setTop (mkF m 75 #[.val (.int vi0), .val (.int vi1), .val (.int vi2), .val (.int vi3), .val (.int vi4), .val (.int ln), .val (.int la), .val (.int lb), .val (.int lc), .val (.int ((vi4 &&& (255 : Int32)).toUInt32.toUInt16.toUInt32.toInt32)), .val (.ref b1), .val (.ref b5), .unset, .unset, .unset] [(.int (6144 : Int32))])) _
  refine st9 _ ?_
  refine XS.astore X9.here hx rfl (hb hby at_77) rfl rfl (l' := #[.val (.int vi0), .val (.int vi1), .val (.int vi2), .val (.int vi3), .val (.int vi4), .val (.int ln), .val (.int la), .val (.int lb), .val (.int lc), .val (.int ((vi4 &&& (255 : Int32)).toUInt32.toUInt16.toUInt32.toInt32)), .val (.ref b1), .val (.ref b5), .val (.ref b9), .unset, .unset]) rfl ?_
  show Steps p.tables e below (T9.setTop (mkF m 79 #[.val (.int vi0), .val (.int vi1), .val (.int vi2), .val (.int vi3), .val (.int vi4), .val (.int ln), .val (.int la), .val (.int lb), .val (.int lc), .val (.int ((vi4 &&& (255 : Int32)).toUInt32.toUInt16.toUInt32.toInt32)), .val (.ref b1), .val (.ref b5), .val (.ref b9), .unset, .unset] [])) _
  refine st10 _ ?_
  refine XS.dup X10.here hx rfl (hb hby at_82) rfl rfl ?_
  show Steps p.tables e below (T10.setTop (mkF m 83 #[.val (.int vi0), .val (.int vi1), .val (.int vi2), .val (.int vi3), .val (.int vi4), .val (.int ln), .val (.int la), .val (.int lb), .val (.int lc), .val (.int ((vi4 &&& (255 : Int32)).toUInt32.toUInt16.toUInt32.toInt32)), .val (.ref b1), .val (.ref b5), .val (.ref b9), .unset, .unset] [(.ref b10), (.ref b10)])) _
  refine st11.trans ?_
  refine XS.astore X11.here hx rfl (hb hby at_86) rfl rfl (l' := #[.val (.int vi0), .val (.int vi1), .val (.int vi2), .val (.int vi3), .val (.int vi4), .val (.int ln), .val (.int la), .val (.int lb), .val (.int lc), .val (.int ((vi4 &&& (255 : Int32)).toUInt32.toUInt16.toUInt32.toInt32)), .val (.ref b1), .val (.ref b5), .val (.ref b9), .val (.ref b10), .unset]) rfl ?_
  refine XS.aload X11.here hx rfl (hb hby at_88) rfl rfl ?_
  refine XS.aload X11.here hx rfl (hb hby at_90) rfl rfl ?_
  show Steps p.tables e below (T11.setTop (mkF m 92 #[.val (.int vi0), .val (.int vi1), .val (.int vi2), .val (.int vi3), .val (.int vi4), .val (.int ln), .val (.int la), .val (.int lb), .val (.int lc), .val (.int ((vi4 &&& (255 : Int32)).toUInt32.toUInt16.toUInt32.toInt32)), .val (.ref b1), .val (.ref b5), .val (.ref b9), .val (.ref b10), .unset] [(.ref b9), (.ref b10)])) _
  refine XS.iconst X11.here hx rfl (hb hby at_92) ?_
  refine XS.sipush X11.here hx rfl (hb hby at_93) ?_
  show Steps p.tables e below (T11.setTop (mkF m 96 #[.val (.int vi0), .val (.int vi1), .val (.int vi2), .val (.int vi3), .val (.int vi4), .val (.int ln), .val (.int la), .val (.int lb), .val (.int lc), .val (.int ((vi4 &&& (255 : Int32)).toUInt32.toUInt16.toUInt32.toInt32)), .val (.ref b1), .val (.ref b5), .val (.ref b9), .val (.ref b10), .unset] [(.int (6144 : Int32)), (.int (0 : Int32)), (.ref b9), (.ref b10)])) _
  refine st12.trans ?_
  refine XS.aload X12.here hx rfl (hb hby at_99) rfl rfl ?_
  show Steps p.tables e below (T12.setTop (mkF m 101 #[.val (.int vi0), .val (.int vi1), .val (.int vi2), .val (.int vi3), .val (.int vi4), .val (.int ln), .val (.int la), .val (.int lb), .val (.int lc), .val (.int ((vi4 &&& (255 : Int32)).toUInt32.toUInt16.toUInt32.toInt32)), .val (.ref b1), .val (.ref b5), .val (.ref b9), .val (.ref b10), .unset] [(.ref b10)])) _
  refine st13.trans ?_
  exact kt
theorem wd_84 {Z : State} {a0 : Array Value} (hw : ∀ d ∈ tables_1, d.before a0 Z = true) : ((Jvm.Cond.methodLink "com/example/careful_ledger/carefulledger/json/PlainLineShapeValuesPinLaw" (23 : Nat) ({ cls := "com/example/careful_ledger/carefulledger/json/PlainLine", name := "moveTo", desc := "(I)V" } : Jvm.MethodName))).before a0 Z = true := hw _ (List.mem_of_getElem? (i := 84) rfl)
theorem wd_88 {Z : State} {a0 : Array Value} (hw : ∀ d ∈ tables_1, d.before a0 Z = true) : ((Jvm.Cond.code ({ cls := "com/example/careful_ledger/carefulledger/json/PlainLine", name := "moveTo", desc := "(I)V" } : Jvm.MethodName) prog_58_method_4_code (2 : Nat) (Option.none : Option Jvm.ClassFile.FieldType))).before a0 Z = true := hw _ (List.mem_of_getElem? (i := 88) rfl)
theorem wd_87 {Z : State} {a0 : Array Value} (hw : ∀ d ∈ tables_1, d.before a0 Z = true) : ((Jvm.Cond.selects "com/example/careful_ledger/carefulledger/json/PlainLine" ({ cls := "com/example/careful_ledger/carefulledger/json/PlainLine", name := "moveTo", desc := "(I)V" } : Jvm.MethodName) ({ cls := "com/example/careful_ledger/carefulledger/json/PlainLine", name := "moveTo", desc := "(I)V" } : Jvm.MethodName))).before a0 Z = true := hw _ (List.mem_of_getElem? (i := 87) rfl)
theorem wd_85 {Z : State} {a0 : Array Value} (hw : ∀ d ∈ tables_1, d.before a0 Z = true) : ((Jvm.Cond.declares ({ cls := "com/example/careful_ledger/carefulledger/json/PlainLine", name := "moveTo", desc := "(I)V" } : Jvm.MethodName))).before a0 Z = true := hw _ (List.mem_of_getElem? (i := 85) rfl)
theorem wd_86 {Z : State} {a0 : Array Value} (hw : ∀ d ∈ tables_1, d.before a0 Z = true) : ((Jvm.Cond.instanceMethod ({ cls := "com/example/careful_ledger/carefulledger/json/PlainLine", name := "moveTo", desc := "(I)V" } : Jvm.MethodName))).before a0 Z = true := hw _ (List.mem_of_getElem? (i := 86) rfl)
theorem wd_89 {Z : State} {a0 : Array Value} (hw : ∀ d ∈ tables_1, d.before a0 Z = true) : ((Jvm.Cond.methodLink "com/example/careful_ledger/carefulledger/json/PlainLineShapeValuesPinLaw" (34 : Nat) ({ cls := "com/example/careful_ledger/carefulledger/json/PlainLine", name := "endShape", desc := "(Ljava/lang/Object;)V" } : Jvm.MethodName))).before a0 Z = true := hw _ (List.mem_of_getElem? (i := 89) rfl)
theorem own_ar0 (a : Int32) (b : Int32) (c : Int32) (ha : 0 ≤ a.toInt ∧ a.toInt ≤ 2047) (hb : 0 ≤ b.toInt ∧ b.toInt ≤ 2047) (hc : 0 ≤ c.toInt ∧ c.toInt ≤ 2047) : ¬ (((a + b) + c) - (0 : Int32)) < 0 := by
  have l0 : (0 : Int32).toInt = 0 := by decide
  have f0 := c_iadd a b
  have r0 := rng32 (a + b)
  have f1 := c_iadd (a + b) c
  have r1 := rng32 ((a + b) + c)
  have f2 := c_isub ((a + b) + c) (0 : Int32)
  have r2 := rng32 (((a + b) + c) - (0 : Int32))
  have r_a := rng32 a
  have r_b := rng32 b
  have r_c := rng32 c
  simp only [Int32.lt_iff_toInt_lt, Int32.toNatClampNeg, ← Int32.toInt_inj, l0] at *
  omega
theorem own_ar1 (a : Int32) (b : Int32) (c : Int32) (ha : 0 ≤ a.toInt ∧ a.toInt ≤ 2047) (hb : 0 ≤ b.toInt ∧ b.toInt ≤ 2047) (hc : 0 ≤ c.toInt ∧ c.toInt ≤ 2047) (hh : ¬ ((4096 : Int32) < ((a + b) + c))) : (0 : Int32).toNatClampNeg + (((a + b) + c) - (0 : Int32)).toNatClampNeg ≤ (6144 : Int32).toNatClampNeg := by
  have l0 : (0 : Int32).toInt = 0 := by decide
  have l4096 : (4096 : Int32).toInt = 4096 := by decide
  have l6144 : (6144 : Int32).toInt = 6144 := by decide
  have f0 := c_iadd a b
  have r0 := rng32 (a + b)
  have f1 := c_iadd (a + b) c
  have r1 := rng32 ((a + b) + c)
  have f2 := c_isub ((a + b) + c) (0 : Int32)
  have r2 := rng32 (((a + b) + c) - (0 : Int32))
  have r_a := rng32 a
  have r_b := rng32 b
  have r_c := rng32 c
  simp only [Int32.lt_iff_toInt_lt, Int32.toNatClampNeg, ← Int32.toInt_inj, l0, l4096, l6144] at *
  omega
theorem own_ar2 (a : Int32) (b : Int32) (c : Int32) (ha : 0 ≤ a.toInt ∧ a.toInt ≤ 2047) (hb : 0 ≤ b.toInt ∧ b.toInt ≤ 2047) (hc : 0 ≤ c.toInt ∧ c.toInt ≤ 2047) : (0 : Int32).toNatClampNeg + (((a + b) + c) - (0 : Int32)).toNatClampNeg ≤ ((0 : Int32) + (((a + b) + c) - (0 : Int32))).toNatClampNeg := by
  have l0 : (0 : Int32).toInt = 0 := by decide
  have f0 := c_iadd a b
  have r0 := rng32 (a + b)
  have f1 := c_iadd (a + b) c
  have r1 := rng32 ((a + b) + c)
  have f2 := c_isub ((a + b) + c) (0 : Int32)
  have r2 := rng32 (((a + b) + c) - (0 : Int32))
  have f3 := c_iadd (0 : Int32) (((a + b) + c) - (0 : Int32))
  have r3 := rng32 ((0 : Int32) + (((a + b) + c) - (0 : Int32)))
  have r_a := rng32 a
  have r_b := rng32 b
  have r_c := rng32 c
  simp only [Int32.lt_iff_toInt_lt, Int32.toNatClampNeg, ← Int32.toInt_inj, l0] at *
  omega
theorem own_ar3 (a : Int32) (b : Int32) (c : Int32) (ha : 0 ≤ a.toInt ∧ a.toInt ≤ 2047) (hb : 0 ≤ b.toInt ∧ b.toInt ≤ 2047) (hc : 0 ≤ c.toInt ∧ c.toInt ≤ 2047) (hh : ¬ ((4096 : Int32) < ((a + b) + c))) : ¬ ((0 : Int32) + (((a + b) + c) - (0 : Int32))) < 0 := by
  have l0 : (0 : Int32).toInt = 0 := by decide
  have l4096 : (4096 : Int32).toInt = 4096 := by decide
  have f0 := c_iadd a b
  have r0 := rng32 (a + b)
  have f1 := c_iadd (a + b) c
  have r1 := rng32 ((a + b) + c)
  have f2 := c_isub ((a + b) + c) (0 : Int32)
  have r2 := rng32 (((a + b) + c) - (0 : Int32))
  have f3 := c_iadd (0 : Int32) (((a + b) + c) - (0 : Int32))
  have r3 := rng32 ((0 : Int32) + (((a + b) + c) - (0 : Int32)))
  have r_a := rng32 a
  have r_b := rng32 b
  have r_c := rng32 c
  simp only [Int32.lt_iff_toInt_lt, Int32.toNatClampNeg, ← Int32.toInt_inj, l0, l4096] at *
  omega
theorem own_ar4 (a : Int32) (b : Int32) (c : Int32) (ha : 0 ≤ a.toInt ∧ a.toInt ≤ 2047) (hb : 0 ≤ b.toInt ∧ b.toInt ≤ 2047) (hc : 0 ≤ c.toInt ∧ c.toInt ≤ 2047) (hh : ¬ ((4096 : Int32) < ((a + b) + c))) : ¬ ((4096 : Int32) < ((0 : Int32) + (((a + b) + c) - (0 : Int32)))) := by
  have l0 : (0 : Int32).toInt = 0 := by decide
  have l4096 : (4096 : Int32).toInt = 4096 := by decide
  have f0 := c_iadd a b
  have r0 := rng32 (a + b)
  have f1 := c_iadd (a + b) c
  have r1 := rng32 ((a + b) + c)
  have f2 := c_isub ((a + b) + c) (0 : Int32)
  have r2 := rng32 (((a + b) + c) - (0 : Int32))
  have f3 := c_iadd (0 : Int32) (((a + b) + c) - (0 : Int32))
  have r3 := rng32 ((0 : Int32) + (((a + b) + c) - (0 : Int32)))
  have r_a := rng32 a
  have r_b := rng32 b
  have r_c := rng32 c
  simp only [Int32.lt_iff_toInt_lt, Int32.toNatClampNeg, ← Int32.toInt_inj, l0, l4096] at *
  omega
theorem wd_93 {Z : State} {a0 : Array Value} (hw : ∀ d ∈ tables_1, d.before a0 Z = true) : ((Jvm.Cond.code ({ cls := "com/example/careful_ledger/carefulledger/json/PlainLine", name := "endShape", desc := "(Ljava/lang/Object;)V" } : Jvm.MethodName) prog_58_method_8_code (2 : Nat) (Option.none : Option Jvm.ClassFile.FieldType))).before a0 Z = true := hw _ (List.mem_of_getElem? (i := 93) rfl)
theorem pd_8 : parseMethodDescriptor "(Ljava/lang/Object;)V" = some ⟨[(.object "java/lang/Object")], none⟩ := by decide +kernel
theorem wd_92 {Z : State} {a0 : Array Value} (hw : ∀ d ∈ tables_1, d.before a0 Z = true) : ((Jvm.Cond.selects "com/example/careful_ledger/carefulledger/json/PlainLine" ({ cls := "com/example/careful_ledger/carefulledger/json/PlainLine", name := "endShape", desc := "(Ljava/lang/Object;)V" } : Jvm.MethodName) ({ cls := "com/example/careful_ledger/carefulledger/json/PlainLine", name := "endShape", desc := "(Ljava/lang/Object;)V" } : Jvm.MethodName))).before a0 Z = true := hw _ (List.mem_of_getElem? (i := 92) rfl)
theorem wd_90 {Z : State} {a0 : Array Value} (hw : ∀ d ∈ tables_1, d.before a0 Z = true) : ((Jvm.Cond.declares ({ cls := "com/example/careful_ledger/carefulledger/json/PlainLine", name := "endShape", desc := "(Ljava/lang/Object;)V" } : Jvm.MethodName))).before a0 Z = true := hw _ (List.mem_of_getElem? (i := 90) rfl)
theorem wd_91 {Z : State} {a0 : Array Value} (hw : ∀ d ∈ tables_1, d.before a0 Z = true) : ((Jvm.Cond.instanceMethod ({ cls := "com/example/careful_ledger/carefulledger/json/PlainLine", name := "endShape", desc := "(Ljava/lang/Object;)V" } : Jvm.MethodName))).before a0 Z = true := hw _ (List.mem_of_getElem? (i := 91) rfl)
theorem wd_102 {Z : State} {a0 : Array Value} (hw : ∀ d ∈ tables_1, d.before a0 Z = true) : ((Jvm.Cond.methodLink "com/example/careful_ledger/carefulledger/json/PlainLineShapeValuesPinLaw" (37 : Nat) ({ cls := "com/example/careful_ledger/carefulledger/json/PlainLine", name := "shapeValues", desc := "(Ljava/lang/Object;)I" } : Jvm.MethodName))).before a0 Z = true := hw _ (List.mem_of_getElem? (i := 102) rfl)
theorem wd_106 {Z : State} {a0 : Array Value} (hw : ∀ d ∈ tables_1, d.before a0 Z = true) : ((Jvm.Cond.code ({ cls := "com/example/careful_ledger/carefulledger/json/PlainLine", name := "shapeValues", desc := "(Ljava/lang/Object;)I" } : Jvm.MethodName) prog_58_method_9_code (2 : Nat) (Option.some Jvm.ClassFile.FieldType.int))).before a0 Z = true := hw _ (List.mem_of_getElem? (i := 106) rfl)
theorem pd_10 : parseMethodDescriptor "(Ljava/lang/Object;)I" = some ⟨[(.object "java/lang/Object")], some .int⟩ := by decide +kernel
theorem wd_105 {Z : State} {a0 : Array Value} (hw : ∀ d ∈ tables_1, d.before a0 Z = true) : ((Jvm.Cond.selects "com/example/careful_ledger/carefulledger/json/PlainLine" ({ cls := "com/example/careful_ledger/carefulledger/json/PlainLine", name := "shapeValues", desc := "(Ljava/lang/Object;)I" } : Jvm.MethodName) ({ cls := "com/example/careful_ledger/carefulledger/json/PlainLine", name := "shapeValues", desc := "(Ljava/lang/Object;)I" } : Jvm.MethodName))).before a0 Z = true := hw _ (List.mem_of_getElem? (i := 105) rfl)
theorem wd_103 {Z : State} {a0 : Array Value} (hw : ∀ d ∈ tables_1, d.before a0 Z = true) : ((Jvm.Cond.declares ({ cls := "com/example/careful_ledger/carefulledger/json/PlainLine", name := "shapeValues", desc := "(Ljava/lang/Object;)I" } : Jvm.MethodName))).before a0 Z = true := hw _ (List.mem_of_getElem? (i := 103) rfl)
theorem wd_104 {Z : State} {a0 : Array Value} (hw : ∀ d ∈ tables_1, d.before a0 Z = true) : ((Jvm.Cond.instanceMethod ({ cls := "com/example/careful_ledger/carefulledger/json/PlainLine", name := "shapeValues", desc := "(Ljava/lang/Object;)I" } : Jvm.MethodName))).before a0 Z = true := hw _ (List.mem_of_getElem? (i := 104) rfl)
theorem pn_com_example_careful_ledger_carefulledger_json_PlainLineShapeValuesPinLaw : plainName "com/example/careful_ledger/carefulledger/json/PlainLineShapeValuesPinLaw" = true := by first | (simp [plainName, overriddenIn]; done) | decide +kernel
theorem ef_0_n0k (m : MethodId) (x0 : Int32) (x1 : Int32) (x2 : Int32) (x3 : Int32) (x4 : Int32) : entryFrame m #[(.int x0), (.int x1), (.int x2), (.int x3), (.int x4)] maxLocals = mkF m 0 #[.val (.int x0), .val (.int x1), .val (.int x2), .val (.int x3), .val (.int x4), .unset, .unset, .unset, .unset, .unset, .unset, .unset, .unset, .unset, .unset] [] := by first | (simp [entryFrame, mkF, argsToLocals, Value.category, maxLocals]; done) | rfl
def Q0_n0k (Z : State) (vi0 : Int32) (vi1 : Int32) (vi2 : Int32) (vi3 : Int32) (vi4 : Int32) (w_COMPACT_STRINGS : Int32) (h0 : Heap) (n0 : Nat) (v : Option Value) (h : Heap) (L : List Loc) : Prop := v = some (.int (1 : Int32)) ∧ Fr n0 L
set_option maxRecDepth 65536 in
set_option maxHeartbeats 40000000 in
theorem rm0_n0k (l : Launch) (Z : State) (a0 : Array Value) (hw : ∀ d ∈ tables_1, d.before a0 Z = true) (ws : List Jvm.Cond) (vi0 : Int32) (vi1 : Int32) (vi2 : Int32) (vi3 : Int32) (vi4 : Int32) (w_COMPACT_STRINGS : Int32) (h0 : Heap) (n0 : Nat) (Z0 : n0 ≤ h0.size) (k188 : ¬ ((4096 : Int32) < (((vi1 &&& (2047 : Int32)) + (vi2 &&& (2047 : Int32))) + (vi3 &&& (2047 : Int32))))) (k107 : ((vi0 &&& (2147483647 : Int32)) % (3 : Int32)) < (1 : Int32)) (k132 : ((vi0 &&& (2147483647 : Int32)) % (3 : Int32)) < (2 : Int32)) (S_COMPACT_STRINGS : Sta Z Z.heap "java/lang/String" "COMPACT_STRINGS" "Z" (.int w_COMPACT_STRINGS)) (hG : ¬ (w_COMPACT_STRINGS = (0 : Int32))) (O0 : Old Z n0 h0) :
    MetFree l x (head1 (Jvm.Cond.code x code maxLocals ret :: ws) room_1) (fun a U => a = #[(.int vi0), (.int vi1), (.int vi2), (.int vi3), (.int vi4)] ∧ Z.Warmed39 U.vm ∧ U.heap = h0) (fun _ _ _ _ _ => True) (fun _ U o U' => ∃ v L, o = .returned v ∧ Q0_n0k Z vi0 vi1 vi2 vi3 vi4 w_COMPACT_STRINGS h0 n0 v U'.heap L ∧ FrameEnd U o U' L room_1.cells room_1.slots) := by
  refine MetFree.of_bodySF (plainFor_of_name pn_com_example_careful_ledger_carefulledger_json_PlainLineShapeValuesPinLaw) hisR ?_
  intro p e s m args below meth c s₁ Bd hml0 hP hK
  obtain ⟨rfl, hZ, hh⟩ := hP
  have hx := Bd.exec
  have hby := Bd.bytes
  have hml : c.maxLocals = 15 := hml0
  have hown : s.vm.findClass "com/example/careful_ledger/carefulledger/json/PlainLineShapeValuesPinLaw" = some m.cls := findClass_of_methodNamed Bd.named
  have hnm := (name_of_methodNamed Bd.named Bd.method).1
  have X0 : Stand p l e room_1 s m #[(.int vi0), (.int vi1), (.int vi2), (.int vi3), (.int vi4)] below meth c s₁ [] 0 0 := Stand.of_body Bd
  have e0 : s₁.heap = h0 := by rw [← hh, Bd.state]; rfl
  have N0 := Fr.nil n0
  have pre0 : ∀ t, Steps p.tables e below (s₁.setTop (mkF m 0 #[.val (.int vi0), .val (.int vi1), .val (.int vi2), .val (.int vi3), .val (.int vi4), .unset, .unset, .unset, .unset, .unset, .unset, .unset, .unset, .unset, .unset] [])) t → Steps p.tables e below (s₁.setTop (entryFrame m #[(.int vi0), (.int vi1), (.int vi2), (.int vi3), (.int vi4)] maxLocals)) t := fun t k => castTop (ef_0_n0k m vi0 vi1 vi2 vi3 vi4) k
  obtain ⟨Tc, Lc, b1, b5, b9, b10, p11, en11, tg11, ln, la, lb, lc, k9, kp11, ke11, kt11, t4, t8, Xc, Nc, Zc, Kc, Oc, cf0, cf1, cf2, cf3, cf4, cf5, cf6, cf7, cf8, cf9, cf10, cf11, cf12, cf13, cf14, cf15, cf16, cf17, cf18, cf19, cf20, cf21, cf22, cf23, cf24, cf25, cf26, cf27, cf28, cf29, cf30, cf31, cf32, cf33, cf34, cf35, cf36, cf37, cf38, cf39, cf40, cf41, cf42, cf43, cf44, cf45, cf46, cf47, cf48, cf49, cf50, cf51, cf52, cf53, cf54, cf55, cf56, e_ln, e_la, e_lb, e_lc, hln, hla, hlb, hlc, stc⟩ := cut0 l Z a0 hw vi0 vi1 vi2 vi3 vi4 w_COMPACT_STRINGS h0 n0 Z0 S_COMPACT_STRINGS hG O0 X0 hx hby hml hown hnm hZ e0
  have hc107 := k107
  have hc132 := k132
  have hc188 := k188
  rw [← e_ln] at hc107 hc132
  rw [← e_la, ← e_lb, ← e_lc] at hc188
  obtain ⟨cq201, kq201, q201a, q201b, q201c⟩ := isOf hZ rfl cf7
  obtain ⟨_, _, ⟨T201, L201, k201, n201⟩, -, X201, ⟨Lc201, hQ201, l201, y201, z201⟩, st201⟩ := Xc.virtualBack hx (y := (⟨"com/example/careful_ledger/carefulledger/json/PlainLine", "moveTo", "(I)V"⟩ : MethodName)) (z := (⟨"com/example/careful_ledger/carefulledger/json/PlainLine", "moveTo", "(I)V"⟩ : MethodName)) hown (mvT hZ (wd_84 hw)) (mvT hZ (wd_85 hw)) (notFace_of_selects (args := #[]) (mvT hZ (wd_87 hw))) (mvT hZ (wd_87 hw)) (mvT hZ (wd_86 hw)) (by decide) (backOf (W := 0) (rm11 l Z a0 hw [] b10 ((la + lb) + lc) (.ref b9) (.int (0 : Int32)) (.int (6144 : Int32)) (.ref p11) (.ref en11) (.ref tg11) .null (.int (0 : Int32)) (.int (1 : Int32)) (.int (0 : Int32)) Tc.heap n0 Zc cf7 cf12 cf13 cf14 cf15 cf16 cf17 cf18 cf19 cf20 cf21 cf28) hZ (wd_88 hw) (wd_33 hw) (by decide) (by decide)) q201a q201c (g := (mkF m 167 #[.val (.int vi0), .val (.int vi1), .val (.int vi2), .val (.int vi3), .val (.int vi4), .val (.int ln), .val (.int la), .val (.int lb), .val (.int lc), .val (.int ((vi4 &&& (255 : Int32)).toUInt32.toUInt16.toUInt32.toInt32)), .val (.ref b1), .val (.ref b5), .val (.ref b9), .val (.ref b10), .unset] [(.int ((la + lb) + lc)), (.ref b10)])) rfl (by rw [hml]; rfl) (Steps.refl _) (argsL := [(.int ((la + lb) + lc))]) (rest := []) (lenOf pd_6 rfl) rfl (by show 2 * 0 + _ ≤ _; exact Nat.le_of_eq rfl) (hb hby at_167) (fun _ _ => ⟨rfl, rfl, (by decide : 13 + 0 ≤ _), (by decide : 6265 + 0 ≤ _)⟩)
  dsimp only [Pt.U, Pt.locs, Pt.cells, Pt.slots] at X201 l201 y201 z201 st201 hQ201
  subst l201 y201 z201
  obtain ⟨rfl, N201q, p201_0, p201_1, p201_2, p201_3, p201_4, p201_5, p201_6, p201_7, p201_8, p201_9, p201_10⟩ := hQ201
  have N201 := Fr.app Nc N201q
  have K201 : Keep h0 T201.heap [] := Kc.trans p201_0 (allS (Or.inr cf29) all0)
  obtain ⟨cq202, kq202, q202a, q202b, q202c⟩ := isOf hZ rfl (cf7.keep p201_0)
  obtain ⟨_, _, ⟨T202, L202, k202, n202⟩, -, X202, ⟨Lc202, hQ202, l202, y202, z202⟩, st202⟩ := X201.virtualBack hx (y := (⟨"com/example/careful_ledger/carefulledger/json/PlainLine", "endShape", "(Ljava/lang/Object;)V"⟩ : MethodName)) (z := (⟨"com/example/careful_ledger/carefulledger/json/PlainLine", "endShape", "(Ljava/lang/Object;)V"⟩ : MethodName)) hown (mvT hZ (wd_89 hw)) (mvT hZ (wd_90 hw)) (notFace_of_selects (args := #[]) (mvT hZ (wd_92 hw))) (mvT hZ (wd_92 hw)) (mvT hZ (wd_91 hw)) (by decide) (backOf (W := 0) (rm12_ok0 l Z a0 hw [] b10 b1 b9 ((la + lb) + lc) (.int (6144 : Int32)) p11 en11 tg11 .null (0 : Int32) ke11 (64 : Int32) kp11 (List.replicate 64 (.int (0 : Int32))) k9 (List.replicate 6144 (.int (0 : Int32))) kt11 (0 : Int32) (0 : Int32) (0 : Int32) .null .null T201.heap n0 (Nat.le_trans Zc p201_0.1) (cf7.keep p201_0) p201_1 p201_2 p201_3 p201_4 p201_5 p201_6 p201_7 p201_8 p201_9 p201_10 (cf9.keep p201_0 (ninS (Ne.symm cf52) nin0)) (cf8.keep p201_0 (ninS (Ne.symm cf51) nin0)) (cf6.keep p201_0 (ninS cf47 nin0)) (cf10.keep p201_0 (ninS (Ne.symm cf53) nin0)) (List.length_replicate) (by decide) (by decide) cf28 cf30 cf32 cf34 (Ne.symm cf51) (Ne.symm cf52) (Ne.symm cf53) cf47 cf54 cf55 (Ne.symm cf48) cf56 (Ne.symm cf49) (Ne.symm cf50) cf11 (by decide) (by decide) (own_ar0 la lb lc hla hlb hlc) (own_ar1 la lb lc hla hlb hlc hc188) (own_ar2 la lb lc hla hlb hlc) (own_ar3 la lb lc hla hlb hlc hc188) (own_ar4 la lb lc hla hlb hlc hc188)) hZ (wd_93 hw) (wd_33 hw) (by decide) (by decide)) q202a q202c (g := (mkF m 174 #[.val (.int vi0), .val (.int vi1), .val (.int vi2), .val (.int vi3), .val (.int vi4), .val (.int ln), .val (.int la), .val (.int lb), .val (.int lc), .val (.int ((vi4 &&& (255 : Int32)).toUInt32.toUInt16.toUInt32.toInt32)), .val (.ref b1), .val (.ref b5), .val (.ref b9), .val (.ref b10), .unset] [(.ref b1), (.ref b10)])) rfl (by rw [hml]; rfl) (Steps.refl _) (argsL := [(.ref b1)]) (rest := []) (lenOf pd_8 rfl) rfl (by show 2 * 0 + _ ≤ _; exact Nat.le_of_eq rfl) (hb hby at_174) (fun _ _ => ⟨rfl, rfl, (by decide : 13 + 1 ≤ _), (by decide : 6265 + 4096 ≤ _)⟩)
  dsimp only [Pt.U, Pt.locs, Pt.cells, Pt.slots] at X202 l202 y202 z202 st202 hQ202
  subst l202 y202 z202
  obtain ⟨p2202, rfl, N202q, p202_0, p202_1, p202_2, p202_3, p202_4, p202_5, p202_6, p202_7, p202_8, p202_9, p202_10⟩ := hQ202
  have N202 := Fr.app N201 N202q
  have K202 : Keep h0 T202.heap [] := K201.trans p202_0 (allS (Or.inr cf29) (allS (Or.inr cf31) (allS (Or.inr cf33) all0)))
  obtain ⟨cq203, kq203, q203a, q203b, q203c⟩ := isOf hZ rfl ((cf7.keep p201_0).keep p202_0)
  obtain ⟨_, _, ⟨T203, L203, k203, n203⟩, -, X203, ⟨Lc203, hQ203, l203, y203, z203⟩, st203⟩ := X202.virtualBack hx (y := (⟨"com/example/careful_ledger/carefulledger/json/PlainLine", "shapeValues", "(Ljava/lang/Object;)I"⟩ : MethodName)) (z := (⟨"com/example/careful_ledger/carefulledger/json/PlainLine", "shapeValues", "(Ljava/lang/Object;)I"⟩ : MethodName)) hown (mvT hZ (wd_102 hw)) (mvT hZ (wd_103 hw)) (notFace_of_selects (args := #[]) (mvT hZ (wd_105 hw))) (mvT hZ (wd_105 hw)) (mvT hZ (wd_104 hw)) (by decide) (backOf (W := 0) (rm14_same l Z a0 hw [] b10 b1 (0 : Int32) T202.heap n0 (Nat.le_trans (Nat.le_trans Zc p201_0.1) p202_0.1) p202_7 p202_8) hZ (wd_106 hw) (wd_33 hw) (by decide) (by decide)) q203a q203c (g := (mkF m 203 #[.val (.int vi0), .val (.int vi1), .val (.int vi2), .val (.int vi3), .val (.int vi4), .val (.int ln), .val (.int la), .val (.int lb), .val (.int lc), .val (.int ((vi4 &&& (255 : Int32)).toUInt32.toUInt16.toUInt32.toInt32)), .val (.ref b1), .val (.ref b5), .val (.ref b9), .val (.ref b10), .val (.int ln)] [(.ref b1), (.ref b10)])) rfl (by rw [hml]; rfl) (Steps.refl _) (argsL := [(.ref b1)]) (rest := []) (lenOf pd_10 rfl) rfl (by show 2 * 0 + _ ≤ _; exact Nat.le_of_eq rfl) (hb hby at_203) (fun _ _ => ⟨rfl, rfl, (by decide : 14 + 0 ≤ _), (by decide : 10361 + 0 ≤ _)⟩)
  dsimp only [Pt.U, Pt.locs, Pt.cells, Pt.slots] at X203 l203 y203 z203 st203 hQ203
  subst l203 y203 z203
  obtain ⟨rfl, N203q, p203_0⟩ := hQ203
  have N203 := Fr.app N202 N203q
  have e203 : T203.heap = T202.heap := p203_0
  obtain ⟨cq204, kq204, q204a, q204b, q204c⟩ := isOf hZ e203 ((cf7.keep p201_0).keep p202_0)
  obtain ⟨_, _, ⟨T204, L204, k204, n204⟩, -, X204, ⟨Lc204, hQ204, l204, y204, z204⟩, st204⟩ := X203.virtualBack hx (y := (⟨"com/example/careful_ledger/carefulledger/json/PlainLine", "shapeValues", "(Ljava/lang/Object;)I"⟩ : MethodName)) (z := (⟨"com/example/careful_ledger/carefulledger/json/PlainLine", "shapeValues", "(Ljava/lang/Object;)I"⟩ : MethodName)) hown (mvT hZ (wd_102 hw)) (mvT hZ (wd_103 hw)) (notFace_of_selects (args := #[]) (mvT hZ (wd_105 hw))) (mvT hZ (wd_105 hw)) (mvT hZ (wd_104 hw)) (by decide) (backOf (W := 0) (rm14_other l Z a0 hw [] b10 b5 b1 T202.heap n0 (Nat.le_trans (Nat.le_trans Zc p201_0.1) p202_0.1) p202_7 cf36) hZ (wd_106 hw) (wd_33 hw) (by decide) (by decide)) q204a q204c (g := (mkF m 215 #[.val (.int vi0), .val (.int vi1), .val (.int vi2), .val (.int vi3), .val (.int vi4), .val (.int ln), .val (.int la), .val (.int lb), .val (.int lc), .val (.int ((vi4 &&& (255 : Int32)).toUInt32.toUInt16.toUInt32.toInt32)), .val (.ref b1), .val (.ref b5), .val (.ref b9), .val (.ref b10), .val (.int ln)] [(.ref b5), (.ref b10)])) rfl (by rw [hml]; rfl) (Steps.refl _) (argsL := [(.ref b5)]) (rest := []) (lenOf pd_10 rfl) rfl (by show 2 * 0 + _ ≤ _; exact Nat.le_of_eq rfl) (hb hby at_215) (fun _ _ => ⟨rfl, e203, (by decide : 14 + 0 ≤ _), (by decide : 10361 + 0 ≤ _)⟩)
  dsimp only [Pt.U, Pt.locs, Pt.cells, Pt.slots] at X204 l204 y204 z204 st204 hQ204
  subst l204 y204 z204
  obtain ⟨rfl, N204q, p204_0⟩ := hQ204
  have N204 := Fr.app N203 N204q
  have e204 : T204.heap = T202.heap := p204_0
  obtain ⟨fs, hr, hrun, hended, hW, hsame⟩ := X204.leave (v := some (.int (1 : Int32))) (fun h => by rw [Bd.returns] at h; cases h)
  refine ⟨_, _, pre0 _ ?_, hrun, hended, _, _, rfl, ?_, ⟨_, rfl⟩, hW, hsame.mono (by decide) (by decide)⟩
  · refine stc _ ?_
    show Steps p.tables e below (Tc.setTop (mkF m 104 #[.val (.int vi0), .val (.int vi1), .val (.int vi2), .val (.int vi3), .val (.int vi4), .val (.int ln), .val (.int la), .val (.int lb), .val (.int lc), .val (.int ((vi4 &&& (255 : Int32)).toUInt32.toUInt16.toUInt32.toInt32)), .val (.ref b1), .val (.ref b5), .val (.ref b9), .val (.ref b10), .unset] [])) _
    refine XS.iload Xc.here hx rfl (hb hby at_104) rfl ?_
    refine XS.iconst Xc.here hx rfl (hb hby at_106) ?_
    show Steps p.tables e below (Tc.setTop (mkF m 107 #[.val (.int vi0), .val (.int vi1), .val (.int vi2), .val (.int vi3), .val (.int vi4), .val (.int ln), .val (.int la), .val (.int lb), .val (.int lc), .val (.int ((vi4 &&& (255 : Int32)).toUInt32.toUInt16.toUInt32.toInt32)), .val (.ref b1), .val (.ref b5), .val (.ref b9), .val (.ref b10), .unset] [(.int (1 : Int32)), (.int ln)])) _
    refine XS.icmpYes Xc.here hx rfl (pc0 := 107) (pc' := 129) rfl (hb hby at_107) rfl (tlt hc107).1 (by decide) (by decide) ?_
    refine XS.iload Xc.here hx rfl (hb hby at_129) rfl ?_
    show Steps p.tables e below (Tc.setTop (mkF m 131 #[.val (.int vi0), .val (.int vi1), .val (.int vi2), .val (.int vi3), .val (.int vi4), .val (.int ln), .val (.int la), .val (.int lb), .val (.int lc), .val (.int ((vi4 &&& (255 : Int32)).toUInt32.toUInt16.toUInt32.toInt32)), .val (.ref b1), .val (.ref b5), .val (.ref b9), .val (.ref b10), .unset] [(.int ln)])) _
    refine XS.iconst Xc.here hx rfl (hb hby at_131) ?_
    show Steps p.tables e below (Tc.setTop (mkF m 132 #[.val (.int vi0), .val (.int vi1), .val (.int vi2), .val (.int vi3), .val (.int vi4), .val (.int ln), .val (.int la), .val (.int lb), .val (.int lc), .val (.int ((vi4 &&& (255 : Int32)).toUInt32.toUInt16.toUInt32.toInt32)), .val (.ref b1), .val (.ref b5), .val (.ref b9), .val (.ref b10), .unset] [(.int (2 : Int32)), (.int ln)])) _
    refine XS.icmpYes Xc.here hx rfl (pc0 := 132) (pc' := 157) rfl (hb hby at_132) rfl (tlt hc132).1 (by decide) (by decide) ?_
    refine XS.aload Xc.here hx rfl (hb hby at_157) rfl rfl ?_
    refine XS.iload Xc.here hx rfl (hb hby at_159) rfl ?_
    show Steps p.tables e below (Tc.setTop (mkF m 161 #[.val (.int vi0), .val (.int vi1), .val (.int vi2), .val (.int vi3), .val (.int vi4), .val (.int ln), .val (.int la), .val (.int lb), .val (.int lc), .val (.int ((vi4 &&& (255 : Int32)).toUInt32.toUInt16.toUInt32.toInt32)), .val (.ref b1), .val (.ref b5), .val (.ref b9), .val (.ref b10), .unset] [(.int la), (.ref b10)])) _
    refine XS.iload Xc.here hx rfl (hb hby at_161) rfl ?_
    refine XS.iadd Xc.here hx rfl (hb hby at_163) rfl ?_
    refine XS.iload Xc.here hx rfl (hb hby at_164) rfl ?_
    refine XS.iadd Xc.here hx rfl (hb hby at_166) rfl ?_
    show Steps p.tables e below (Tc.setTop (mkF m 167 #[.val (.int vi0), .val (.int vi1), .val (.int vi2), .val (.int vi3), .val (.int vi4), .val (.int ln), .val (.int la), .val (.int lb), .val (.int lc), .val (.int ((vi4 &&& (255 : Int32)).toUInt32.toUInt16.toUInt32.toInt32)), .val (.ref b1), .val (.ref b5), .val (.ref b9), .val (.ref b10), .unset] [(.int ((la + lb) + lc)), (.ref b10)])) _
    refine st201.trans ?_
    refine XS.aload X201.here hx rfl (hb hby at_170) rfl rfl ?_
    refine XS.aload X201.here hx rfl (hb hby at_172) rfl rfl ?_
    show Steps p.tables e below (T201.setTop (mkF m 174 #[.val (.int vi0), .val (.int vi1), .val (.int vi2), .val (.int vi3), .val (.int vi4), .val (.int ln), .val (.int la), .val (.int lb), .val (.int lc), .val (.int ((vi4 &&& (255 : Int32)).toUInt32.toUInt16.toUInt32.toInt32)), .val (.ref b1), .val (.ref b5), .val (.ref b9), .val (.ref b10), .unset] [(.ref b1), (.ref b10)])) _
    refine st202.trans ?_
    show Steps p.tables e below (T202.setTop (mkF m 177 #[.val (.int vi0), .val (.int vi1), .val (.int vi2), .val (.int vi3), .val (.int vi4), .val (.int ln), .val (.int la), .val (.int lb), .val (.int lc), .val (.int ((vi4 &&& (255 : Int32)).toUInt32.toUInt16.toUInt32.toInt32)), .val (.ref b1), .val (.ref b5), .val (.ref b9), .val (.ref b10), .unset] [])) _
    refine XS.iload X202.here hx rfl (hb hby at_177) rfl ?_
    refine XS.iload X202.here hx rfl (hb hby at_179) rfl ?_
    refine XS.iadd X202.here hx rfl (hb hby at_181) rfl ?_
    refine XS.iload X202.here hx rfl (hb hby at_182) rfl ?_
    show Steps p.tables e below (T202.setTop (mkF m 184 #[.val (.int vi0), .val (.int vi1), .val (.int vi2), .val (.int vi3), .val (.int vi4), .val (.int ln), .val (.int la), .val (.int lb), .val (.int lc), .val (.int ((vi4 &&& (255 : Int32)).toUInt32.toUInt16.toUInt32.toInt32)), .val (.ref b1), .val (.ref b5), .val (.ref b9), .val (.ref b10), .unset] [(.int lc), (.int (la + lb))])) _
    refine XS.iadd X202.here hx rfl (hb hby at_184) rfl ?_
    refine XS.sipush X202.here hx rfl (hb hby at_185) ?_
    show Steps p.tables e below (T202.setTop (mkF m 188 #[.val (.int vi0), .val (.int vi1), .val (.int vi2), .val (.int vi3), .val (.int vi4), .val (.int ln), .val (.int la), .val (.int lb), .val (.int lc), .val (.int ((vi4 &&& (255 : Int32)).toUInt32.toUInt16.toUInt32.toInt32)), .val (.ref b1), .val (.ref b5), .val (.ref b9), .val (.ref b10), .unset] [(.int (4096 : Int32)), (.int ((la + lb) + lc))])) _
    refine XS.icmpNo X202.here hx rfl (hb hby at_188) rfl (flt hc188).2.2.1 ?_
    refine XS.iload X202.here hx rfl (hb hby at_191) rfl ?_
    show Steps p.tables e below (T202.setTop (mkF m 193 #[.val (.int vi0), .val (.int vi1), .val (.int vi2), .val (.int vi3), .val (.int vi4), .val (.int ln), .val (.int la), .val (.int lb), .val (.int lc), .val (.int ((vi4 &&& (255 : Int32)).toUInt32.toUInt16.toUInt32.toInt32)), .val (.ref b1), .val (.ref b5), .val (.ref b9), .val (.ref b10), .unset] [(.int ln)])) _
    refine XS.goto X202.here hx rfl (pc0 := 193) (pc' := 197) rfl (hb hby at_193) (by decide) (by decide) ?_
    refine XS.istore X202.here hx rfl (hb hby at_197) rfl (l' := #[.val (.int vi0), .val (.int vi1), .val (.int vi2), .val (.int vi3), .val (.int vi4), .val (.int ln), .val (.int la), .val (.int lb), .val (.int lc), .val (.int ((vi4 &&& (255 : Int32)).toUInt32.toUInt16.toUInt32.toInt32)), .val (.ref b1), .val (.ref b5), .val (.ref b9), .val (.ref b10), .val (.int ln)]) rfl ?_
    refine XS.aload X202.here hx rfl (hb hby at_199) rfl rfl ?_
    refine XS.aload X202.here hx rfl (hb hby at_201) rfl rfl ?_
    show Steps p.tables e below (T202.setTop (mkF m 203 #[.val (.int vi0), .val (.int vi1), .val (.int vi2), .val (.int vi3), .val (.int vi4), .val (.int ln), .val (.int la), .val (.int lb), .val (.int lc), .val (.int ((vi4 &&& (255 : Int32)).toUInt32.toUInt16.toUInt32.toInt32)), .val (.ref b1), .val (.ref b5), .val (.ref b9), .val (.ref b10), .val (.int ln)] [(.ref b1), (.ref b10)])) _
    refine st203.trans ?_
    refine XS.iload X203.here hx rfl (hb hby at_206) rfl ?_
    show Steps p.tables e below (T203.setTop (mkF m 208 #[.val (.int vi0), .val (.int vi1), .val (.int vi2), .val (.int vi3), .val (.int vi4), .val (.int ln), .val (.int la), .val (.int lb), .val (.int lc), .val (.int ((vi4 &&& (255 : Int32)).toUInt32.toUInt16.toUInt32.toInt32)), .val (.ref b1), .val (.ref b5), .val (.ref b9), .val (.ref b10), .val (.int ln)] [(.int ln), (.int (0 : Int32))])) _
    refine XS.icmpNo X203.here hx rfl (hb hby at_208) rfl (teq (own_is 0 (by decide) (by have q := hln; have c1 := hc107; have c2 := hc132; simp only [Int32.lt_iff_toInt_lt, show (1 : Int32).toInt = 1 from by decide, show (2 : Int32).toInt = 2 from by decide] at c1 c2; omega))).2 ?_
    refine XS.aload X203.here hx rfl (hb hby at_211) rfl rfl ?_
    show Steps p.tables e below (T203.setTop (mkF m 213 #[.val (.int vi0), .val (.int vi1), .val (.int vi2), .val (.int vi3), .val (.int vi4), .val (.int ln), .val (.int la), .val (.int lb), .val (.int lc), .val (.int ((vi4 &&& (255 : Int32)).toUInt32.toUInt16.toUInt32.toInt32)), .val (.ref b1), .val (.ref b5), .val (.ref b9), .val (.ref b10), .val (.int ln)] [(.ref b10)])) _
    refine XS.aload X203.here hx rfl (hb hby at_213) rfl rfl ?_
    show Steps p.tables e below (T203.setTop (mkF m 215 #[.val (.int vi0), .val (.int vi1), .val (.int vi2), .val (.int vi3), .val (.int vi4), .val (.int ln), .val (.int la), .val (.int lb), .val (.int lc), .val (.int ((vi4 &&& (255 : Int32)).toUInt32.toUInt16.toUInt32.toInt32)), .val (.ref b1), .val (.ref b5), .val (.ref b9), .val (.ref b10), .val (.int ln)] [(.ref b5), (.ref b10)])) _
    refine st204.trans ?_
    refine XS.iconst X204.here hx rfl (hb hby at_218) ?_
    show Steps p.tables e below (T204.setTop (mkF m 219 #[.val (.int vi0), .val (.int vi1), .val (.int vi2), .val (.int vi3), .val (.int vi4), .val (.int ln), .val (.int la), .val (.int lb), .val (.int lc), .val (.int ((vi4 &&& (255 : Int32)).toUInt32.toUInt16.toUInt32.toInt32)), .val (.ref b1), .val (.ref b5), .val (.ref b9), .val (.ref b10), .val (.int ln)] [(.int (-1 : Int32)), (.int (-1 : Int32))])) _
    refine XS.icmpNo X204.here hx rfl (hb hby at_219) rfl (teq (rfl : (-1 : Int32) = (-1 : Int32))).2 ?_
    show Steps p.tables e below (T204.setTop (mkF m 222 #[.val (.int vi0), .val (.int vi1), .val (.int vi2), .val (.int vi3), .val (.int vi4), .val (.int ln), .val (.int la), .val (.int lb), .val (.int lc), .val (.int ((vi4 &&& (255 : Int32)).toUInt32.toUInt16.toUInt32.toInt32)), .val (.ref b1), .val (.ref b5), .val (.ref b9), .val (.ref b10), .val (.int ln)] [])) _
    refine XS.iconst X204.here hx rfl (hb hby at_222) ?_
    refine XS.goto X204.here hx rfl (pc0 := 223) (pc' := 227) rfl (hb hby at_223) (by decide) (by decide) ?_
    exact retN X204 hx (t := .boolean) Bd.returns (by simp) (hb hby at_227) hr
  · show Q0_n0k Z vi0 vi1 vi2 vi3 vi4 w_COMPACT_STRINGS h0 n0 _ T204.heap _
    rw [e204]
    exact ⟨rfl, N204⟩
theorem own_ar5 (a : Int32) (b : Int32) (c : Int32) (ha : 0 ≤ a.toInt ∧ a.toInt ≤ 2047) (hb : 0 ≤ b.toInt ∧ b.toInt ≤ 2047) (hc : 0 ≤ c.toInt ∧ c.toInt ≤ 2047) (hh : (4096 : Int32) < ((a + b) + c)) : (4096 : Int32) < ((0 : Int32) + (((a + b) + c) - (0 : Int32))) := by
  have l0 : (0 : Int32).toInt = 0 := by decide
  have l4096 : (4096 : Int32).toInt = 4096 := by decide
  have f0 := c_iadd a b
  have r0 := rng32 (a + b)
  have f1 := c_iadd (a + b) c
  have r1 := rng32 ((a + b) + c)
  have f2 := c_isub ((a + b) + c) (0 : Int32)
  have r2 := rng32 (((a + b) + c) - (0 : Int32))
  have f3 := c_iadd (0 : Int32) (((a + b) + c) - (0 : Int32))
  have r3 := rng32 ((0 : Int32) + (((a + b) + c) - (0 : Int32)))
  have r_a := rng32 a
  have r_b := rng32 b
  have r_c := rng32 c
  simp only [Int32.lt_iff_toInt_lt, Int32.toNatClampNeg, ← Int32.toInt_inj, l0, l4096] at *
  omega
theorem ef_0_n0v (m : MethodId) (x0 : Int32) (x1 : Int32) (x2 : Int32) (x3 : Int32) (x4 : Int32) : entryFrame m #[(.int x0), (.int x1), (.int x2), (.int x3), (.int x4)] maxLocals = mkF m 0 #[.val (.int x0), .val (.int x1), .val (.int x2), .val (.int x3), .val (.int x4), .unset, .unset, .unset, .unset, .unset, .unset, .unset, .unset, .unset, .unset] [] := by first | (simp [entryFrame, mkF, argsToLocals, Value.category, maxLocals]; done) | rfl
def Q0_n0v (Z : State) (vi0 : Int32) (vi1 : Int32) (vi2 : Int32) (vi3 : Int32) (vi4 : Int32) (w_COMPACT_STRINGS : Int32) (h0 : Heap) (n0 : Nat) (v : Option Value) (h : Heap) (L : List Loc) : Prop := v = some (.int (1 : Int32)) ∧ Fr n0 L
set_option maxRecDepth 65536 in
set_option maxHeartbeats 40000000 in
theorem rm0_n0v (l : Launch) (Z : State) (a0 : Array Value) (hw : ∀ d ∈ tables_1, d.before a0 Z = true) (ws : List Jvm.Cond) (vi0 : Int32) (vi1 : Int32) (vi2 : Int32) (vi3 : Int32) (vi4 : Int32) (w_COMPACT_STRINGS : Int32) (h0 : Heap) (n0 : Nat) (Z0 : n0 ≤ h0.size) (k188 : (4096 : Int32) < (((vi1 &&& (2047 : Int32)) + (vi2 &&& (2047 : Int32))) + (vi3 &&& (2047 : Int32)))) (k107 : ((vi0 &&& (2147483647 : Int32)) % (3 : Int32)) < (1 : Int32)) (k132 : ((vi0 &&& (2147483647 : Int32)) % (3 : Int32)) < (2 : Int32)) (S_COMPACT_STRINGS : Sta Z Z.heap "java/lang/String" "COMPACT_STRINGS" "Z" (.int w_COMPACT_STRINGS)) (hG : ¬ (w_COMPACT_STRINGS = (0 : Int32))) (O0 : Old Z n0 h0) :
    MetFree l x (head1 (Jvm.Cond.code x code maxLocals ret :: ws) room_1) (fun a U => a = #[(.int vi0), (.int vi1), (.int vi2), (.int vi3), (.int vi4)] ∧ Z.Warmed39 U.vm ∧ U.heap = h0) (fun _ _ _ _ _ => True) (fun _ U o U' => ∃ v L, o = .returned v ∧ Q0_n0v Z vi0 vi1 vi2 vi3 vi4 w_COMPACT_STRINGS h0 n0 v U'.heap L ∧ FrameEnd U o U' L room_1.cells room_1.slots) := by
  refine MetFree.of_bodySF (plainFor_of_name pn_com_example_careful_ledger_carefulledger_json_PlainLineShapeValuesPinLaw) hisR ?_
  intro p e s m args below meth c s₁ Bd hml0 hP hK
  obtain ⟨rfl, hZ, hh⟩ := hP
  have hx := Bd.exec
  have hby := Bd.bytes
  have hml : c.maxLocals = 15 := hml0
  have hown : s.vm.findClass "com/example/careful_ledger/carefulledger/json/PlainLineShapeValuesPinLaw" = some m.cls := findClass_of_methodNamed Bd.named
  have hnm := (name_of_methodNamed Bd.named Bd.method).1
  have X0 : Stand p l e room_1 s m #[(.int vi0), (.int vi1), (.int vi2), (.int vi3), (.int vi4)] below meth c s₁ [] 0 0 := Stand.of_body Bd
  have e0 : s₁.heap = h0 := by rw [← hh, Bd.state]; rfl
  have N0 := Fr.nil n0
  have pre0 : ∀ t, Steps p.tables e below (s₁.setTop (mkF m 0 #[.val (.int vi0), .val (.int vi1), .val (.int vi2), .val (.int vi3), .val (.int vi4), .unset, .unset, .unset, .unset, .unset, .unset, .unset, .unset, .unset, .unset] [])) t → Steps p.tables e below (s₁.setTop (entryFrame m #[(.int vi0), (.int vi1), (.int vi2), (.int vi3), (.int vi4)] maxLocals)) t := fun t k => castTop (ef_0_n0v m vi0 vi1 vi2 vi3 vi4) k
  obtain ⟨Tc, Lc, b1, b5, b9, b10, p11, en11, tg11, ln, la, lb, lc, k9, kp11, ke11, kt11, t4, t8, Xc, Nc, Zc, Kc, Oc, cf0, cf1, cf2, cf3, cf4, cf5, cf6, cf7, cf8, cf9, cf10, cf11, cf12, cf13, cf14, cf15, cf16, cf17, cf18, cf19, cf20, cf21, cf22, cf23, cf24, cf25, cf26, cf27, cf28, cf29, cf30, cf31, cf32, cf33, cf34, cf35, cf36, cf37, cf38, cf39, cf40, cf41, cf42, cf43, cf44, cf45, cf46, cf47, cf48, cf49, cf50, cf51, cf52, cf53, cf54, cf55, cf56, e_ln, e_la, e_lb, e_lc, hln, hla, hlb, hlc, stc⟩ := cut0 l Z a0 hw vi0 vi1 vi2 vi3 vi4 w_COMPACT_STRINGS h0 n0 Z0 S_COMPACT_STRINGS hG O0 X0 hx hby hml hown hnm hZ e0
  have hc107 := k107
  have hc132 := k132
  have hc188 := k188
  rw [← e_ln] at hc107 hc132
  rw [← e_la, ← e_lb, ← e_lc] at hc188
  obtain ⟨cq201, kq201, q201a, q201b, q201c⟩ := isOf hZ rfl cf7
  obtain ⟨_, _, ⟨T201, L201, k201, n201⟩, -, X201, ⟨Lc201, hQ201, l201, y201, z201⟩, st201⟩ := Xc.virtualBack hx (y := (⟨"com/example/careful_ledger/carefulledger/json/PlainLine", "moveTo", "(I)V"⟩ : MethodName)) (z := (⟨"com/example/careful_ledger/carefulledger/json/PlainLine", "moveTo", "(I)V"⟩ : MethodName)) hown (mvT hZ (wd_84 hw)) (mvT hZ (wd_85 hw)) (notFace_of_selects (args := #[]) (mvT hZ (wd_87 hw))) (mvT hZ (wd_87 hw)) (mvT hZ (wd_86 hw)) (by decide) (backOf (W := 0) (rm11 l Z a0 hw [] b10 ((la + lb) + lc) (.ref b9) (.int (0 : Int32)) (.int (6144 : Int32)) (.ref p11) (.ref en11) (.ref tg11) .null (.int (0 : Int32)) (.int (1 : Int32)) (.int (0 : Int32)) Tc.heap n0 Zc cf7 cf12 cf13 cf14 cf15 cf16 cf17 cf18 cf19 cf20 cf21 cf28) hZ (wd_88 hw) (wd_33 hw) (by decide) (by decide)) q201a q201c (g := (mkF m 167 #[.val (.int vi0), .val (.int vi1), .val (.int vi2), .val (.int vi3), .val (.int vi4), .val (.int ln), .val (.int la), .val (.int lb), .val (.int lc), .val (.int ((vi4 &&& (255 : Int32)).toUInt32.toUInt16.toUInt32.toInt32)), .val (.ref b1), .val (.ref b5), .val (.ref b9), .val (.ref b10), .unset] [(.int ((la + lb) + lc)), (.ref b10)])) rfl (by rw [hml]; rfl) (Steps.refl _) (argsL := [(.int ((la + lb) + lc))]) (rest := []) (lenOf pd_6 rfl) rfl (by show 2 * 0 + _ ≤ _; exact Nat.le_of_eq rfl) (hb hby at_167) (fun _ _ => ⟨rfl, rfl, (by decide : 13 + 0 ≤ _), (by decide : 6265 + 0 ≤ _)⟩)
  dsimp only [Pt.U, Pt.locs, Pt.cells, Pt.slots] at X201 l201 y201 z201 st201 hQ201
  subst l201 y201 z201
  obtain ⟨rfl, N201q, p201_0, p201_1, p201_2, p201_3, p201_4, p201_5, p201_6, p201_7, p201_8, p201_9, p201_10⟩ := hQ201
  have N201 := Fr.app Nc N201q
  have K201 : Keep h0 T201.heap [] := Kc.trans p201_0 (allS (Or.inr cf29) all0)
  obtain ⟨cq202, kq202, q202a, q202b, q202c⟩ := isOf hZ rfl (cf7.keep p201_0)
  obtain ⟨_, _, ⟨T202, L202, k202, n202⟩, -, X202, ⟨Lc202, hQ202, l202, y202, z202⟩, st202⟩ := X201.virtualBack hx (y := (⟨"com/example/careful_ledger/carefulledger/json/PlainLine", "endShape", "(Ljava/lang/Object;)V"⟩ : MethodName)) (z := (⟨"com/example/careful_ledger/carefulledger/json/PlainLine", "endShape", "(Ljava/lang/Object;)V"⟩ : MethodName)) hown (mvT hZ (wd_89 hw)) (mvT hZ (wd_90 hw)) (notFace_of_selects (args := #[]) (mvT hZ (wd_92 hw))) (mvT hZ (wd_92 hw)) (mvT hZ (wd_91 hw)) (by decide) (backOf (W := 0) (rm12_ov0 l Z a0 hw [] b10 b1 b9 ((la + lb) + lc) (.int (6144 : Int32)) p11 en11 tg11 .null (0 : Int32) ke11 (64 : Int32) kp11 (List.replicate 64 (.int (0 : Int32))) k9 (List.replicate 6144 (.int (0 : Int32))) kt11 (0 : Int32) (0 : Int32) (0 : Int32) .null .null T201.heap n0 (Nat.le_trans Zc p201_0.1) (cf7.keep p201_0) p201_1 p201_2 p201_3 p201_4 p201_5 p201_6 p201_7 p201_8 p201_9 p201_10 (cf9.keep p201_0 (ninS (Ne.symm cf52) nin0)) (cf8.keep p201_0 (ninS (Ne.symm cf51) nin0)) (cf6.keep p201_0 (ninS cf47 nin0)) (cf10.keep p201_0 (ninS (Ne.symm cf53) nin0)) (List.length_replicate) (by decide) (by decide) cf28 cf30 cf32 cf34 (Ne.symm cf51) (Ne.symm cf52) (Ne.symm cf53) cf47 cf54 cf55 (Ne.symm cf48) cf56 (Ne.symm cf49) (Ne.symm cf50) cf11 (own_ar5 la lb lc hla hlb hlc hc188)) hZ (wd_93 hw) (wd_33 hw) (by decide) (by decide)) q202a q202c (g := (mkF m 174 #[.val (.int vi0), .val (.int vi1), .val (.int vi2), .val (.int vi3), .val (.int vi4), .val (.int ln), .val (.int la), .val (.int lb), .val (.int lc), .val (.int ((vi4 &&& (255 : Int32)).toUInt32.toUInt16.toUInt32.toInt32)), .val (.ref b1), .val (.ref b5), .val (.ref b9), .val (.ref b10), .unset] [(.ref b1), (.ref b10)])) rfl (by rw [hml]; rfl) (Steps.refl _) (argsL := [(.ref b1)]) (rest := []) (lenOf pd_8 rfl) rfl (by show 2 * 0 + _ ≤ _; exact Nat.le_of_eq rfl) (hb hby at_174) (fun _ _ => ⟨rfl, rfl, (by decide : 13 + 0 ≤ _), (by decide : 6265 + 0 ≤ _)⟩)
  dsimp only [Pt.U, Pt.locs, Pt.cells, Pt.slots] at X202 l202 y202 z202 st202 hQ202
  subst l202 y202 z202
  obtain ⟨rfl, N202q, p202_0, p202_1, p202_2, p202_3, p202_4, p202_5, p202_6, p202_7, p202_8, p202_9, p202_10⟩ := hQ202
  have N202 := Fr.app N201 N202q
  have K202 : Keep h0 T202.heap [] := K201.trans p202_0 (allS (Or.inr cf29) all0)
  obtain ⟨cq203, kq203, q203a, q203b, q203c⟩ := isOf hZ rfl ((cf7.keep p201_0).keep p202_0)
  obtain ⟨_, _, ⟨T203, L203, k203, n203⟩, -, X203, ⟨Lc203, hQ203, l203, y203, z203⟩, st203⟩ := X202.virtualBack hx (y := (⟨"com/example/careful_ledger/carefulledger/json/PlainLine", "shapeValues", "(Ljava/lang/Object;)I"⟩ : MethodName)) (z := (⟨"com/example/careful_ledger/carefulledger/json/PlainLine", "shapeValues", "(Ljava/lang/Object;)I"⟩ : MethodName)) hown (mvT hZ (wd_102 hw)) (mvT hZ (wd_103 hw)) (notFace_of_selects (args := #[]) (mvT hZ (wd_105 hw))) (mvT hZ (wd_105 hw)) (mvT hZ (wd_104 hw)) (by decide) (backOf (W := 0) (rm14_null l Z a0 hw [] b10 b1 T202.heap n0 (Nat.le_trans (Nat.le_trans Zc p201_0.1) p202_0.1) p202_7) hZ (wd_106 hw) (wd_33 hw) (by decide) (by decide)) q203a q203c (g := (mkF m 203 #[.val (.int vi0), .val (.int vi1), .val (.int vi2), .val (.int vi3), .val (.int vi4), .val (.int ln), .val (.int la), .val (.int lb), .val (.int lc), .val (.int ((vi4 &&& (255 : Int32)).toUInt32.toUInt16.toUInt32.toInt32)), .val (.ref b1), .val (.ref b5), .val (.ref b9), .val (.ref b10), .val (.int (-1 : Int32))] [(.ref b1), (.ref b10)])) rfl (by rw [hml]; rfl) (Steps.refl _) (argsL := [(.ref b1)]) (rest := []) (lenOf pd_10 rfl) rfl (by show 2 * 0 + _ ≤ _; exact Nat.le_of_eq rfl) (hb hby at_203) (fun _ _ => ⟨rfl, rfl, (by decide : 13 + 0 ≤ _), (by decide : 6265 + 0 ≤ _)⟩)
  dsimp only [Pt.U, Pt.locs, Pt.cells, Pt.slots] at X203 l203 y203 z203 st203 hQ203
  subst l203 y203 z203
  obtain ⟨rfl, N203q, p203_0⟩ := hQ203
  have N203 := Fr.app N202 N203q
  have e203 : T203.heap = T202.heap := p203_0
  obtain ⟨cq204, kq204, q204a, q204b, q204c⟩ := isOf hZ e203 ((cf7.keep p201_0).keep p202_0)
  obtain ⟨_, _, ⟨T204, L204, k204, n204⟩, -, X204, ⟨Lc204, hQ204, l204, y204, z204⟩, st204⟩ := X203.virtualBack hx (y := (⟨"com/example/careful_ledger/carefulledger/json/PlainLine", "shapeValues", "(Ljava/lang/Object;)I"⟩ : MethodName)) (z := (⟨"com/example/careful_ledger/carefulledger/json/PlainLine", "shapeValues", "(Ljava/lang/Object;)I"⟩ : MethodName)) hown (mvT hZ (wd_102 hw)) (mvT hZ (wd_103 hw)) (notFace_of_selects (args := #[]) (mvT hZ (wd_105 hw))) (mvT hZ (wd_105 hw)) (mvT hZ (wd_104 hw)) (by decide) (backOf (W := 0) (rm14_null l Z a0 hw [] b10 b5 T202.heap n0 (Nat.le_trans (Nat.le_trans Zc p201_0.1) p202_0.1) p202_7) hZ (wd_106 hw) (wd_33 hw) (by decide) (by decide)) q204a q204c (g := (mkF m 215 #[.val (.int vi0), .val (.int vi1), .val (.int vi2), .val (.int vi3), .val (.int vi4), .val (.int ln), .val (.int la), .val (.int lb), .val (.int lc), .val (.int ((vi4 &&& (255 : Int32)).toUInt32.toUInt16.toUInt32.toInt32)), .val (.ref b1), .val (.ref b5), .val (.ref b9), .val (.ref b10), .val (.int (-1 : Int32))] [(.ref b5), (.ref b10)])) rfl (by rw [hml]; rfl) (Steps.refl _) (argsL := [(.ref b5)]) (rest := []) (lenOf pd_10 rfl) rfl (by show 2 * 0 + _ ≤ _; exact Nat.le_of_eq rfl) (hb hby at_215) (fun _ _ => ⟨rfl, e203, (by decide : 13 + 0 ≤ _), (by decide : 6265 + 0 ≤ _)⟩)
  dsimp only [Pt.U, Pt.locs, Pt.cells, Pt.slots] at X204 l204 y204 z204 st204 hQ204
  subst l204 y204 z204
  obtain ⟨rfl, N204q, p204_0⟩ := hQ204
  have N204 := Fr.app N203 N204q
  have e204 : T204.heap = T202.heap := p204_0
  obtain ⟨fs, hr, hrun, hended, hW, hsame⟩ := X204.leave (v := some (.int (1 : Int32))) (fun h => by rw [Bd.returns] at h; cases h)
  refine ⟨_, _, pre0 _ ?_, hrun, hended, _, _, rfl, ?_, ⟨_, rfl⟩, hW, hsame.mono (by decide) (by decide)⟩
  · refine stc _ ?_
    show Steps p.tables e below (Tc.setTop (mkF m 104 #[.val (.int vi0), .val (.int vi1), .val (.int vi2), .val (.int vi3), .val (.int vi4), .val (.int ln), .val (.int la), .val (.int lb), .val (.int lc), .val (.int ((vi4 &&& (255 : Int32)).toUInt32.toUInt16.toUInt32.toInt32)), .val (.ref b1), .val (.ref b5), .val (.ref b9), .val (.ref b10), .unset] [])) _
    refine XS.iload Xc.here hx rfl (hb hby at_104) rfl ?_
    refine XS.iconst Xc.here hx rfl (hb hby at_106) ?_
    show Steps p.tables e below (Tc.setTop (mkF m 107 #[.val (.int vi0), .val (.int vi1), .val (.int vi2), .val (.int vi3), .val (.int vi4), .val (.int ln), .val (.int la), .val (.int lb), .val (.int lc), .val (.int ((vi4 &&& (255 : Int32)).toUInt32.toUInt16.toUInt32.toInt32)), .val (.ref b1), .val (.ref b5), .val (.ref b9), .val (.ref b10), .unset] [(.int (1 : Int32)), (.int ln)])) _
    refine XS.icmpYes Xc.here hx rfl (pc0 := 107) (pc' := 129) rfl (hb hby at_107) rfl (tlt hc107).1 (by decide) (by decide) ?_
    refine XS.iload Xc.here hx rfl (hb hby at_129) rfl ?_
    show Steps p.tables e below (Tc.setTop (mkF m 131 #[.val (.int vi0), .val (.int vi1), .val (.int vi2), .val (.int vi3), .val (.int vi4), .val (.int ln), .val (.int la), .val (.int lb), .val (.int lc), .val (.int ((vi4 &&& (255 : Int32)).toUInt32.toUInt16.toUInt32.toInt32)), .val (.ref b1), .val (.ref b5), .val (.ref b9), .val (.ref b10), .unset] [(.int ln)])) _
    refine XS.iconst Xc.here hx rfl (hb hby at_131) ?_
    show Steps p.tables e below (Tc.setTop (mkF m 132 #[.val (.int vi0), .val (.int vi1), .val (.int vi2), .val (.int vi3), .val (.int vi4), .val (.int ln), .val (.int la), .val (.int lb), .val (.int lc), .val (.int ((vi4 &&& (255 : Int32)).toUInt32.toUInt16.toUInt32.toInt32)), .val (.ref b1), .val (.ref b5), .val (.ref b9), .val (.ref b10), .unset] [(.int (2 : Int32)), (.int ln)])) _
    refine XS.icmpYes Xc.here hx rfl (pc0 := 132) (pc' := 157) rfl (hb hby at_132) rfl (tlt hc132).1 (by decide) (by decide) ?_
    refine XS.aload Xc.here hx rfl (hb hby at_157) rfl rfl ?_
    refine XS.iload Xc.here hx rfl (hb hby at_159) rfl ?_
    show Steps p.tables e below (Tc.setTop (mkF m 161 #[.val (.int vi0), .val (.int vi1), .val (.int vi2), .val (.int vi3), .val (.int vi4), .val (.int ln), .val (.int la), .val (.int lb), .val (.int lc), .val (.int ((vi4 &&& (255 : Int32)).toUInt32.toUInt16.toUInt32.toInt32)), .val (.ref b1), .val (.ref b5), .val (.ref b9), .val (.ref b10), .unset] [(.int la), (.ref b10)])) _
    refine XS.iload Xc.here hx rfl (hb hby at_161) rfl ?_
    refine XS.iadd Xc.here hx rfl (hb hby at_163) rfl ?_
    refine XS.iload Xc.here hx rfl (hb hby at_164) rfl ?_
    refine XS.iadd Xc.here hx rfl (hb hby at_166) rfl ?_
    show Steps p.tables e below (Tc.setTop (mkF m 167 #[.val (.int vi0), .val (.int vi1), .val (.int vi2), .val (.int vi3), .val (.int vi4), .val (.int ln), .val (.int la), .val (.int lb), .val (.int lc), .val (.int ((vi4 &&& (255 : Int32)).toUInt32.toUInt16.toUInt32.toInt32)), .val (.ref b1), .val (.ref b5), .val (.ref b9), .val (.ref b10), .unset] [(.int ((la + lb) + lc)), (.ref b10)])) _
    refine st201.trans ?_
    refine XS.aload X201.here hx rfl (hb hby at_170) rfl rfl ?_
    refine XS.aload X201.here hx rfl (hb hby at_172) rfl rfl ?_
    show Steps p.tables e below (T201.setTop (mkF m 174 #[.val (.int vi0), .val (.int vi1), .val (.int vi2), .val (.int vi3), .val (.int vi4), .val (.int ln), .val (.int la), .val (.int lb), .val (.int lc), .val (.int ((vi4 &&& (255 : Int32)).toUInt32.toUInt16.toUInt32.toInt32)), .val (.ref b1), .val (.ref b5), .val (.ref b9), .val (.ref b10), .unset] [(.ref b1), (.ref b10)])) _
    refine st202.trans ?_
    show Steps p.tables e below (T202.setTop (mkF m 177 #[.val (.int vi0), .val (.int vi1), .val (.int vi2), .val (.int vi3), .val (.int vi4), .val (.int ln), .val (.int la), .val (.int lb), .val (.int lc), .val (.int ((vi4 &&& (255 : Int32)).toUInt32.toUInt16.toUInt32.toInt32)), .val (.ref b1), .val (.ref b5), .val (.ref b9), .val (.ref b10), .unset] [])) _
    refine XS.iload X202.here hx rfl (hb hby at_177) rfl ?_
    refine XS.iload X202.here hx rfl (hb hby at_179) rfl ?_
    refine XS.iadd X202.here hx rfl (hb hby at_181) rfl ?_
    refine XS.iload X202.here hx rfl (hb hby at_182) rfl ?_
    show Steps p.tables e below (T202.setTop (mkF m 184 #[.val (.int vi0), .val (.int vi1), .val (.int vi2), .val (.int vi3), .val (.int vi4), .val (.int ln), .val (.int la), .val (.int lb), .val (.int lc), .val (.int ((vi4 &&& (255 : Int32)).toUInt32.toUInt16.toUInt32.toInt32)), .val (.ref b1), .val (.ref b5), .val (.ref b9), .val (.ref b10), .unset] [(.int lc), (.int (la + lb))])) _
    refine XS.iadd X202.here hx rfl (hb hby at_184) rfl ?_
    refine XS.sipush X202.here hx rfl (hb hby at_185) ?_
    show Steps p.tables e below (T202.setTop (mkF m 188 #[.val (.int vi0), .val (.int vi1), .val (.int vi2), .val (.int vi3), .val (.int vi4), .val (.int ln), .val (.int la), .val (.int lb), .val (.int lc), .val (.int ((vi4 &&& (255 : Int32)).toUInt32.toUInt16.toUInt32.toInt32)), .val (.ref b1), .val (.ref b5), .val (.ref b9), .val (.ref b10), .unset] [(.int (4096 : Int32)), (.int ((la + lb) + lc))])) _
    refine XS.icmpYes X202.here hx rfl (pc0 := 188) (pc' := 196) rfl (hb hby at_188) rfl (tlt hc188).2.2.1 (by decide) (by decide) ?_
    refine XS.iconst X202.here hx rfl (hb hby at_196) ?_
    show Steps p.tables e below (T202.setTop (mkF m 197 #[.val (.int vi0), .val (.int vi1), .val (.int vi2), .val (.int vi3), .val (.int vi4), .val (.int ln), .val (.int la), .val (.int lb), .val (.int lc), .val (.int ((vi4 &&& (255 : Int32)).toUInt32.toUInt16.toUInt32.toInt32)), .val (.ref b1), .val (.ref b5), .val (.ref b9), .val (.ref b10), .unset] [(.int (-1 : Int32))])) _
    refine XS.istore X202.here hx rfl (hb hby at_197) rfl (l' := #[.val (.int vi0), .val (.int vi1), .val (.int vi2), .val (.int vi3), .val (.int vi4), .val (.int ln), .val (.int la), .val (.int lb), .val (.int lc), .val (.int ((vi4 &&& (255 : Int32)).toUInt32.toUInt16.toUInt32.toInt32)), .val (.ref b1), .val (.ref b5), .val (.ref b9), .val (.ref b10), .val (.int (-1 : Int32))]) rfl ?_
    refine XS.aload X202.here hx rfl (hb hby at_199) rfl rfl ?_
    refine XS.aload X202.here hx rfl (hb hby at_201) rfl rfl ?_
    show Steps p.tables e below (T202.setTop (mkF m 203 #[.val (.int vi0), .val (.int vi1), .val (.int vi2), .val (.int vi3), .val (.int vi4), .val (.int ln), .val (.int la), .val (.int lb), .val (.int lc), .val (.int ((vi4 &&& (255 : Int32)).toUInt32.toUInt16.toUInt32.toInt32)), .val (.ref b1), .val (.ref b5), .val (.ref b9), .val (.ref b10), .val (.int (-1 : Int32))] [(.ref b1), (.ref b10)])) _
    refine st203.trans ?_
    show Steps p.tables e below (T203.setTop (mkF m 206 #[.val (.int vi0), .val (.int vi1), .val (.int vi2), .val (.int vi3), .val (.int vi4), .val (.int ln), .val (.int la), .val (.int lb), .val (.int lc), .val (.int ((vi4 &&& (255 : Int32)).toUInt32.toUInt16.toUInt32.toInt32)), .val (.ref b1), .val (.ref b5), .val (.ref b9), .val (.ref b10), .val (.int (-1 : Int32))] [(.int (-1 : Int32))])) _
    refine XS.iload X203.here hx rfl (hb hby at_206) rfl ?_
    show Steps p.tables e below (T203.setTop (mkF m 208 #[.val (.int vi0), .val (.int vi1), .val (.int vi2), .val (.int vi3), .val (.int vi4), .val (.int ln), .val (.int la), .val (.int lb), .val (.int lc), .val (.int ((vi4 &&& (255 : Int32)).toUInt32.toUInt16.toUInt32.toInt32)), .val (.ref b1), .val (.ref b5), .val (.ref b9), .val (.ref b10), .val (.int (-1 : Int32))] [(.int (-1 : Int32)), (.int (-1 : Int32))])) _
    refine XS.icmpNo X203.here hx rfl (hb hby at_208) rfl (teq (rfl : (-1 : Int32) = (-1 : Int32))).2 ?_
    refine XS.aload X203.here hx rfl (hb hby at_211) rfl rfl ?_
    refine XS.aload X203.here hx rfl (hb hby at_213) rfl rfl ?_
    show Steps p.tables e below (T203.setTop (mkF m 215 #[.val (.int vi0), .val (.int vi1), .val (.int vi2), .val (.int vi3), .val (.int vi4), .val (.int ln), .val (.int la), .val (.int lb), .val (.int lc), .val (.int ((vi4 &&& (255 : Int32)).toUInt32.toUInt16.toUInt32.toInt32)), .val (.ref b1), .val (.ref b5), .val (.ref b9), .val (.ref b10), .val (.int (-1 : Int32))] [(.ref b5), (.ref b10)])) _
    refine st204.trans ?_
    refine XS.iconst X204.here hx rfl (hb hby at_218) ?_
    show Steps p.tables e below (T204.setTop (mkF m 219 #[.val (.int vi0), .val (.int vi1), .val (.int vi2), .val (.int vi3), .val (.int vi4), .val (.int ln), .val (.int la), .val (.int lb), .val (.int lc), .val (.int ((vi4 &&& (255 : Int32)).toUInt32.toUInt16.toUInt32.toInt32)), .val (.ref b1), .val (.ref b5), .val (.ref b9), .val (.ref b10), .val (.int (-1 : Int32))] [(.int (-1 : Int32)), (.int (-1 : Int32))])) _
    refine XS.icmpNo X204.here hx rfl (hb hby at_219) rfl (teq (rfl : (-1 : Int32) = (-1 : Int32))).2 ?_
    refine XS.iconst X204.here hx rfl (hb hby at_222) ?_
    show Steps p.tables e below (T204.setTop (mkF m 223 #[.val (.int vi0), .val (.int vi1), .val (.int vi2), .val (.int vi3), .val (.int vi4), .val (.int ln), .val (.int la), .val (.int lb), .val (.int lc), .val (.int ((vi4 &&& (255 : Int32)).toUInt32.toUInt16.toUInt32.toInt32)), .val (.ref b1), .val (.ref b5), .val (.ref b9), .val (.ref b10), .val (.int (-1 : Int32))] [(.int (1 : Int32))])) _
    refine XS.goto X204.here hx rfl (pc0 := 223) (pc' := 227) rfl (hb hby at_223) (by decide) (by decide) ?_
    exact retN X204 hx (t := .boolean) Bd.returns (by simp) (hb hby at_227) hr
  · show Q0_n0v Z vi0 vi1 vi2 vi3 vi4 w_COMPACT_STRINGS h0 n0 _ T204.heap _
    rw [e204]
    exact ⟨rfl, N204⟩
theorem wd_107 {Z : State} {a0 : Array Value} (hw : ∀ d ∈ tables_1, d.before a0 Z = true) : ((Jvm.Cond.methodLink "com/example/careful_ledger/carefulledger/json/PlainLineShapeValuesPinLaw" (27 : Nat) ({ cls := "com/example/careful_ledger/carefulledger/json/PlainLine", name := "valueComes", desc := "(Ljava/lang/Object;)V" } : Jvm.MethodName))).before a0 Z = true := hw _ (List.mem_of_getElem? (i := 107) rfl)
theorem own_ar6 (a : Int32) (b : Int32) (c : Int32) (ha : 0 ≤ a.toInt ∧ a.toInt ≤ 2047) (hb : 0 ≤ b.toInt ∧ b.toInt ≤ 2047) (hc : 0 ≤ c.toInt ∧ c.toInt ≤ 2047) : ¬ (a - (0 : Int32)) < 0 := by
  have l0 : (0 : Int32).toInt = 0 := by decide
  have f0 := c_isub a (0 : Int32)
  have r0 := rng32 (a - (0 : Int32))
  have r_a := rng32 a
  have r_b := rng32 b
  have r_c := rng32 c
  simp only [Int32.lt_iff_toInt_lt, Int32.toNatClampNeg, ← Int32.toInt_inj, l0] at *
  omega
theorem own_ar7 (a : Int32) (b : Int32) (c : Int32) (ha : 0 ≤ a.toInt ∧ a.toInt ≤ 2047) (hb : 0 ≤ b.toInt ∧ b.toInt ≤ 2047) (hc : 0 ≤ c.toInt ∧ c.toInt ≤ 2047) : (0 : Int32).toNatClampNeg + (a - (0 : Int32)).toNatClampNeg ≤ (6144 : Int32).toNatClampNeg := by
  have l0 : (0 : Int32).toInt = 0 := by decide
  have l6144 : (6144 : Int32).toInt = 6144 := by decide
  have f0 := c_isub a (0 : Int32)
  have r0 := rng32 (a - (0 : Int32))
  have r_a := rng32 a
  have r_b := rng32 b
  have r_c := rng32 c
  simp only [Int32.lt_iff_toInt_lt, Int32.toNatClampNeg, ← Int32.toInt_inj, l0, l6144] at *
  omega
theorem own_ar8 (a : Int32) (b : Int32) (c : Int32) (ha : 0 ≤ a.toInt ∧ a.toInt ≤ 2047) (hb : 0 ≤ b.toInt ∧ b.toInt ≤ 2047) (hc : 0 ≤ c.toInt ∧ c.toInt ≤ 2047) : (0 : Int32).toNatClampNeg + (a - (0 : Int32)).toNatClampNeg ≤ ((0 : Int32) + (a - (0 : Int32))).toNatClampNeg := by
  have l0 : (0 : Int32).toInt = 0 := by decide
  have f0 := c_isub a (0 : Int32)
  have r0 := rng32 (a - (0 : Int32))
  have f1 := c_iadd (0 : Int32) (a - (0 : Int32))
  have r1 := rng32 ((0 : Int32) + (a - (0 : Int32)))
  have r_a := rng32 a
  have r_b := rng32 b
  have r_c := rng32 c
  simp only [Int32.lt_iff_toInt_lt, Int32.toNatClampNeg, ← Int32.toInt_inj, l0] at *
  omega
theorem own_ar9 (a : Int32) (b : Int32) (c : Int32) (ha : 0 ≤ a.toInt ∧ a.toInt ≤ 2047) (hb : 0 ≤ b.toInt ∧ b.toInt ≤ 2047) (hc : 0 ≤ c.toInt ∧ c.toInt ≤ 2047) : ¬ ((0 : Int32) + (a - (0 : Int32))) < 0 := by
  have l0 : (0 : Int32).toInt = 0 := by decide
  have f0 := c_isub a (0 : Int32)
  have r0 := rng32 (a - (0 : Int32))
  have f1 := c_iadd (0 : Int32) (a - (0 : Int32))
  have r1 := rng32 ((0 : Int32) + (a - (0 : Int32)))
  have r_a := rng32 a
  have r_b := rng32 b
  have r_c := rng32 c
  simp only [Int32.lt_iff_toInt_lt, Int32.toNatClampNeg, ← Int32.toInt_inj, l0] at *
  omega
theorem own_ar10 (a : Int32) (b : Int32) (c : Int32) (ha : 0 ≤ a.toInt ∧ a.toInt ≤ 2047) (hb : 0 ≤ b.toInt ∧ b.toInt ≤ 2047) (hc : 0 ≤ c.toInt ∧ c.toInt ≤ 2047) : ¬ ((4096 : Int32) < ((0 : Int32) + (a - (0 : Int32)))) := by
  have l0 : (0 : Int32).toInt = 0 := by decide
  have l4096 : (4096 : Int32).toInt = 4096 := by decide
  have f0 := c_isub a (0 : Int32)
  have r0 := rng32 (a - (0 : Int32))
  have f1 := c_iadd (0 : Int32) (a - (0 : Int32))
  have r1 := rng32 ((0 : Int32) + (a - (0 : Int32)))
  have r_a := rng32 a
  have r_b := rng32 b
  have r_c := rng32 c
  simp only [Int32.lt_iff_toInt_lt, Int32.toNatClampNeg, ← Int32.toInt_inj, l0, l4096] at *
  omega
theorem wd_111 {Z : State} {a0 : Array Value} (hw : ∀ d ∈ tables_1, d.before a0 Z = true) : ((Jvm.Cond.code ({ cls := "com/example/careful_ledger/carefulledger/json/PlainLine", name := "valueComes", desc := "(Ljava/lang/Object;)V" } : Jvm.MethodName) prog_58_method_6_code (2 : Nat) (Option.none : Option Jvm.ClassFile.FieldType))).before a0 Z = true := hw _ (List.mem_of_getElem? (i := 111) rfl)
theorem wd_110 {Z : State} {a0 : Array Value} (hw : ∀ d ∈ tables_1, d.before a0 Z = true) : ((Jvm.Cond.selects "com/example/careful_ledger/carefulledger/json/PlainLine" ({ cls := "com/example/careful_ledger/carefulledger/json/PlainLine", name := "valueComes", desc := "(Ljava/lang/Object;)V" } : Jvm.MethodName) ({ cls := "com/example/careful_ledger/carefulledger/json/PlainLine", name := "valueComes", desc := "(Ljava/lang/Object;)V" } : Jvm.MethodName))).before a0 Z = true := hw _ (List.mem_of_getElem? (i := 110) rfl)
theorem wd_108 {Z : State} {a0 : Array Value} (hw : ∀ d ∈ tables_1, d.before a0 Z = true) : ((Jvm.Cond.declares ({ cls := "com/example/careful_ledger/carefulledger/json/PlainLine", name := "valueComes", desc := "(Ljava/lang/Object;)V" } : Jvm.MethodName))).before a0 Z = true := hw _ (List.mem_of_getElem? (i := 108) rfl)
theorem wd_109 {Z : State} {a0 : Array Value} (hw : ∀ d ∈ tables_1, d.before a0 Z = true) : ((Jvm.Cond.instanceMethod ({ cls := "com/example/careful_ledger/carefulledger/json/PlainLine", name := "valueComes", desc := "(Ljava/lang/Object;)V" } : Jvm.MethodName))).before a0 Z = true := hw _ (List.mem_of_getElem? (i := 109) rfl)
theorem wd_126 {Z : State} {a0 : Array Value} (hw : ∀ d ∈ tables_1, d.before a0 Z = true) : ((Jvm.Cond.methodLink "com/example/careful_ledger/carefulledger/json/PlainLineShapeValuesPinLaw" (31 : Nat) ({ cls := "com/example/careful_ledger/carefulledger/json/PlainLine", name := "valueRead", desc := "()V" } : Jvm.MethodName))).before a0 Z = true := hw _ (List.mem_of_getElem? (i := 126) rfl)
theorem wd_130 {Z : State} {a0 : Array Value} (hw : ∀ d ∈ tables_1, d.before a0 Z = true) : ((Jvm.Cond.code ({ cls := "com/example/careful_ledger/carefulledger/json/PlainLine", name := "valueRead", desc := "()V" } : Jvm.MethodName) prog_58_method_7_code (1 : Nat) (Option.none : Option Jvm.ClassFile.FieldType))).before a0 Z = true := hw _ (List.mem_of_getElem? (i := 130) rfl)
theorem wd_129 {Z : State} {a0 : Array Value} (hw : ∀ d ∈ tables_1, d.before a0 Z = true) : ((Jvm.Cond.selects "com/example/careful_ledger/carefulledger/json/PlainLine" ({ cls := "com/example/careful_ledger/carefulledger/json/PlainLine", name := "valueRead", desc := "()V" } : Jvm.MethodName) ({ cls := "com/example/careful_ledger/carefulledger/json/PlainLine", name := "valueRead", desc := "()V" } : Jvm.MethodName))).before a0 Z = true := hw _ (List.mem_of_getElem? (i := 129) rfl)
theorem wd_127 {Z : State} {a0 : Array Value} (hw : ∀ d ∈ tables_1, d.before a0 Z = true) : ((Jvm.Cond.declares ({ cls := "com/example/careful_ledger/carefulledger/json/PlainLine", name := "valueRead", desc := "()V" } : Jvm.MethodName))).before a0 Z = true := hw _ (List.mem_of_getElem? (i := 127) rfl)
theorem wd_128 {Z : State} {a0 : Array Value} (hw : ∀ d ∈ tables_1, d.before a0 Z = true) : ((Jvm.Cond.instanceMethod ({ cls := "com/example/careful_ledger/carefulledger/json/PlainLine", name := "valueRead", desc := "()V" } : Jvm.MethodName))).before a0 Z = true := hw _ (List.mem_of_getElem? (i := 128) rfl)
theorem own_ar11 (a : Int32) (b : Int32) (c : Int32) (ha : 0 ≤ a.toInt ∧ a.toInt ≤ 2047) (hb : 0 ≤ b.toInt ∧ b.toInt ≤ 2047) (hc : 0 ≤ c.toInt ∧ c.toInt ≤ 2047) : ¬ a < 0 := by
  have l0 : (0 : Int32).toInt = 0 := by decide
  have r_a := rng32 a
  have r_b := rng32 b
  have r_c := rng32 c
  simp only [Int32.lt_iff_toInt_lt, Int32.toNatClampNeg, ← Int32.toInt_inj, l0] at *
  omega
theorem own_ar12 (a : Int32) (b : Int32) (c : Int32) (ha : 0 ≤ a.toInt ∧ a.toInt ≤ 2047) (hb : 0 ≤ b.toInt ∧ b.toInt ≤ 2047) (hc : 0 ≤ c.toInt ∧ c.toInt ≤ 2047) : ¬ (((a + b) + c) - a) < 0 := by
  have l0 : (0 : Int32).toInt = 0 := by decide
  have f0 := c_iadd a b
  have r0 := rng32 (a + b)
  have f1 := c_iadd (a + b) c
  have r1 := rng32 ((a + b) + c)
  have f2 := c_isub ((a + b) + c) a
  have r2 := rng32 (((a + b) + c) - a)
  have r_a := rng32 a
  have r_b := rng32 b
  have r_c := rng32 c
  simp only [Int32.lt_iff_toInt_lt, Int32.toNatClampNeg, ← Int32.toInt_inj, l0] at *
  omega
theorem own_ar13 (a : Int32) (b : Int32) (c : Int32) (ha : 0 ≤ a.toInt ∧ a.toInt ≤ 2047) (hb : 0 ≤ b.toInt ∧ b.toInt ≤ 2047) (hc : 0 ≤ c.toInt ∧ c.toInt ≤ 2047) (hh : ¬ ((4096 : Int32) < ((a + b) + c))) : a.toNatClampNeg + (((a + b) + c) - a).toNatClampNeg ≤ (6144 : Int32).toNatClampNeg := by
  have l4096 : (4096 : Int32).toInt = 4096 := by decide
  have l6144 : (6144 : Int32).toInt = 6144 := by decide
  have l0 : (0 : Int32).toInt = 0 := by decide
  have f0 := c_iadd a b
  have r0 := rng32 (a + b)
  have f1 := c_iadd (a + b) c
  have r1 := rng32 ((a + b) + c)
  have f2 := c_isub ((a + b) + c) a
  have r2 := rng32 (((a + b) + c) - a)
  have r_a := rng32 a
  have r_b := rng32 b
  have r_c := rng32 c
  simp only [Int32.lt_iff_toInt_lt, Int32.toNatClampNeg, ← Int32.toInt_inj, l4096, l6144, l0] at *
  omega
theorem own_ar14 (a : Int32) (b : Int32) (c : Int32) (ha : 0 ≤ a.toInt ∧ a.toInt ≤ 2047) (hb : 0 ≤ b.toInt ∧ b.toInt ≤ 2047) (hc : 0 ≤ c.toInt ∧ c.toInt ≤ 2047) : ((0 : Int32) + (a - (0 : Int32))).toNatClampNeg + (((a + b) + c) - a).toNatClampNeg ≤ (((0 : Int32) + (a - (0 : Int32))) + (((a + b) + c) - a)).toNatClampNeg := by
  have l0 : (0 : Int32).toInt = 0 := by decide
  have f0 := c_isub a (0 : Int32)
  have r0 := rng32 (a - (0 : Int32))
  have f1 := c_iadd (0 : Int32) (a - (0 : Int32))
  have r1 := rng32 ((0 : Int32) + (a - (0 : Int32)))
  have f2 := c_iadd a b
  have r2 := rng32 (a + b)
  have f3 := c_iadd (a + b) c
  have r3 := rng32 ((a + b) + c)
  have f4 := c_isub ((a + b) + c) a
  have r4 := rng32 (((a + b) + c) - a)
  have f5 := c_iadd ((0 : Int32) + (a - (0 : Int32))) (((a + b) + c) - a)
  have r5 := rng32 (((0 : Int32) + (a - (0 : Int32))) + (((a + b) + c) - a))
  have r_a := rng32 a
  have r_b := rng32 b
  have r_c := rng32 c
  simp only [Int32.lt_iff_toInt_lt, Int32.toNatClampNeg, ← Int32.toInt_inj, l0] at *
  omega
theorem own_ar15 (a : Int32) (b : Int32) (c : Int32) (ha : 0 ≤ a.toInt ∧ a.toInt ≤ 2047) (hb : 0 ≤ b.toInt ∧ b.toInt ≤ 2047) (hc : 0 ≤ c.toInt ∧ c.toInt ≤ 2047) (hh : ¬ ((4096 : Int32) < ((a + b) + c))) : ¬ (((0 : Int32) + (a - (0 : Int32))) + (((a + b) + c) - a)) < 0 := by
  have l0 : (0 : Int32).toInt = 0 := by decide
  have l4096 : (4096 : Int32).toInt = 4096 := by decide
  have f0 := c_iadd a b
  have r0 := rng32 (a + b)
  have f1 := c_iadd (a + b) c
  have r1 := rng32 ((a + b) + c)
  have f2 := c_isub a (0 : Int32)
  have r2 := rng32 (a - (0 : Int32))
  have f3 := c_iadd (0 : Int32) (a - (0 : Int32))
  have r3 := rng32 ((0 : Int32) + (a - (0 : Int32)))
  have f4 := c_isub ((a + b) + c) a
  have r4 := rng32 (((a + b) + c) - a)
  have f5 := c_iadd ((0 : Int32) + (a - (0 : Int32))) (((a + b) + c) - a)
  have r5 := rng32 (((0 : Int32) + (a - (0 : Int32))) + (((a + b) + c) - a))
  have r_a := rng32 a
  have r_b := rng32 b
  have r_c := rng32 c
  simp only [Int32.lt_iff_toInt_lt, Int32.toNatClampNeg, ← Int32.toInt_inj, l0, l4096] at *
  omega
theorem own_ar16 (a : Int32) (b : Int32) (c : Int32) (ha : 0 ≤ a.toInt ∧ a.toInt ≤ 2047) (hb : 0 ≤ b.toInt ∧ b.toInt ≤ 2047) (hc : 0 ≤ c.toInt ∧ c.toInt ≤ 2047) (hh : ¬ ((4096 : Int32) < ((a + b) + c))) : ¬ ((4096 : Int32) < (((0 : Int32) + (a - (0 : Int32))) + (((a + b) + c) - a))) := by
  have l0 : (0 : Int32).toInt = 0 := by decide
  have l4096 : (4096 : Int32).toInt = 4096 := by decide
  have f0 := c_iadd a b
  have r0 := rng32 (a + b)
  have f1 := c_iadd (a + b) c
  have r1 := rng32 ((a + b) + c)
  have f2 := c_isub a (0 : Int32)
  have r2 := rng32 (a - (0 : Int32))
  have f3 := c_iadd (0 : Int32) (a - (0 : Int32))
  have r3 := rng32 ((0 : Int32) + (a - (0 : Int32)))
  have f4 := c_isub ((a + b) + c) a
  have r4 := rng32 (((a + b) + c) - a)
  have f5 := c_iadd ((0 : Int32) + (a - (0 : Int32))) (((a + b) + c) - a)
  have r5 := rng32 (((0 : Int32) + (a - (0 : Int32))) + (((a + b) + c) - a))
  have r_a := rng32 a
  have r_b := rng32 b
  have r_c := rng32 c
  simp only [Int32.lt_iff_toInt_lt, Int32.toNatClampNeg, ← Int32.toInt_inj, l0, l4096] at *
  omega
theorem ef_0_n1k (m : MethodId) (x0 : Int32) (x1 : Int32) (x2 : Int32) (x3 : Int32) (x4 : Int32) : entryFrame m #[(.int x0), (.int x1), (.int x2), (.int x3), (.int x4)] maxLocals = mkF m 0 #[.val (.int x0), .val (.int x1), .val (.int x2), .val (.int x3), .val (.int x4), .unset, .unset, .unset, .unset, .unset, .unset, .unset, .unset, .unset, .unset] [] := by first | (simp [entryFrame, mkF, argsToLocals, Value.category, maxLocals]; done) | rfl
def Q0_n1k (Z : State) (vi0 : Int32) (vi1 : Int32) (vi2 : Int32) (vi3 : Int32) (vi4 : Int32) (w_COMPACT_STRINGS : Int32) (h0 : Heap) (n0 : Nat) (v : Option Value) (h : Heap) (L : List Loc) : Prop := v = some (.int (1 : Int32)) ∧ Fr n0 L
set_option maxRecDepth 65536 in
set_option maxHeartbeats 40000000 in
theorem rm0_n1k (l : Launch) (Z : State) (a0 : Array Value) (hw : ∀ d ∈ tables_1, d.before a0 Z = true) (ws : List Jvm.Cond) (vi0 : Int32) (vi1 : Int32) (vi2 : Int32) (vi3 : Int32) (vi4 : Int32) (w_COMPACT_STRINGS : Int32) (h0 : Heap) (n0 : Nat) (Z0 : n0 ≤ h0.size) (k188 : ¬ ((4096 : Int32) < (((vi1 &&& (2047 : Int32)) + (vi2 &&& (2047 : Int32))) + (vi3 &&& (2047 : Int32))))) (k107 : ¬ (((vi0 &&& (2147483647 : Int32)) % (3 : Int32)) < (1 : Int32))) (k132 : ((vi0 &&& (2147483647 : Int32)) % (3 : Int32)) < (2 : Int32)) (S_COMPACT_STRINGS : Sta Z Z.heap "java/lang/String" "COMPACT_STRINGS" "Z" (.int w_COMPACT_STRINGS)) (hG : ¬ (w_COMPACT_STRINGS = (0 : Int32))) (O0 : Old Z n0 h0) :
    MetFree l x (head1 (Jvm.Cond.code x code maxLocals ret :: ws) room_1) (fun a U => a = #[(.int vi0), (.int vi1), (.int vi2), (.int vi3), (.int vi4)] ∧ Z.Warmed39 U.vm ∧ U.heap = h0) (fun _ _ _ _ _ => True) (fun _ U o U' => ∃ v L, o = .returned v ∧ Q0_n1k Z vi0 vi1 vi2 vi3 vi4 w_COMPACT_STRINGS h0 n0 v U'.heap L ∧ FrameEnd U o U' L room_1.cells room_1.slots) := by
  refine MetFree.of_bodySF (plainFor_of_name pn_com_example_careful_ledger_carefulledger_json_PlainLineShapeValuesPinLaw) hisR ?_
  intro p e s m args below meth c s₁ Bd hml0 hP hK
  obtain ⟨rfl, hZ, hh⟩ := hP
  have hx := Bd.exec
  have hby := Bd.bytes
  have hml : c.maxLocals = 15 := hml0
  have hown : s.vm.findClass "com/example/careful_ledger/carefulledger/json/PlainLineShapeValuesPinLaw" = some m.cls := findClass_of_methodNamed Bd.named
  have hnm := (name_of_methodNamed Bd.named Bd.method).1
  have X0 : Stand p l e room_1 s m #[(.int vi0), (.int vi1), (.int vi2), (.int vi3), (.int vi4)] below meth c s₁ [] 0 0 := Stand.of_body Bd
  have e0 : s₁.heap = h0 := by rw [← hh, Bd.state]; rfl
  have N0 := Fr.nil n0
  have pre0 : ∀ t, Steps p.tables e below (s₁.setTop (mkF m 0 #[.val (.int vi0), .val (.int vi1), .val (.int vi2), .val (.int vi3), .val (.int vi4), .unset, .unset, .unset, .unset, .unset, .unset, .unset, .unset, .unset, .unset] [])) t → Steps p.tables e below (s₁.setTop (entryFrame m #[(.int vi0), (.int vi1), (.int vi2), (.int vi3), (.int vi4)] maxLocals)) t := fun t k => castTop (ef_0_n1k m vi0 vi1 vi2 vi3 vi4) k
  obtain ⟨Tc, Lc, b1, b5, b9, b10, p11, en11, tg11, ln, la, lb, lc, k9, kp11, ke11, kt11, t4, t8, Xc, Nc, Zc, Kc, Oc, cf0, cf1, cf2, cf3, cf4, cf5, cf6, cf7, cf8, cf9, cf10, cf11, cf12, cf13, cf14, cf15, cf16, cf17, cf18, cf19, cf20, cf21, cf22, cf23, cf24, cf25, cf26, cf27, cf28, cf29, cf30, cf31, cf32, cf33, cf34, cf35, cf36, cf37, cf38, cf39, cf40, cf41, cf42, cf43, cf44, cf45, cf46, cf47, cf48, cf49, cf50, cf51, cf52, cf53, cf54, cf55, cf56, e_ln, e_la, e_lb, e_lc, hln, hla, hlb, hlc, stc⟩ := cut0 l Z a0 hw vi0 vi1 vi2 vi3 vi4 w_COMPACT_STRINGS h0 n0 Z0 S_COMPACT_STRINGS hG O0 X0 hx hby hml hown hnm hZ e0
  have hc107 := k107
  have hc132 := k132
  have hc188 := k188
  rw [← e_ln] at hc107 hc132
  rw [← e_la, ← e_lb, ← e_lc] at hc188
  obtain ⟨cq201, kq201, q201a, q201b, q201c⟩ := isOf hZ rfl cf7
  obtain ⟨_, _, ⟨T201, L201, k201, n201⟩, -, X201, ⟨Lc201, hQ201, l201, y201, z201⟩, st201⟩ := Xc.virtualBack hx (y := (⟨"com/example/careful_ledger/carefulledger/json/PlainLine", "moveTo", "(I)V"⟩ : MethodName)) (z := (⟨"com/example/careful_ledger/carefulledger/json/PlainLine", "moveTo", "(I)V"⟩ : MethodName)) hown (mvT hZ (wd_84 hw)) (mvT hZ (wd_85 hw)) (notFace_of_selects (args := #[]) (mvT hZ (wd_87 hw))) (mvT hZ (wd_87 hw)) (mvT hZ (wd_86 hw)) (by decide) (backOf (W := 0) (rm11 l Z a0 hw [] b10 la (.ref b9) (.int (0 : Int32)) (.int (6144 : Int32)) (.ref p11) (.ref en11) (.ref tg11) .null (.int (0 : Int32)) (.int (1 : Int32)) (.int (0 : Int32)) Tc.heap n0 Zc cf7 cf12 cf13 cf14 cf15 cf16 cf17 cf18 cf19 cf20 cf21 cf28) hZ (wd_88 hw) (wd_33 hw) (by decide) (by decide)) q201a q201c (g := (mkF m 114 #[.val (.int vi0), .val (.int vi1), .val (.int vi2), .val (.int vi3), .val (.int vi4), .val (.int ln), .val (.int la), .val (.int lb), .val (.int lc), .val (.int ((vi4 &&& (255 : Int32)).toUInt32.toUInt16.toUInt32.toInt32)), .val (.ref b1), .val (.ref b5), .val (.ref b9), .val (.ref b10), .unset] [(.int la), (.ref b10)])) rfl (by rw [hml]; rfl) (Steps.refl _) (argsL := [(.int la)]) (rest := []) (lenOf pd_6 rfl) rfl (by show 2 * 0 + _ ≤ _; exact Nat.le_of_eq rfl) (hb hby at_114) (fun _ _ => ⟨rfl, rfl, (by decide : 13 + 0 ≤ _), (by decide : 6265 + 0 ≤ _)⟩)
  dsimp only [Pt.U, Pt.locs, Pt.cells, Pt.slots] at X201 l201 y201 z201 st201 hQ201
  subst l201 y201 z201
  obtain ⟨rfl, N201q, p201_0, p201_1, p201_2, p201_3, p201_4, p201_5, p201_6, p201_7, p201_8, p201_9, p201_10⟩ := hQ201
  have N201 := Fr.app Nc N201q
  have K201 : Keep h0 T201.heap [] := Kc.trans p201_0 (allS (Or.inr cf29) all0)
  obtain ⟨cq202, kq202, q202a, q202b, q202c⟩ := isOf hZ rfl (cf7.keep p201_0)
  obtain ⟨_, _, ⟨T202, L202, k202, n202⟩, -, X202, ⟨Lc202, hQ202, l202, y202, z202⟩, st202⟩ := X201.virtualBack hx (y := (⟨"com/example/careful_ledger/carefulledger/json/PlainLine", "valueComes", "(Ljava/lang/Object;)V"⟩ : MethodName)) (z := (⟨"com/example/careful_ledger/carefulledger/json/PlainLine", "valueComes", "(Ljava/lang/Object;)V"⟩ : MethodName)) hown (mvT hZ (wd_107 hw)) (mvT hZ (wd_108 hw)) (notFace_of_selects (args := #[]) (mvT hZ (wd_110 hw))) (mvT hZ (wd_110 hw)) (mvT hZ (wd_109 hw)) (by decide) (backOf (W := 0) (rm15_v0 l Z a0 hw [] b10 b1 b9 la (.int (6144 : Int32)) p11 en11 tg11 .null (0 : Int32) ke11 (64 : Int32) kp11 (List.replicate 64 (.int (0 : Int32))) k9 (List.replicate 6144 (.int (0 : Int32))) kt11 (0 : Int32) (0 : Int32) (0 : Int32) .null .null T201.heap n0 (Nat.le_trans Zc p201_0.1) (cf7.keep p201_0) p201_1 p201_2 p201_3 p201_4 p201_5 p201_6 p201_7 p201_8 p201_9 p201_10 (cf9.keep p201_0 (ninS (Ne.symm cf52) nin0)) (cf8.keep p201_0 (ninS (Ne.symm cf51) nin0)) (cf6.keep p201_0 (ninS cf47 nin0)) (cf10.keep p201_0 (ninS (Ne.symm cf53) nin0)) (List.length_replicate) (by decide) (by decide) cf28 cf30 cf32 cf34 (Ne.symm cf51) (Ne.symm cf52) (Ne.symm cf53) cf47 cf54 cf55 (Ne.symm cf48) cf56 (Ne.symm cf49) (Ne.symm cf50) cf11 (by decide) (by decide) (own_ar6 la lb lc hla hlb hlc) (own_ar7 la lb lc hla hlb hlc) (own_ar8 la lb lc hla hlb hlc) (own_ar9 la lb lc hla hlb hlc) (own_ar10 la lb lc hla hlb hlc) (cf0.keep p201_0)) hZ (wd_111 hw) (wd_33 hw) (by decide) (by decide)) q202a q202c (g := (mkF m 121 #[.val (.int vi0), .val (.int vi1), .val (.int vi2), .val (.int vi3), .val (.int vi4), .val (.int ln), .val (.int la), .val (.int lb), .val (.int lc), .val (.int ((vi4 &&& (255 : Int32)).toUInt32.toUInt16.toUInt32.toInt32)), .val (.ref b1), .val (.ref b5), .val (.ref b9), .val (.ref b10), .unset] [(.ref b1), (.ref b10)])) rfl (by rw [hml]; rfl) (Steps.refl _) (argsL := [(.ref b1)]) (rest := []) (lenOf pd_8 rfl) rfl (by show 2 * 0 + _ ≤ _; exact Nat.le_of_eq rfl) (hb hby at_121) (fun _ _ => ⟨rfl, rfl, (by decide : 13 + 1 ≤ _), (by decide : 6265 + 4096 ≤ _)⟩)
  dsimp only [Pt.U, Pt.locs, Pt.cells, Pt.slots] at X202 l202 y202 z202 st202 hQ202
  subst l202 y202 z202
  obtain ⟨p2202, k2202, n2202, v2202, rfl, N202q, p202_0, p202_1, p202_2, p202_3, p202_4, p202_5, p202_6, p202_7, p202_8, p202_9, p202_10, p202_11, p202_12, p202_13, p202_14, p202_15, p202_16, p202_17, p202_18, p202_19, p202_20, p202_21, p202_22⟩ := hQ202
  have N202 := Fr.app N201 N202q
  have K202 : Keep h0 T202.heap [] := K201.trans p202_0 (allS (Or.inr cf29) (allS (Or.inr cf31) (allS (Or.inr cf33) (allS (Or.inr cf35) all0))))
  have sz_p2202 : h0.size ≤ p2202 := p202_18.elim (fun q => q ▸ cf31) (fun q => Nat.le_trans K201.1 q)
  obtain ⟨cq203, kq203, q203a, q203b, q203c⟩ := isOf hZ rfl ((cf7.keep p201_0).keep p202_0)
  obtain ⟨_, _, ⟨T203, L203, k203, n203⟩, -, X203, ⟨Lc203, hQ203, l203, y203, z203⟩, st203⟩ := X202.virtualBack hx (y := (⟨"com/example/careful_ledger/carefulledger/json/PlainLine", "valueRead", "()V"⟩ : MethodName)) (z := (⟨"com/example/careful_ledger/carefulledger/json/PlainLine", "valueRead", "()V"⟩ : MethodName)) hown (mvT hZ (wd_126 hw)) (mvT hZ (wd_127 hw)) (notFace_of_selects (args := #[]) (mvT hZ (wd_129 hw))) (mvT hZ (wd_129 hw)) (mvT hZ (wd_128 hw)) (by decide) (backOf (W := 0) (rm19 l Z a0 hw [] b10 (.ref b9) la (.int (6144 : Int32)) (.ref p2202) (.ref en11) (.ref tg11) .null (.int (1 : Int32)) (.int (1 : Int32)) (.int (0 : Int32)) T202.heap n0 (Nat.le_trans (Nat.le_trans Zc p201_0.1) p202_0.1) ((cf7.keep p201_0).keep p202_0) p202_1 p202_2 p202_3 p202_4 p202_5 p202_6 p202_7 p202_8 p202_9 p202_10 cf28) hZ (wd_130 hw) (wd_33 hw) (by decide) (by decide)) q203a q203c (g := (mkF m 126 #[.val (.int vi0), .val (.int vi1), .val (.int vi2), .val (.int vi3), .val (.int vi4), .val (.int ln), .val (.int la), .val (.int lb), .val (.int lc), .val (.int ((vi4 &&& (255 : Int32)).toUInt32.toUInt16.toUInt32.toInt32)), .val (.ref b1), .val (.ref b5), .val (.ref b9), .val (.ref b10), .unset] [(.ref b10)])) rfl (by rw [hml]; rfl) (Steps.refl _) (argsL := []) (rest := []) (lenOf pd_2 rfl) rfl (by show 2 * 0 + _ ≤ _; exact Nat.le_of_eq rfl) (hb hby at_126) (fun _ _ => ⟨rfl, rfl, (by decide : 14 + 0 ≤ _), (by decide : 10361 + 0 ≤ _)⟩)
  dsimp only [Pt.U, Pt.locs, Pt.cells, Pt.slots] at X203 l203 y203 z203 st203 hQ203
  subst l203 y203 z203
  obtain ⟨rfl, N203q, p203_0, p203_1, p203_2, p203_3, p203_4, p203_5, p203_6, p203_7, p203_8, p203_9, p203_10⟩ := hQ203
  have N203 := Fr.app N202 N203q
  have K203 : Keep h0 T203.heap [] := K202.trans p203_0 (allS (Or.inr cf29) all0)
  obtain ⟨cq204, kq204, q204a, q204b, q204c⟩ := isOf hZ rfl (((cf7.keep p201_0).keep p202_0).keep p203_0)
  obtain ⟨_, _, ⟨T204, L204, k204, n204⟩, -, X204, ⟨Lc204, hQ204, l204, y204, z204⟩, st204⟩ := X203.virtualBack hx (y := (⟨"com/example/careful_ledger/carefulledger/json/PlainLine", "moveTo", "(I)V"⟩ : MethodName)) (z := (⟨"com/example/careful_ledger/carefulledger/json/PlainLine", "moveTo", "(I)V"⟩ : MethodName)) hown (mvT hZ (wd_84 hw)) (mvT hZ (wd_85 hw)) (notFace_of_selects (args := #[]) (mvT hZ (wd_87 hw))) (mvT hZ (wd_87 hw)) (mvT hZ (wd_86 hw)) (by decide) (backOf (W := 0) (rm11 l Z a0 hw [] b10 ((la + lb) + lc) (.ref b9) (.int la) (.int (6144 : Int32)) (.ref p2202) (.ref en11) (.ref tg11) .null (.int (1 : Int32)) (.int (1 : Int32)) (.int la) T203.heap n0 (Nat.le_trans (Nat.le_trans (Nat.le_trans Zc p201_0.1) p202_0.1) p203_0.1) (((cf7.keep p201_0).keep p202_0).keep p203_0) p203_1 p203_2 p203_3 p203_4 p203_5 p203_6 p203_7 p203_8 p203_9 p203_10 cf28) hZ (wd_88 hw) (wd_33 hw) (by decide) (by decide)) q204a q204c (g := (mkF m 167 #[.val (.int vi0), .val (.int vi1), .val (.int vi2), .val (.int vi3), .val (.int vi4), .val (.int ln), .val (.int la), .val (.int lb), .val (.int lc), .val (.int ((vi4 &&& (255 : Int32)).toUInt32.toUInt16.toUInt32.toInt32)), .val (.ref b1), .val (.ref b5), .val (.ref b9), .val (.ref b10), .unset] [(.int ((la + lb) + lc)), (.ref b10)])) rfl (by rw [hml]; rfl) (Steps.refl _) (argsL := [(.int ((la + lb) + lc))]) (rest := []) (lenOf pd_6 rfl) rfl (by show 2 * 0 + _ ≤ _; exact Nat.le_of_eq rfl) (hb hby at_167) (fun _ _ => ⟨rfl, rfl, (by decide : 14 + 0 ≤ _), (by decide : 10361 + 0 ≤ _)⟩)
  dsimp only [Pt.U, Pt.locs, Pt.cells, Pt.slots] at X204 l204 y204 z204 st204 hQ204
  subst l204 y204 z204
  obtain ⟨rfl, N204q, p204_0, p204_1, p204_2, p204_3, p204_4, p204_5, p204_6, p204_7, p204_8, p204_9, p204_10⟩ := hQ204
  have N204 := Fr.app N203 N204q
  have K204 : Keep h0 T204.heap [] := K203.trans p204_0 (allS (Or.inr cf29) all0)
  obtain ⟨cq205, kq205, q205a, q205b, q205c⟩ := isOf hZ rfl ((((cf7.keep p201_0).keep p202_0).keep p203_0).keep p204_0)
  obtain ⟨_, _, ⟨T205, L205, k205, n205⟩, -, X205, ⟨Lc205, hQ205, l205, y205, z205⟩, st205⟩ := X204.virtualBack hx (y := (⟨"com/example/careful_ledger/carefulledger/json/PlainLine", "endShape", "(Ljava/lang/Object;)V"⟩ : MethodName)) (z := (⟨"com/example/careful_ledger/carefulledger/json/PlainLine", "endShape", "(Ljava/lang/Object;)V"⟩ : MethodName)) hown (mvT hZ (wd_89 hw)) (mvT hZ (wd_90 hw)) (notFace_of_selects (args := #[]) (mvT hZ (wd_92 hw))) (mvT hZ (wd_92 hw)) (mvT hZ (wd_91 hw)) (by decide) (backOf (W := 0) (rm12_ok1 l Z a0 hw [] b10 b1 b9 ((la + lb) + lc) (.int (6144 : Int32)) p2202 en11 tg11 .null la ke11 n2202 k2202 v2202 k9 (List.replicate 6144 (.int (0 : Int32))) kt11 ((0 : Int32) + (la - (0 : Int32))) (0 : Int32) (0 : Int32) (.ref b1) .null T204.heap n0 (Nat.le_trans (Nat.le_trans (Nat.le_trans (Nat.le_trans Zc p201_0.1) p202_0.1) p203_0.1) p204_0.1) ((((cf7.keep p201_0).keep p202_0).keep p203_0).keep p204_0) p204_1 p204_2 p204_3 p204_4 p204_5 p204_6 p204_7 p204_8 p204_9 p204_10 ((p202_11.keep p203_0 (ninS (Ne.symm cf52) nin0)).keep p204_0 (ninS (Ne.symm cf52) nin0)) ((p202_13.keep p203_0 (ninS p202_19 nin0)).keep p204_0 (ninS p202_19 nin0)) ((((cf6.keep p201_0 (ninS cf47 nin0)).keep p202_0 (ninS cf47 (ninS cf48 (ninS cf49 (ninS cf50 nin0))))).keep p203_0 (ninS cf47 nin0)).keep p204_0 (ninS cf47 nin0)) ((p202_12.keep p203_0 (ninS (Ne.symm cf53) nin0)).keep p204_0 (ninS (Ne.symm cf53) nin0)) p202_14 p202_15 p202_16 cf28 p202_17 cf32 cf34 p202_19 (Ne.symm cf52) (Ne.symm cf53) cf47 p202_20 p202_22 p202_21 cf56 (Ne.symm cf49) (Ne.symm cf50) cf11 (own_ar11 la lb lc hla hlb hlc) (own_ar9 la lb lc hla hlb hlc) (own_ar12 la lb lc hla hlb hlc) (own_ar13 la lb lc hla hlb hlc hc188) (own_ar14 la lb lc hla hlb hlc) (own_ar15 la lb lc hla hlb hlc hc188) (own_ar16 la lb lc hla hlb hlc hc188)) hZ (wd_93 hw) (wd_33 hw) (by decide) (by decide)) q205a q205c (g := (mkF m 174 #[.val (.int vi0), .val (.int vi1), .val (.int vi2), .val (.int vi3), .val (.int vi4), .val (.int ln), .val (.int la), .val (.int lb), .val (.int lc), .val (.int ((vi4 &&& (255 : Int32)).toUInt32.toUInt16.toUInt32.toInt32)), .val (.ref b1), .val (.ref b5), .val (.ref b9), .val (.ref b10), .unset] [(.ref b1), (.ref b10)])) rfl (by rw [hml]; rfl) (Steps.refl _) (argsL := [(.ref b1)]) (rest := []) (lenOf pd_8 rfl) rfl (by show 2 * 0 + _ ≤ _; exact Nat.le_of_eq rfl) (hb hby at_174) (fun _ _ => ⟨rfl, rfl, (by decide : 14 + 1 ≤ _), (by decide : 10361 + 4096 ≤ _)⟩)
  dsimp only [Pt.U, Pt.locs, Pt.cells, Pt.slots] at X205 l205 y205 z205 st205 hQ205
  subst l205 y205 z205
  obtain ⟨p2205, rfl, N205q, p205_0, p205_1, p205_2, p205_3, p205_4, p205_5, p205_6, p205_7, p205_8, p205_9, p205_10⟩ := hQ205
  have N205 := Fr.app N204 N205q
  have K205 : Keep h0 T205.heap [] := K204.trans p205_0 (allS (Or.inr cf29) (allS (Or.inr sz_p2202) (allS (Or.inr cf33) all0)))
  obtain ⟨cq206, kq206, q206a, q206b, q206c⟩ := isOf hZ rfl (((((cf7.keep p201_0).keep p202_0).keep p203_0).keep p204_0).keep p205_0)
  obtain ⟨_, _, ⟨T206, L206, k206, n206⟩, -, X206, ⟨Lc206, hQ206, l206, y206, z206⟩, st206⟩ := X205.virtualBack hx (y := (⟨"com/example/careful_ledger/carefulledger/json/PlainLine", "shapeValues", "(Ljava/lang/Object;)I"⟩ : MethodName)) (z := (⟨"com/example/careful_ledger/carefulledger/json/PlainLine", "shapeValues", "(Ljava/lang/Object;)I"⟩ : MethodName)) hown (mvT hZ (wd_102 hw)) (mvT hZ (wd_103 hw)) (notFace_of_selects (args := #[]) (mvT hZ (wd_105 hw))) (mvT hZ (wd_105 hw)) (mvT hZ (wd_104 hw)) (by decide) (backOf (W := 0) (rm14_same l Z a0 hw [] b10 b1 (1 : Int32) T205.heap n0 (Nat.le_trans (Nat.le_trans (Nat.le_trans (Nat.le_trans (Nat.le_trans Zc p201_0.1) p202_0.1) p203_0.1) p204_0.1) p205_0.1) p205_7 p205_8) hZ (wd_106 hw) (wd_33 hw) (by decide) (by decide)) q206a q206c (g := (mkF m 203 #[.val (.int vi0), .val (.int vi1), .val (.int vi2), .val (.int vi3), .val (.int vi4), .val (.int ln), .val (.int la), .val (.int lb), .val (.int lc), .val (.int ((vi4 &&& (255 : Int32)).toUInt32.toUInt16.toUInt32.toInt32)), .val (.ref b1), .val (.ref b5), .val (.ref b9), .val (.ref b10), .val (.int ln)] [(.ref b1), (.ref b10)])) rfl (by rw [hml]; rfl) (Steps.refl _) (argsL := [(.ref b1)]) (rest := []) (lenOf pd_10 rfl) rfl (by show 2 * 0 + _ ≤ _; exact Nat.le_of_eq rfl) (hb hby at_203) (fun _ _ => ⟨rfl, rfl, (by decide : 15 + 0 ≤ _), (by decide : 14457 + 0 ≤ _)⟩)
  dsimp only [Pt.U, Pt.locs, Pt.cells, Pt.slots] at X206 l206 y206 z206 st206 hQ206
  subst l206 y206 z206
  obtain ⟨rfl, N206q, p206_0⟩ := hQ206
  have N206 := Fr.app N205 N206q
  have e206 : T206.heap = T205.heap := p206_0
  obtain ⟨cq207, kq207, q207a, q207b, q207c⟩ := isOf hZ e206 (((((cf7.keep p201_0).keep p202_0).keep p203_0).keep p204_0).keep p205_0)
  obtain ⟨_, _, ⟨T207, L207, k207, n207⟩, -, X207, ⟨Lc207, hQ207, l207, y207, z207⟩, st207⟩ := X206.virtualBack hx (y := (⟨"com/example/careful_ledger/carefulledger/json/PlainLine", "shapeValues", "(Ljava/lang/Object;)I"⟩ : MethodName)) (z := (⟨"com/example/careful_ledger/carefulledger/json/PlainLine", "shapeValues", "(Ljava/lang/Object;)I"⟩ : MethodName)) hown (mvT hZ (wd_102 hw)) (mvT hZ (wd_103 hw)) (notFace_of_selects (args := #[]) (mvT hZ (wd_105 hw))) (mvT hZ (wd_105 hw)) (mvT hZ (wd_104 hw)) (by decide) (backOf (W := 0) (rm14_other l Z a0 hw [] b10 b5 b1 T205.heap n0 (Nat.le_trans (Nat.le_trans (Nat.le_trans (Nat.le_trans (Nat.le_trans Zc p201_0.1) p202_0.1) p203_0.1) p204_0.1) p205_0.1) p205_7 cf36) hZ (wd_106 hw) (wd_33 hw) (by decide) (by decide)) q207a q207c (g := (mkF m 215 #[.val (.int vi0), .val (.int vi1), .val (.int vi2), .val (.int vi3), .val (.int vi4), .val (.int ln), .val (.int la), .val (.int lb), .val (.int lc), .val (.int ((vi4 &&& (255 : Int32)).toUInt32.toUInt16.toUInt32.toInt32)), .val (.ref b1), .val (.ref b5), .val (.ref b9), .val (.ref b10), .val (.int ln)] [(.ref b5), (.ref b10)])) rfl (by rw [hml]; rfl) (Steps.refl _) (argsL := [(.ref b5)]) (rest := []) (lenOf pd_10 rfl) rfl (by show 2 * 0 + _ ≤ _; exact Nat.le_of_eq rfl) (hb hby at_215) (fun _ _ => ⟨rfl, e206, (by decide : 15 + 0 ≤ _), (by decide : 14457 + 0 ≤ _)⟩)
  dsimp only [Pt.U, Pt.locs, Pt.cells, Pt.slots] at X207 l207 y207 z207 st207 hQ207
  subst l207 y207 z207
  obtain ⟨rfl, N207q, p207_0⟩ := hQ207
  have N207 := Fr.app N206 N207q
  have e207 : T207.heap = T205.heap := p207_0
  obtain ⟨fs, hr, hrun, hended, hW, hsame⟩ := X207.leave (v := some (.int (1 : Int32))) (fun h => by rw [Bd.returns] at h; cases h)
  refine ⟨_, _, pre0 _ ?_, hrun, hended, _, _, rfl, ?_, ⟨_, rfl⟩, hW, hsame.mono (by decide) (by decide)⟩
  · refine stc _ ?_
    show Steps p.tables e below (Tc.setTop (mkF m 104 #[.val (.int vi0), .val (.int vi1), .val (.int vi2), .val (.int vi3), .val (.int vi4), .val (.int ln), .val (.int la), .val (.int lb), .val (.int lc), .val (.int ((vi4 &&& (255 : Int32)).toUInt32.toUInt16.toUInt32.toInt32)), .val (.ref b1), .val (.ref b5), .val (.ref b9), .val (.ref b10), .unset] [])) _
    refine XS.iload Xc.here hx rfl (hb hby at_104) rfl ?_
    refine XS.iconst Xc.here hx rfl (hb hby at_106) ?_
    show Steps p.tables e below (Tc.setTop (mkF m 107 #[.val (.int vi0), .val (.int vi1), .val (.int vi2), .val (.int vi3), .val (.int vi4), .val (.int ln), .val (.int la), .val (.int lb), .val (.int lc), .val (.int ((vi4 &&& (255 : Int32)).toUInt32.toUInt16.toUInt32.toInt32)), .val (.ref b1), .val (.ref b5), .val (.ref b9), .val (.ref b10), .unset] [(.int (1 : Int32)), (.int ln)])) _
    refine XS.icmpNo Xc.here hx rfl (hb hby at_107) rfl (flt hc107).1 ?_
    refine XS.aload Xc.here hx rfl (hb hby at_110) rfl rfl ?_
    show Steps p.tables e below (Tc.setTop (mkF m 112 #[.val (.int vi0), .val (.int vi1), .val (.int vi2), .val (.int vi3), .val (.int vi4), .val (.int ln), .val (.int la), .val (.int lb), .val (.int lc), .val (.int ((vi4 &&& (255 : Int32)).toUInt32.toUInt16.toUInt32.toInt32)), .val (.ref b1), .val (.ref b5), .val (.ref b9), .val (.ref b10), .unset] [(.ref b10)])) _
    refine XS.iload Xc.here hx rfl (hb hby at_112) rfl ?_
    show Steps p.tables e below (Tc.setTop (mkF m 114 #[.val (.int vi0), .val (.int vi1), .val (.int vi2), .val (.int vi3), .val (.int vi4), .val (.int ln), .val (.int la), .val (.int lb), .val (.int lc), .val (.int ((vi4 &&& (255 : Int32)).toUInt32.toUInt16.toUInt32.toInt32)), .val (.ref b1), .val (.ref b5), .val (.ref b9), .val (.ref b10), .unset] [(.int la), (.ref b10)])) _
    refine st201.trans ?_
    refine XS.aload X201.here hx rfl (hb hby at_117) rfl rfl ?_
    refine XS.aload X201.here hx rfl (hb hby at_119) rfl rfl ?_
    show Steps p.tables e below (T201.setTop (mkF m 121 #[.val (.int vi0), .val (.int vi1), .val (.int vi2), .val (.int vi3), .val (.int vi4), .val (.int ln), .val (.int la), .val (.int lb), .val (.int lc), .val (.int ((vi4 &&& (255 : Int32)).toUInt32.toUInt16.toUInt32.toInt32)), .val (.ref b1), .val (.ref b5), .val (.ref b9), .val (.ref b10), .unset] [(.ref b1), (.ref b10)])) _
    refine st202.trans ?_
    refine XS.aload X202.here hx rfl (hb hby at_124) rfl rfl ?_
    show Steps p.tables e below (T202.setTop (mkF m 126 #[.val (.int vi0), .val (.int vi1), .val (.int vi2), .val (.int vi3), .val (.int vi4), .val (.int ln), .val (.int la), .val (.int lb), .val (.int lc), .val (.int ((vi4 &&& (255 : Int32)).toUInt32.toUInt16.toUInt32.toInt32)), .val (.ref b1), .val (.ref b5), .val (.ref b9), .val (.ref b10), .unset] [(.ref b10)])) _
    refine st203.trans ?_
    refine XS.iload X203.here hx rfl (hb hby at_129) rfl ?_
    show Steps p.tables e below (T203.setTop (mkF m 131 #[.val (.int vi0), .val (.int vi1), .val (.int vi2), .val (.int vi3), .val (.int vi4), .val (.int ln), .val (.int la), .val (.int lb), .val (.int lc), .val (.int ((vi4 &&& (255 : Int32)).toUInt32.toUInt16.toUInt32.toInt32)), .val (.ref b1), .val (.ref b5), .val (.ref b9), .val (.ref b10), .unset] [(.int ln)])) _
    refine XS.iconst X203.here hx rfl (hb hby at_131) ?_
    show Steps p.tables e below (T203.setTop (mkF m 132 #[.val (.int vi0), .val (.int vi1), .val (.int vi2), .val (.int vi3), .val (.int vi4), .val (.int ln), .val (.int la), .val (.int lb), .val (.int lc), .val (.int ((vi4 &&& (255 : Int32)).toUInt32.toUInt16.toUInt32.toInt32)), .val (.ref b1), .val (.ref b5), .val (.ref b9), .val (.ref b10), .unset] [(.int (2 : Int32)), (.int ln)])) _
    refine XS.icmpYes X203.here hx rfl (pc0 := 132) (pc' := 157) rfl (hb hby at_132) rfl (tlt hc132).1 (by decide) (by decide) ?_
    refine XS.aload X203.here hx rfl (hb hby at_157) rfl rfl ?_
    refine XS.iload X203.here hx rfl (hb hby at_159) rfl ?_
    show Steps p.tables e below (T203.setTop (mkF m 161 #[.val (.int vi0), .val (.int vi1), .val (.int vi2), .val (.int vi3), .val (.int vi4), .val (.int ln), .val (.int la), .val (.int lb), .val (.int lc), .val (.int ((vi4 &&& (255 : Int32)).toUInt32.toUInt16.toUInt32.toInt32)), .val (.ref b1), .val (.ref b5), .val (.ref b9), .val (.ref b10), .unset] [(.int la), (.ref b10)])) _
    refine XS.iload X203.here hx rfl (hb hby at_161) rfl ?_
    refine XS.iadd X203.here hx rfl (hb hby at_163) rfl ?_
    refine XS.iload X203.here hx rfl (hb hby at_164) rfl ?_
    refine XS.iadd X203.here hx rfl (hb hby at_166) rfl ?_
    show Steps p.tables e below (T203.setTop (mkF m 167 #[.val (.int vi0), .val (.int vi1), .val (.int vi2), .val (.int vi3), .val (.int vi4), .val (.int ln), .val (.int la), .val (.int lb), .val (.int lc), .val (.int ((vi4 &&& (255 : Int32)).toUInt32.toUInt16.toUInt32.toInt32)), .val (.ref b1), .val (.ref b5), .val (.ref b9), .val (.ref b10), .unset] [(.int ((la + lb) + lc)), (.ref b10)])) _
    refine st204.trans ?_
    refine XS.aload X204.here hx rfl (hb hby at_170) rfl rfl ?_
    refine XS.aload X204.here hx rfl (hb hby at_172) rfl rfl ?_
    show Steps p.tables e below (T204.setTop (mkF m 174 #[.val (.int vi0), .val (.int vi1), .val (.int vi2), .val (.int vi3), .val (.int vi4), .val (.int ln), .val (.int la), .val (.int lb), .val (.int lc), .val (.int ((vi4 &&& (255 : Int32)).toUInt32.toUInt16.toUInt32.toInt32)), .val (.ref b1), .val (.ref b5), .val (.ref b9), .val (.ref b10), .unset] [(.ref b1), (.ref b10)])) _
    refine st205.trans ?_
    show Steps p.tables e below (T205.setTop (mkF m 177 #[.val (.int vi0), .val (.int vi1), .val (.int vi2), .val (.int vi3), .val (.int vi4), .val (.int ln), .val (.int la), .val (.int lb), .val (.int lc), .val (.int ((vi4 &&& (255 : Int32)).toUInt32.toUInt16.toUInt32.toInt32)), .val (.ref b1), .val (.ref b5), .val (.ref b9), .val (.ref b10), .unset] [])) _
    refine XS.iload X205.here hx rfl (hb hby at_177) rfl ?_
    refine XS.iload X205.here hx rfl (hb hby at_179) rfl ?_
    refine XS.iadd X205.here hx rfl (hb hby at_181) rfl ?_
    refine XS.iload X205.here hx rfl (hb hby at_182) rfl ?_
    show Steps p.tables e below (T205.setTop (mkF m 184 #[.val (.int vi0), .val (.int vi1), .val (.int vi2), .val (.int vi3), .val (.int vi4), .val (.int ln), .val (.int la), .val (.int lb), .val (.int lc), .val (.int ((vi4 &&& (255 : Int32)).toUInt32.toUInt16.toUInt32.toInt32)), .val (.ref b1), .val (.ref b5), .val (.ref b9), .val (.ref b10), .unset] [(.int lc), (.int (la + lb))])) _
    refine XS.iadd X205.here hx rfl (hb hby at_184) rfl ?_
    refine XS.sipush X205.here hx rfl (hb hby at_185) ?_
    show Steps p.tables e below (T205.setTop (mkF m 188 #[.val (.int vi0), .val (.int vi1), .val (.int vi2), .val (.int vi3), .val (.int vi4), .val (.int ln), .val (.int la), .val (.int lb), .val (.int lc), .val (.int ((vi4 &&& (255 : Int32)).toUInt32.toUInt16.toUInt32.toInt32)), .val (.ref b1), .val (.ref b5), .val (.ref b9), .val (.ref b10), .unset] [(.int (4096 : Int32)), (.int ((la + lb) + lc))])) _
    refine XS.icmpNo X205.here hx rfl (hb hby at_188) rfl (flt hc188).2.2.1 ?_
    refine XS.iload X205.here hx rfl (hb hby at_191) rfl ?_
    show Steps p.tables e below (T205.setTop (mkF m 193 #[.val (.int vi0), .val (.int vi1), .val (.int vi2), .val (.int vi3), .val (.int vi4), .val (.int ln), .val (.int la), .val (.int lb), .val (.int lc), .val (.int ((vi4 &&& (255 : Int32)).toUInt32.toUInt16.toUInt32.toInt32)), .val (.ref b1), .val (.ref b5), .val (.ref b9), .val (.ref b10), .unset] [(.int ln)])) _
    refine XS.goto X205.here hx rfl (pc0 := 193) (pc' := 197) rfl (hb hby at_193) (by decide) (by decide) ?_
    refine XS.istore X205.here hx rfl (hb hby at_197) rfl (l' := #[.val (.int vi0), .val (.int vi1), .val (.int vi2), .val (.int vi3), .val (.int vi4), .val (.int ln), .val (.int la), .val (.int lb), .val (.int lc), .val (.int ((vi4 &&& (255 : Int32)).toUInt32.toUInt16.toUInt32.toInt32)), .val (.ref b1), .val (.ref b5), .val (.ref b9), .val (.ref b10), .val (.int ln)]) rfl ?_
    refine XS.aload X205.here hx rfl (hb hby at_199) rfl rfl ?_
    refine XS.aload X205.here hx rfl (hb hby at_201) rfl rfl ?_
    show Steps p.tables e below (T205.setTop (mkF m 203 #[.val (.int vi0), .val (.int vi1), .val (.int vi2), .val (.int vi3), .val (.int vi4), .val (.int ln), .val (.int la), .val (.int lb), .val (.int lc), .val (.int ((vi4 &&& (255 : Int32)).toUInt32.toUInt16.toUInt32.toInt32)), .val (.ref b1), .val (.ref b5), .val (.ref b9), .val (.ref b10), .val (.int ln)] [(.ref b1), (.ref b10)])) _
    refine st206.trans ?_
    refine XS.iload X206.here hx rfl (hb hby at_206) rfl ?_
    show Steps p.tables e below (T206.setTop (mkF m 208 #[.val (.int vi0), .val (.int vi1), .val (.int vi2), .val (.int vi3), .val (.int vi4), .val (.int ln), .val (.int la), .val (.int lb), .val (.int lc), .val (.int ((vi4 &&& (255 : Int32)).toUInt32.toUInt16.toUInt32.toInt32)), .val (.ref b1), .val (.ref b5), .val (.ref b9), .val (.ref b10), .val (.int ln)] [(.int ln), (.int (1 : Int32))])) _
    refine XS.icmpNo X206.here hx rfl (hb hby at_208) rfl (teq (own_is 1 (by decide) (by have q := hln; have c1 := hc107; have c2 := hc132; simp only [Int32.lt_iff_toInt_lt, show (1 : Int32).toInt = 1 from by decide, show (2 : Int32).toInt = 2 from by decide] at c1 c2; omega))).2 ?_
    refine XS.aload X206.here hx rfl (hb hby at_211) rfl rfl ?_
    show Steps p.tables e below (T206.setTop (mkF m 213 #[.val (.int vi0), .val (.int vi1), .val (.int vi2), .val (.int vi3), .val (.int vi4), .val (.int ln), .val (.int la), .val (.int lb), .val (.int lc), .val (.int ((vi4 &&& (255 : Int32)).toUInt32.toUInt16.toUInt32.toInt32)), .val (.ref b1), .val (.ref b5), .val (.ref b9), .val (.ref b10), .val (.int ln)] [(.ref b10)])) _
    refine XS.aload X206.here hx rfl (hb hby at_213) rfl rfl ?_
    show Steps p.tables e below (T206.setTop (mkF m 215 #[.val (.int vi0), .val (.int vi1), .val (.int vi2), .val (.int vi3), .val (.int vi4), .val (.int ln), .val (.int la), .val (.int lb), .val (.int lc), .val (.int ((vi4 &&& (255 : Int32)).toUInt32.toUInt16.toUInt32.toInt32)), .val (.ref b1), .val (.ref b5), .val (.ref b9), .val (.ref b10), .val (.int ln)] [(.ref b5), (.ref b10)])) _
    refine st207.trans ?_
    refine XS.iconst X207.here hx rfl (hb hby at_218) ?_
    show Steps p.tables e below (T207.setTop (mkF m 219 #[.val (.int vi0), .val (.int vi1), .val (.int vi2), .val (.int vi3), .val (.int vi4), .val (.int ln), .val (.int la), .val (.int lb), .val (.int lc), .val (.int ((vi4 &&& (255 : Int32)).toUInt32.toUInt16.toUInt32.toInt32)), .val (.ref b1), .val (.ref b5), .val (.ref b9), .val (.ref b10), .val (.int ln)] [(.int (-1 : Int32)), (.int (-1 : Int32))])) _
    refine XS.icmpNo X207.here hx rfl (hb hby at_219) rfl (teq (rfl : (-1 : Int32) = (-1 : Int32))).2 ?_
    show Steps p.tables e below (T207.setTop (mkF m 222 #[.val (.int vi0), .val (.int vi1), .val (.int vi2), .val (.int vi3), .val (.int vi4), .val (.int ln), .val (.int la), .val (.int lb), .val (.int lc), .val (.int ((vi4 &&& (255 : Int32)).toUInt32.toUInt16.toUInt32.toInt32)), .val (.ref b1), .val (.ref b5), .val (.ref b9), .val (.ref b10), .val (.int ln)] [])) _
    refine XS.iconst X207.here hx rfl (hb hby at_222) ?_
    refine XS.goto X207.here hx rfl (pc0 := 223) (pc' := 227) rfl (hb hby at_223) (by decide) (by decide) ?_
    exact retN X207 hx (t := .boolean) Bd.returns (by simp) (hb hby at_227) hr
  · show Q0_n1k Z vi0 vi1 vi2 vi3 vi4 w_COMPACT_STRINGS h0 n0 _ T207.heap _
    rw [e207]
    exact ⟨rfl, N207⟩
theorem own_ar17 (a : Int32) (b : Int32) (c : Int32) (ha : 0 ≤ a.toInt ∧ a.toInt ≤ 2047) (hb : 0 ≤ b.toInt ∧ b.toInt ≤ 2047) (hc : 0 ≤ c.toInt ∧ c.toInt ≤ 2047) (hh : (4096 : Int32) < ((a + b) + c)) : (4096 : Int32) < (((0 : Int32) + (a - (0 : Int32))) + (((a + b) + c) - a)) := by
  have l0 : (0 : Int32).toInt = 0 := by decide
  have l4096 : (4096 : Int32).toInt = 4096 := by decide
  have f0 := c_iadd a b
  have r0 := rng32 (a + b)
  have f1 := c_iadd (a + b) c
  have r1 := rng32 ((a + b) + c)
  have f2 := c_isub a (0 : Int32)
  have r2 := rng32 (a - (0 : Int32))
  have f3 := c_iadd (0 : Int32) (a - (0 : Int32))
  have r3 := rng32 ((0 : Int32) + (a - (0 : Int32)))
  have f4 := c_isub ((a + b) + c) a
  have r4 := rng32 (((a + b) + c) - a)
  have f5 := c_iadd ((0 : Int32) + (a - (0 : Int32))) (((a + b) + c) - a)
  have r5 := rng32 (((0 : Int32) + (a - (0 : Int32))) + (((a + b) + c) - a))
  have r_a := rng32 a
  have r_b := rng32 b
  have r_c := rng32 c
  simp only [Int32.lt_iff_toInt_lt, Int32.toNatClampNeg, ← Int32.toInt_inj, l0, l4096] at *
  omega
theorem ef_0_n1v (m : MethodId) (x0 : Int32) (x1 : Int32) (x2 : Int32) (x3 : Int32) (x4 : Int32) : entryFrame m #[(.int x0), (.int x1), (.int x2), (.int x3), (.int x4)] maxLocals = mkF m 0 #[.val (.int x0), .val (.int x1), .val (.int x2), .val (.int x3), .val (.int x4), .unset, .unset, .unset, .unset, .unset, .unset, .unset, .unset, .unset, .unset] [] := by first | (simp [entryFrame, mkF, argsToLocals, Value.category, maxLocals]; done) | rfl
def Q0_n1v (Z : State) (vi0 : Int32) (vi1 : Int32) (vi2 : Int32) (vi3 : Int32) (vi4 : Int32) (w_COMPACT_STRINGS : Int32) (h0 : Heap) (n0 : Nat) (v : Option Value) (h : Heap) (L : List Loc) : Prop := v = some (.int (1 : Int32)) ∧ Fr n0 L
set_option maxRecDepth 65536 in
set_option maxHeartbeats 40000000 in
theorem rm0_n1v (l : Launch) (Z : State) (a0 : Array Value) (hw : ∀ d ∈ tables_1, d.before a0 Z = true) (ws : List Jvm.Cond) (vi0 : Int32) (vi1 : Int32) (vi2 : Int32) (vi3 : Int32) (vi4 : Int32) (w_COMPACT_STRINGS : Int32) (h0 : Heap) (n0 : Nat) (Z0 : n0 ≤ h0.size) (k188 : (4096 : Int32) < (((vi1 &&& (2047 : Int32)) + (vi2 &&& (2047 : Int32))) + (vi3 &&& (2047 : Int32)))) (k107 : ¬ (((vi0 &&& (2147483647 : Int32)) % (3 : Int32)) < (1 : Int32))) (k132 : ((vi0 &&& (2147483647 : Int32)) % (3 : Int32)) < (2 : Int32)) (S_COMPACT_STRINGS : Sta Z Z.heap "java/lang/String" "COMPACT_STRINGS" "Z" (.int w_COMPACT_STRINGS)) (hG : ¬ (w_COMPACT_STRINGS = (0 : Int32))) (O0 : Old Z n0 h0) :
    MetFree l x (head1 (Jvm.Cond.code x code maxLocals ret :: ws) room_1) (fun a U => a = #[(.int vi0), (.int vi1), (.int vi2), (.int vi3), (.int vi4)] ∧ Z.Warmed39 U.vm ∧ U.heap = h0) (fun _ _ _ _ _ => True) (fun _ U o U' => ∃ v L, o = .returned v ∧ Q0_n1v Z vi0 vi1 vi2 vi3 vi4 w_COMPACT_STRINGS h0 n0 v U'.heap L ∧ FrameEnd U o U' L room_1.cells room_1.slots) := by
  refine MetFree.of_bodySF (plainFor_of_name pn_com_example_careful_ledger_carefulledger_json_PlainLineShapeValuesPinLaw) hisR ?_
  intro p e s m args below meth c s₁ Bd hml0 hP hK
  obtain ⟨rfl, hZ, hh⟩ := hP
  have hx := Bd.exec
  have hby := Bd.bytes
  have hml : c.maxLocals = 15 := hml0
  have hown : s.vm.findClass "com/example/careful_ledger/carefulledger/json/PlainLineShapeValuesPinLaw" = some m.cls := findClass_of_methodNamed Bd.named
  have hnm := (name_of_methodNamed Bd.named Bd.method).1
  have X0 : Stand p l e room_1 s m #[(.int vi0), (.int vi1), (.int vi2), (.int vi3), (.int vi4)] below meth c s₁ [] 0 0 := Stand.of_body Bd
  have e0 : s₁.heap = h0 := by rw [← hh, Bd.state]; rfl
  have N0 := Fr.nil n0
  have pre0 : ∀ t, Steps p.tables e below (s₁.setTop (mkF m 0 #[.val (.int vi0), .val (.int vi1), .val (.int vi2), .val (.int vi3), .val (.int vi4), .unset, .unset, .unset, .unset, .unset, .unset, .unset, .unset, .unset, .unset] [])) t → Steps p.tables e below (s₁.setTop (entryFrame m #[(.int vi0), (.int vi1), (.int vi2), (.int vi3), (.int vi4)] maxLocals)) t := fun t k => castTop (ef_0_n1v m vi0 vi1 vi2 vi3 vi4) k
  obtain ⟨Tc, Lc, b1, b5, b9, b10, p11, en11, tg11, ln, la, lb, lc, k9, kp11, ke11, kt11, t4, t8, Xc, Nc, Zc, Kc, Oc, cf0, cf1, cf2, cf3, cf4, cf5, cf6, cf7, cf8, cf9, cf10, cf11, cf12, cf13, cf14, cf15, cf16, cf17, cf18, cf19, cf20, cf21, cf22, cf23, cf24, cf25, cf26, cf27, cf28, cf29, cf30, cf31, cf32, cf33, cf34, cf35, cf36, cf37, cf38, cf39, cf40, cf41, cf42, cf43, cf44, cf45, cf46, cf47, cf48, cf49, cf50, cf51, cf52, cf53, cf54, cf55, cf56, e_ln, e_la, e_lb, e_lc, hln, hla, hlb, hlc, stc⟩ := cut0 l Z a0 hw vi0 vi1 vi2 vi3 vi4 w_COMPACT_STRINGS h0 n0 Z0 S_COMPACT_STRINGS hG O0 X0 hx hby hml hown hnm hZ e0
  have hc107 := k107
  have hc132 := k132
  have hc188 := k188
  rw [← e_ln] at hc107 hc132
  rw [← e_la, ← e_lb, ← e_lc] at hc188
  obtain ⟨cq201, kq201, q201a, q201b, q201c⟩ := isOf hZ rfl cf7
  obtain ⟨_, _, ⟨T201, L201, k201, n201⟩, -, X201, ⟨Lc201, hQ201, l201, y201, z201⟩, st201⟩ := Xc.virtualBack hx (y := (⟨"com/example/careful_ledger/carefulledger/json/PlainLine", "moveTo", "(I)V"⟩ : MethodName)) (z := (⟨"com/example/careful_ledger/carefulledger/json/PlainLine", "moveTo", "(I)V"⟩ : MethodName)) hown (mvT hZ (wd_84 hw)) (mvT hZ (wd_85 hw)) (notFace_of_selects (args := #[]) (mvT hZ (wd_87 hw))) (mvT hZ (wd_87 hw)) (mvT hZ (wd_86 hw)) (by decide) (backOf (W := 0) (rm11 l Z a0 hw [] b10 la (.ref b9) (.int (0 : Int32)) (.int (6144 : Int32)) (.ref p11) (.ref en11) (.ref tg11) .null (.int (0 : Int32)) (.int (1 : Int32)) (.int (0 : Int32)) Tc.heap n0 Zc cf7 cf12 cf13 cf14 cf15 cf16 cf17 cf18 cf19 cf20 cf21 cf28) hZ (wd_88 hw) (wd_33 hw) (by decide) (by decide)) q201a q201c (g := (mkF m 114 #[.val (.int vi0), .val (.int vi1), .val (.int vi2), .val (.int vi3), .val (.int vi4), .val (.int ln), .val (.int la), .val (.int lb), .val (.int lc), .val (.int ((vi4 &&& (255 : Int32)).toUInt32.toUInt16.toUInt32.toInt32)), .val (.ref b1), .val (.ref b5), .val (.ref b9), .val (.ref b10), .unset] [(.int la), (.ref b10)])) rfl (by rw [hml]; rfl) (Steps.refl _) (argsL := [(.int la)]) (rest := []) (lenOf pd_6 rfl) rfl (by show 2 * 0 + _ ≤ _; exact Nat.le_of_eq rfl) (hb hby at_114) (fun _ _ => ⟨rfl, rfl, (by decide : 13 + 0 ≤ _), (by decide : 6265 + 0 ≤ _)⟩)
  dsimp only [Pt.U, Pt.locs, Pt.cells, Pt.slots] at X201 l201 y201 z201 st201 hQ201
  subst l201 y201 z201
  obtain ⟨rfl, N201q, p201_0, p201_1, p201_2, p201_3, p201_4, p201_5, p201_6, p201_7, p201_8, p201_9, p201_10⟩ := hQ201
  have N201 := Fr.app Nc N201q
  have K201 : Keep h0 T201.heap [] := Kc.trans p201_0 (allS (Or.inr cf29) all0)
  obtain ⟨cq202, kq202, q202a, q202b, q202c⟩ := isOf hZ rfl (cf7.keep p201_0)
  obtain ⟨_, _, ⟨T202, L202, k202, n202⟩, -, X202, ⟨Lc202, hQ202, l202, y202, z202⟩, st202⟩ := X201.virtualBack hx (y := (⟨"com/example/careful_ledger/carefulledger/json/PlainLine", "valueComes", "(Ljava/lang/Object;)V"⟩ : MethodName)) (z := (⟨"com/example/careful_ledger/carefulledger/json/PlainLine", "valueComes", "(Ljava/lang/Object;)V"⟩ : MethodName)) hown (mvT hZ (wd_107 hw)) (mvT hZ (wd_108 hw)) (notFace_of_selects (args := #[]) (mvT hZ (wd_110 hw))) (mvT hZ (wd_110 hw)) (mvT hZ (wd_109 hw)) (by decide) (backOf (W := 0) (rm15_v0 l Z a0 hw [] b10 b1 b9 la (.int (6144 : Int32)) p11 en11 tg11 .null (0 : Int32) ke11 (64 : Int32) kp11 (List.replicate 64 (.int (0 : Int32))) k9 (List.replicate 6144 (.int (0 : Int32))) kt11 (0 : Int32) (0 : Int32) (0 : Int32) .null .null T201.heap n0 (Nat.le_trans Zc p201_0.1) (cf7.keep p201_0) p201_1 p201_2 p201_3 p201_4 p201_5 p201_6 p201_7 p201_8 p201_9 p201_10 (cf9.keep p201_0 (ninS (Ne.symm cf52) nin0)) (cf8.keep p201_0 (ninS (Ne.symm cf51) nin0)) (cf6.keep p201_0 (ninS cf47 nin0)) (cf10.keep p201_0 (ninS (Ne.symm cf53) nin0)) (List.length_replicate) (by decide) (by decide) cf28 cf30 cf32 cf34 (Ne.symm cf51) (Ne.symm cf52) (Ne.symm cf53) cf47 cf54 cf55 (Ne.symm cf48) cf56 (Ne.symm cf49) (Ne.symm cf50) cf11 (by decide) (by decide) (own_ar6 la lb lc hla hlb hlc) (own_ar7 la lb lc hla hlb hlc) (own_ar8 la lb lc hla hlb hlc) (own_ar9 la lb lc hla hlb hlc) (own_ar10 la lb lc hla hlb hlc) (cf0.keep p201_0)) hZ (wd_111 hw) (wd_33 hw) (by decide) (by decide)) q202a q202c (g := (mkF m 121 #[.val (.int vi0), .val (.int vi1), .val (.int vi2), .val (.int vi3), .val (.int vi4), .val (.int ln), .val (.int la), .val (.int lb), .val (.int lc), .val (.int ((vi4 &&& (255 : Int32)).toUInt32.toUInt16.toUInt32.toInt32)), .val (.ref b1), .val (.ref b5), .val (.ref b9), .val (.ref b10), .unset] [(.ref b1), (.ref b10)])) rfl (by rw [hml]; rfl) (Steps.refl _) (argsL := [(.ref b1)]) (rest := []) (lenOf pd_8 rfl) rfl (by show 2 * 0 + _ ≤ _; exact Nat.le_of_eq rfl) (hb hby at_121) (fun _ _ => ⟨rfl, rfl, (by decide : 13 + 1 ≤ _), (by decide : 6265 + 4096 ≤ _)⟩)
  dsimp only [Pt.U, Pt.locs, Pt.cells, Pt.slots] at X202 l202 y202 z202 st202 hQ202
  subst l202 y202 z202
  obtain ⟨p2202, k2202, n2202, v2202, rfl, N202q, p202_0, p202_1, p202_2, p202_3, p202_4, p202_5, p202_6, p202_7, p202_8, p202_9, p202_10, p202_11, p202_12, p202_13, p202_14, p202_15, p202_16, p202_17, p202_18, p202_19, p202_20, p202_21, p202_22⟩ := hQ202
  have N202 := Fr.app N201 N202q
  have K202 : Keep h0 T202.heap [] := K201.trans p202_0 (allS (Or.inr cf29) (allS (Or.inr cf31) (allS (Or.inr cf33) (allS (Or.inr cf35) all0))))
  have sz_p2202 : h0.size ≤ p2202 := p202_18.elim (fun q => q ▸ cf31) (fun q => Nat.le_trans K201.1 q)
  obtain ⟨cq203, kq203, q203a, q203b, q203c⟩ := isOf hZ rfl ((cf7.keep p201_0).keep p202_0)
  obtain ⟨_, _, ⟨T203, L203, k203, n203⟩, -, X203, ⟨Lc203, hQ203, l203, y203, z203⟩, st203⟩ := X202.virtualBack hx (y := (⟨"com/example/careful_ledger/carefulledger/json/PlainLine", "valueRead", "()V"⟩ : MethodName)) (z := (⟨"com/example/careful_ledger/carefulledger/json/PlainLine", "valueRead", "()V"⟩ : MethodName)) hown (mvT hZ (wd_126 hw)) (mvT hZ (wd_127 hw)) (notFace_of_selects (args := #[]) (mvT hZ (wd_129 hw))) (mvT hZ (wd_129 hw)) (mvT hZ (wd_128 hw)) (by decide) (backOf (W := 0) (rm19 l Z a0 hw [] b10 (.ref b9) la (.int (6144 : Int32)) (.ref p2202) (.ref en11) (.ref tg11) .null (.int (1 : Int32)) (.int (1 : Int32)) (.int (0 : Int32)) T202.heap n0 (Nat.le_trans (Nat.le_trans Zc p201_0.1) p202_0.1) ((cf7.keep p201_0).keep p202_0) p202_1 p202_2 p202_3 p202_4 p202_5 p202_6 p202_7 p202_8 p202_9 p202_10 cf28) hZ (wd_130 hw) (wd_33 hw) (by decide) (by decide)) q203a q203c (g := (mkF m 126 #[.val (.int vi0), .val (.int vi1), .val (.int vi2), .val (.int vi3), .val (.int vi4), .val (.int ln), .val (.int la), .val (.int lb), .val (.int lc), .val (.int ((vi4 &&& (255 : Int32)).toUInt32.toUInt16.toUInt32.toInt32)), .val (.ref b1), .val (.ref b5), .val (.ref b9), .val (.ref b10), .unset] [(.ref b10)])) rfl (by rw [hml]; rfl) (Steps.refl _) (argsL := []) (rest := []) (lenOf pd_2 rfl) rfl (by show 2 * 0 + _ ≤ _; exact Nat.le_of_eq rfl) (hb hby at_126) (fun _ _ => ⟨rfl, rfl, (by decide : 14 + 0 ≤ _), (by decide : 10361 + 0 ≤ _)⟩)
  dsimp only [Pt.U, Pt.locs, Pt.cells, Pt.slots] at X203 l203 y203 z203 st203 hQ203
  subst l203 y203 z203
  obtain ⟨rfl, N203q, p203_0, p203_1, p203_2, p203_3, p203_4, p203_5, p203_6, p203_7, p203_8, p203_9, p203_10⟩ := hQ203
  have N203 := Fr.app N202 N203q
  have K203 : Keep h0 T203.heap [] := K202.trans p203_0 (allS (Or.inr cf29) all0)
  obtain ⟨cq204, kq204, q204a, q204b, q204c⟩ := isOf hZ rfl (((cf7.keep p201_0).keep p202_0).keep p203_0)
  obtain ⟨_, _, ⟨T204, L204, k204, n204⟩, -, X204, ⟨Lc204, hQ204, l204, y204, z204⟩, st204⟩ := X203.virtualBack hx (y := (⟨"com/example/careful_ledger/carefulledger/json/PlainLine", "moveTo", "(I)V"⟩ : MethodName)) (z := (⟨"com/example/careful_ledger/carefulledger/json/PlainLine", "moveTo", "(I)V"⟩ : MethodName)) hown (mvT hZ (wd_84 hw)) (mvT hZ (wd_85 hw)) (notFace_of_selects (args := #[]) (mvT hZ (wd_87 hw))) (mvT hZ (wd_87 hw)) (mvT hZ (wd_86 hw)) (by decide) (backOf (W := 0) (rm11 l Z a0 hw [] b10 ((la + lb) + lc) (.ref b9) (.int la) (.int (6144 : Int32)) (.ref p2202) (.ref en11) (.ref tg11) .null (.int (1 : Int32)) (.int (1 : Int32)) (.int la) T203.heap n0 (Nat.le_trans (Nat.le_trans (Nat.le_trans Zc p201_0.1) p202_0.1) p203_0.1) (((cf7.keep p201_0).keep p202_0).keep p203_0) p203_1 p203_2 p203_3 p203_4 p203_5 p203_6 p203_7 p203_8 p203_9 p203_10 cf28) hZ (wd_88 hw) (wd_33 hw) (by decide) (by decide)) q204a q204c (g := (mkF m 167 #[.val (.int vi0), .val (.int vi1), .val (.int vi2), .val (.int vi3), .val (.int vi4), .val (.int ln), .val (.int la), .val (.int lb), .val (.int lc), .val (.int ((vi4 &&& (255 : Int32)).toUInt32.toUInt16.toUInt32.toInt32)), .val (.ref b1), .val (.ref b5), .val (.ref b9), .val (.ref b10), .unset] [(.int ((la + lb) + lc)), (.ref b10)])) rfl (by rw [hml]; rfl) (Steps.refl _) (argsL := [(.int ((la + lb) + lc))]) (rest := []) (lenOf pd_6 rfl) rfl (by show 2 * 0 + _ ≤ _; exact Nat.le_of_eq rfl) (hb hby at_167) (fun _ _ => ⟨rfl, rfl, (by decide : 14 + 0 ≤ _), (by decide : 10361 + 0 ≤ _)⟩)
  dsimp only [Pt.U, Pt.locs, Pt.cells, Pt.slots] at X204 l204 y204 z204 st204 hQ204
  subst l204 y204 z204
  obtain ⟨rfl, N204q, p204_0, p204_1, p204_2, p204_3, p204_4, p204_5, p204_6, p204_7, p204_8, p204_9, p204_10⟩ := hQ204
  have N204 := Fr.app N203 N204q
  have K204 : Keep h0 T204.heap [] := K203.trans p204_0 (allS (Or.inr cf29) all0)
  obtain ⟨cq205, kq205, q205a, q205b, q205c⟩ := isOf hZ rfl ((((cf7.keep p201_0).keep p202_0).keep p203_0).keep p204_0)
  obtain ⟨_, _, ⟨T205, L205, k205, n205⟩, -, X205, ⟨Lc205, hQ205, l205, y205, z205⟩, st205⟩ := X204.virtualBack hx (y := (⟨"com/example/careful_ledger/carefulledger/json/PlainLine", "endShape", "(Ljava/lang/Object;)V"⟩ : MethodName)) (z := (⟨"com/example/careful_ledger/carefulledger/json/PlainLine", "endShape", "(Ljava/lang/Object;)V"⟩ : MethodName)) hown (mvT hZ (wd_89 hw)) (mvT hZ (wd_90 hw)) (notFace_of_selects (args := #[]) (mvT hZ (wd_92 hw))) (mvT hZ (wd_92 hw)) (mvT hZ (wd_91 hw)) (by decide) (backOf (W := 0) (rm12_ov1 l Z a0 hw [] b10 b1 b9 ((la + lb) + lc) (.int (6144 : Int32)) p2202 en11 tg11 .null la ke11 n2202 k2202 v2202 k9 (List.replicate 6144 (.int (0 : Int32))) kt11 ((0 : Int32) + (la - (0 : Int32))) (0 : Int32) (0 : Int32) (.ref b1) .null T204.heap n0 (Nat.le_trans (Nat.le_trans (Nat.le_trans (Nat.le_trans Zc p201_0.1) p202_0.1) p203_0.1) p204_0.1) ((((cf7.keep p201_0).keep p202_0).keep p203_0).keep p204_0) p204_1 p204_2 p204_3 p204_4 p204_5 p204_6 p204_7 p204_8 p204_9 p204_10 ((p202_11.keep p203_0 (ninS (Ne.symm cf52) nin0)).keep p204_0 (ninS (Ne.symm cf52) nin0)) ((p202_13.keep p203_0 (ninS p202_19 nin0)).keep p204_0 (ninS p202_19 nin0)) ((((cf6.keep p201_0 (ninS cf47 nin0)).keep p202_0 (ninS cf47 (ninS cf48 (ninS cf49 (ninS cf50 nin0))))).keep p203_0 (ninS cf47 nin0)).keep p204_0 (ninS cf47 nin0)) ((p202_12.keep p203_0 (ninS (Ne.symm cf53) nin0)).keep p204_0 (ninS (Ne.symm cf53) nin0)) p202_14 p202_15 p202_16 cf28 p202_17 cf32 cf34 p202_19 (Ne.symm cf52) (Ne.symm cf53) cf47 p202_20 p202_22 p202_21 cf56 (Ne.symm cf49) (Ne.symm cf50) cf11 (own_ar17 la lb lc hla hlb hlc hc188)) hZ (wd_93 hw) (wd_33 hw) (by decide) (by decide)) q205a q205c (g := (mkF m 174 #[.val (.int vi0), .val (.int vi1), .val (.int vi2), .val (.int vi3), .val (.int vi4), .val (.int ln), .val (.int la), .val (.int lb), .val (.int lc), .val (.int ((vi4 &&& (255 : Int32)).toUInt32.toUInt16.toUInt32.toInt32)), .val (.ref b1), .val (.ref b5), .val (.ref b9), .val (.ref b10), .unset] [(.ref b1), (.ref b10)])) rfl (by rw [hml]; rfl) (Steps.refl _) (argsL := [(.ref b1)]) (rest := []) (lenOf pd_8 rfl) rfl (by show 2 * 0 + _ ≤ _; exact Nat.le_of_eq rfl) (hb hby at_174) (fun _ _ => ⟨rfl, rfl, (by decide : 14 + 0 ≤ _), (by decide : 10361 + 0 ≤ _)⟩)
  dsimp only [Pt.U, Pt.locs, Pt.cells, Pt.slots] at X205 l205 y205 z205 st205 hQ205
  subst l205 y205 z205
  obtain ⟨rfl, N205q, p205_0, p205_1, p205_2, p205_3, p205_4, p205_5, p205_6, p205_7, p205_8, p205_9, p205_10⟩ := hQ205
  have N205 := Fr.app N204 N205q
  have K205 : Keep h0 T205.heap [] := K204.trans p205_0 (allS (Or.inr cf29) all0)
  obtain ⟨cq206, kq206, q206a, q206b, q206c⟩ := isOf hZ rfl (((((cf7.keep p201_0).keep p202_0).keep p203_0).keep p204_0).keep p205_0)
  obtain ⟨_, _, ⟨T206, L206, k206, n206⟩, -, X206, ⟨Lc206, hQ206, l206, y206, z206⟩, st206⟩ := X205.virtualBack hx (y := (⟨"com/example/careful_ledger/carefulledger/json/PlainLine", "shapeValues", "(Ljava/lang/Object;)I"⟩ : MethodName)) (z := (⟨"com/example/careful_ledger/carefulledger/json/PlainLine", "shapeValues", "(Ljava/lang/Object;)I"⟩ : MethodName)) hown (mvT hZ (wd_102 hw)) (mvT hZ (wd_103 hw)) (notFace_of_selects (args := #[]) (mvT hZ (wd_105 hw))) (mvT hZ (wd_105 hw)) (mvT hZ (wd_104 hw)) (by decide) (backOf (W := 0) (rm14_null l Z a0 hw [] b10 b1 T205.heap n0 (Nat.le_trans (Nat.le_trans (Nat.le_trans (Nat.le_trans (Nat.le_trans Zc p201_0.1) p202_0.1) p203_0.1) p204_0.1) p205_0.1) p205_7) hZ (wd_106 hw) (wd_33 hw) (by decide) (by decide)) q206a q206c (g := (mkF m 203 #[.val (.int vi0), .val (.int vi1), .val (.int vi2), .val (.int vi3), .val (.int vi4), .val (.int ln), .val (.int la), .val (.int lb), .val (.int lc), .val (.int ((vi4 &&& (255 : Int32)).toUInt32.toUInt16.toUInt32.toInt32)), .val (.ref b1), .val (.ref b5), .val (.ref b9), .val (.ref b10), .val (.int (-1 : Int32))] [(.ref b1), (.ref b10)])) rfl (by rw [hml]; rfl) (Steps.refl _) (argsL := [(.ref b1)]) (rest := []) (lenOf pd_10 rfl) rfl (by show 2 * 0 + _ ≤ _; exact Nat.le_of_eq rfl) (hb hby at_203) (fun _ _ => ⟨rfl, rfl, (by decide : 14 + 0 ≤ _), (by decide : 10361 + 0 ≤ _)⟩)
  dsimp only [Pt.U, Pt.locs, Pt.cells, Pt.slots] at X206 l206 y206 z206 st206 hQ206
  subst l206 y206 z206
  obtain ⟨rfl, N206q, p206_0⟩ := hQ206
  have N206 := Fr.app N205 N206q
  have e206 : T206.heap = T205.heap := p206_0
  obtain ⟨cq207, kq207, q207a, q207b, q207c⟩ := isOf hZ e206 (((((cf7.keep p201_0).keep p202_0).keep p203_0).keep p204_0).keep p205_0)
  obtain ⟨_, _, ⟨T207, L207, k207, n207⟩, -, X207, ⟨Lc207, hQ207, l207, y207, z207⟩, st207⟩ := X206.virtualBack hx (y := (⟨"com/example/careful_ledger/carefulledger/json/PlainLine", "shapeValues", "(Ljava/lang/Object;)I"⟩ : MethodName)) (z := (⟨"com/example/careful_ledger/carefulledger/json/PlainLine", "shapeValues", "(Ljava/lang/Object;)I"⟩ : MethodName)) hown (mvT hZ (wd_102 hw)) (mvT hZ (wd_103 hw)) (notFace_of_selects (args := #[]) (mvT hZ (wd_105 hw))) (mvT hZ (wd_105 hw)) (mvT hZ (wd_104 hw)) (by decide) (backOf (W := 0) (rm14_null l Z a0 hw [] b10 b5 T205.heap n0 (Nat.le_trans (Nat.le_trans (Nat.le_trans (Nat.le_trans (Nat.le_trans Zc p201_0.1) p202_0.1) p203_0.1) p204_0.1) p205_0.1) p205_7) hZ (wd_106 hw) (wd_33 hw) (by decide) (by decide)) q207a q207c (g := (mkF m 215 #[.val (.int vi0), .val (.int vi1), .val (.int vi2), .val (.int vi3), .val (.int vi4), .val (.int ln), .val (.int la), .val (.int lb), .val (.int lc), .val (.int ((vi4 &&& (255 : Int32)).toUInt32.toUInt16.toUInt32.toInt32)), .val (.ref b1), .val (.ref b5), .val (.ref b9), .val (.ref b10), .val (.int (-1 : Int32))] [(.ref b5), (.ref b10)])) rfl (by rw [hml]; rfl) (Steps.refl _) (argsL := [(.ref b5)]) (rest := []) (lenOf pd_10 rfl) rfl (by show 2 * 0 + _ ≤ _; exact Nat.le_of_eq rfl) (hb hby at_215) (fun _ _ => ⟨rfl, e206, (by decide : 14 + 0 ≤ _), (by decide : 10361 + 0 ≤ _)⟩)
  dsimp only [Pt.U, Pt.locs, Pt.cells, Pt.slots] at X207 l207 y207 z207 st207 hQ207
  subst l207 y207 z207
  obtain ⟨rfl, N207q, p207_0⟩ := hQ207
  have N207 := Fr.app N206 N207q
  have e207 : T207.heap = T205.heap := p207_0
  obtain ⟨fs, hr, hrun, hended, hW, hsame⟩ := X207.leave (v := some (.int (1 : Int32))) (fun h => by rw [Bd.returns] at h; cases h)
  refine ⟨_, _, pre0 _ ?_, hrun, hended, _, _, rfl, ?_, ⟨_, rfl⟩, hW, hsame.mono (by decide) (by decide)⟩
  · refine stc _ ?_
    show Steps p.tables e below (Tc.setTop (mkF m 104 #[.val (.int vi0), .val (.int vi1), .val (.int vi2), .val (.int vi3), .val (.int vi4), .val (.int ln), .val (.int la), .val (.int lb), .val (.int lc), .val (.int ((vi4 &&& (255 : Int32)).toUInt32.toUInt16.toUInt32.toInt32)), .val (.ref b1), .val (.ref b5), .val (.ref b9), .val (.ref b10), .unset] [])) _
    refine XS.iload Xc.here hx rfl (hb hby at_104) rfl ?_
    refine XS.iconst Xc.here hx rfl (hb hby at_106) ?_
    show Steps p.tables e below (Tc.setTop (mkF m 107 #[.val (.int vi0), .val (.int vi1), .val (.int vi2), .val (.int vi3), .val (.int vi4), .val (.int ln), .val (.int la), .val (.int lb), .val (.int lc), .val (.int ((vi4 &&& (255 : Int32)).toUInt32.toUInt16.toUInt32.toInt32)), .val (.ref b1), .val (.ref b5), .val (.ref b9), .val (.ref b10), .unset] [(.int (1 : Int32)), (.int ln)])) _
    refine XS.icmpNo Xc.here hx rfl (hb hby at_107) rfl (flt hc107).1 ?_
    refine XS.aload Xc.here hx rfl (hb hby at_110) rfl rfl ?_
    show Steps p.tables e below (Tc.setTop (mkF m 112 #[.val (.int vi0), .val (.int vi1), .val (.int vi2), .val (.int vi3), .val (.int vi4), .val (.int ln), .val (.int la), .val (.int lb), .val (.int lc), .val (.int ((vi4 &&& (255 : Int32)).toUInt32.toUInt16.toUInt32.toInt32)), .val (.ref b1), .val (.ref b5), .val (.ref b9), .val (.ref b10), .unset] [(.ref b10)])) _
    refine XS.iload Xc.here hx rfl (hb hby at_112) rfl ?_
    show Steps p.tables e below (Tc.setTop (mkF m 114 #[.val (.int vi0), .val (.int vi1), .val (.int vi2), .val (.int vi3), .val (.int vi4), .val (.int ln), .val (.int la), .val (.int lb), .val (.int lc), .val (.int ((vi4 &&& (255 : Int32)).toUInt32.toUInt16.toUInt32.toInt32)), .val (.ref b1), .val (.ref b5), .val (.ref b9), .val (.ref b10), .unset] [(.int la), (.ref b10)])) _
    refine st201.trans ?_
    refine XS.aload X201.here hx rfl (hb hby at_117) rfl rfl ?_
    refine XS.aload X201.here hx rfl (hb hby at_119) rfl rfl ?_
    show Steps p.tables e below (T201.setTop (mkF m 121 #[.val (.int vi0), .val (.int vi1), .val (.int vi2), .val (.int vi3), .val (.int vi4), .val (.int ln), .val (.int la), .val (.int lb), .val (.int lc), .val (.int ((vi4 &&& (255 : Int32)).toUInt32.toUInt16.toUInt32.toInt32)), .val (.ref b1), .val (.ref b5), .val (.ref b9), .val (.ref b10), .unset] [(.ref b1), (.ref b10)])) _
    refine st202.trans ?_
    refine XS.aload X202.here hx rfl (hb hby at_124) rfl rfl ?_
    show Steps p.tables e below (T202.setTop (mkF m 126 #[.val (.int vi0), .val (.int vi1), .val (.int vi2), .val (.int vi3), .val (.int vi4), .val (.int ln), .val (.int la), .val (.int lb), .val (.int lc), .val (.int ((vi4 &&& (255 : Int32)).toUInt32.toUInt16.toUInt32.toInt32)), .val (.ref b1), .val (.ref b5), .val (.ref b9), .val (.ref b10), .unset] [(.ref b10)])) _
    refine st203.trans ?_
    refine XS.iload X203.here hx rfl (hb hby at_129) rfl ?_
    show Steps p.tables e below (T203.setTop (mkF m 131 #[.val (.int vi0), .val (.int vi1), .val (.int vi2), .val (.int vi3), .val (.int vi4), .val (.int ln), .val (.int la), .val (.int lb), .val (.int lc), .val (.int ((vi4 &&& (255 : Int32)).toUInt32.toUInt16.toUInt32.toInt32)), .val (.ref b1), .val (.ref b5), .val (.ref b9), .val (.ref b10), .unset] [(.int ln)])) _
    refine XS.iconst X203.here hx rfl (hb hby at_131) ?_
    show Steps p.tables e below (T203.setTop (mkF m 132 #[.val (.int vi0), .val (.int vi1), .val (.int vi2), .val (.int vi3), .val (.int vi4), .val (.int ln), .val (.int la), .val (.int lb), .val (.int lc), .val (.int ((vi4 &&& (255 : Int32)).toUInt32.toUInt16.toUInt32.toInt32)), .val (.ref b1), .val (.ref b5), .val (.ref b9), .val (.ref b10), .unset] [(.int (2 : Int32)), (.int ln)])) _
    refine XS.icmpYes X203.here hx rfl (pc0 := 132) (pc' := 157) rfl (hb hby at_132) rfl (tlt hc132).1 (by decide) (by decide) ?_
    refine XS.aload X203.here hx rfl (hb hby at_157) rfl rfl ?_
    refine XS.iload X203.here hx rfl (hb hby at_159) rfl ?_
    show Steps p.tables e below (T203.setTop (mkF m 161 #[.val (.int vi0), .val (.int vi1), .val (.int vi2), .val (.int vi3), .val (.int vi4), .val (.int ln), .val (.int la), .val (.int lb), .val (.int lc), .val (.int ((vi4 &&& (255 : Int32)).toUInt32.toUInt16.toUInt32.toInt32)), .val (.ref b1), .val (.ref b5), .val (.ref b9), .val (.ref b10), .unset] [(.int la), (.ref b10)])) _
    refine XS.iload X203.here hx rfl (hb hby at_161) rfl ?_
    refine XS.iadd X203.here hx rfl (hb hby at_163) rfl ?_
    refine XS.iload X203.here hx rfl (hb hby at_164) rfl ?_
    refine XS.iadd X203.here hx rfl (hb hby at_166) rfl ?_
    show Steps p.tables e below (T203.setTop (mkF m 167 #[.val (.int vi0), .val (.int vi1), .val (.int vi2), .val (.int vi3), .val (.int vi4), .val (.int ln), .val (.int la), .val (.int lb), .val (.int lc), .val (.int ((vi4 &&& (255 : Int32)).toUInt32.toUInt16.toUInt32.toInt32)), .val (.ref b1), .val (.ref b5), .val (.ref b9), .val (.ref b10), .unset] [(.int ((la + lb) + lc)), (.ref b10)])) _
    refine st204.trans ?_
    refine XS.aload X204.here hx rfl (hb hby at_170) rfl rfl ?_
    refine XS.aload X204.here hx rfl (hb hby at_172) rfl rfl ?_
    show Steps p.tables e below (T204.setTop (mkF m 174 #[.val (.int vi0), .val (.int vi1), .val (.int vi2), .val (.int vi3), .val (.int vi4), .val (.int ln), .val (.int la), .val (.int lb), .val (.int lc), .val (.int ((vi4 &&& (255 : Int32)).toUInt32.toUInt16.toUInt32.toInt32)), .val (.ref b1), .val (.ref b5), .val (.ref b9), .val (.ref b10), .unset] [(.ref b1), (.ref b10)])) _
    refine st205.trans ?_
    show Steps p.tables e below (T205.setTop (mkF m 177 #[.val (.int vi0), .val (.int vi1), .val (.int vi2), .val (.int vi3), .val (.int vi4), .val (.int ln), .val (.int la), .val (.int lb), .val (.int lc), .val (.int ((vi4 &&& (255 : Int32)).toUInt32.toUInt16.toUInt32.toInt32)), .val (.ref b1), .val (.ref b5), .val (.ref b9), .val (.ref b10), .unset] [])) _
    refine XS.iload X205.here hx rfl (hb hby at_177) rfl ?_
    refine XS.iload X205.here hx rfl (hb hby at_179) rfl ?_
    refine XS.iadd X205.here hx rfl (hb hby at_181) rfl ?_
    refine XS.iload X205.here hx rfl (hb hby at_182) rfl ?_
    show Steps p.tables e below (T205.setTop (mkF m 184 #[.val (.int vi0), .val (.int vi1), .val (.int vi2), .val (.int vi3), .val (.int vi4), .val (.int ln), .val (.int la), .val (.int lb), .val (.int lc), .val (.int ((vi4 &&& (255 : Int32)).toUInt32.toUInt16.toUInt32.toInt32)), .val (.ref b1), .val (.ref b5), .val (.ref b9), .val (.ref b10), .unset] [(.int lc), (.int (la + lb))])) _
    refine XS.iadd X205.here hx rfl (hb hby at_184) rfl ?_
    refine XS.sipush X205.here hx rfl (hb hby at_185) ?_
    show Steps p.tables e below (T205.setTop (mkF m 188 #[.val (.int vi0), .val (.int vi1), .val (.int vi2), .val (.int vi3), .val (.int vi4), .val (.int ln), .val (.int la), .val (.int lb), .val (.int lc), .val (.int ((vi4 &&& (255 : Int32)).toUInt32.toUInt16.toUInt32.toInt32)), .val (.ref b1), .val (.ref b5), .val (.ref b9), .val (.ref b10), .unset] [(.int (4096 : Int32)), (.int ((la + lb) + lc))])) _
    refine XS.icmpYes X205.here hx rfl (pc0 := 188) (pc' := 196) rfl (hb hby at_188) rfl (tlt hc188).2.2.1 (by decide) (by decide) ?_
    refine XS.iconst X205.here hx rfl (hb hby at_196) ?_
    show Steps p.tables e below (T205.setTop (mkF m 197 #[.val (.int vi0), .val (.int vi1), .val (.int vi2), .val (.int vi3), .val (.int vi4), .val (.int ln), .val (.int la), .val (.int lb), .val (.int lc), .val (.int ((vi4 &&& (255 : Int32)).toUInt32.toUInt16.toUInt32.toInt32)), .val (.ref b1), .val (.ref b5), .val (.ref b9), .val (.ref b10), .unset] [(.int (-1 : Int32))])) _
    refine XS.istore X205.here hx rfl (hb hby at_197) rfl (l' := #[.val (.int vi0), .val (.int vi1), .val (.int vi2), .val (.int vi3), .val (.int vi4), .val (.int ln), .val (.int la), .val (.int lb), .val (.int lc), .val (.int ((vi4 &&& (255 : Int32)).toUInt32.toUInt16.toUInt32.toInt32)), .val (.ref b1), .val (.ref b5), .val (.ref b9), .val (.ref b10), .val (.int (-1 : Int32))]) rfl ?_
    refine XS.aload X205.here hx rfl (hb hby at_199) rfl rfl ?_
    refine XS.aload X205.here hx rfl (hb hby at_201) rfl rfl ?_
    show Steps p.tables e below (T205.setTop (mkF m 203 #[.val (.int vi0), .val (.int vi1), .val (.int vi2), .val (.int vi3), .val (.int vi4), .val (.int ln), .val (.int la), .val (.int lb), .val (.int lc), .val (.int ((vi4 &&& (255 : Int32)).toUInt32.toUInt16.toUInt32.toInt32)), .val (.ref b1), .val (.ref b5), .val (.ref b9), .val (.ref b10), .val (.int (-1 : Int32))] [(.ref b1), (.ref b10)])) _
    refine st206.trans ?_
    show Steps p.tables e below (T206.setTop (mkF m 206 #[.val (.int vi0), .val (.int vi1), .val (.int vi2), .val (.int vi3), .val (.int vi4), .val (.int ln), .val (.int la), .val (.int lb), .val (.int lc), .val (.int ((vi4 &&& (255 : Int32)).toUInt32.toUInt16.toUInt32.toInt32)), .val (.ref b1), .val (.ref b5), .val (.ref b9), .val (.ref b10), .val (.int (-1 : Int32))] [(.int (-1 : Int32))])) _
    refine XS.iload X206.here hx rfl (hb hby at_206) rfl ?_
    show Steps p.tables e below (T206.setTop (mkF m 208 #[.val (.int vi0), .val (.int vi1), .val (.int vi2), .val (.int vi3), .val (.int vi4), .val (.int ln), .val (.int la), .val (.int lb), .val (.int lc), .val (.int ((vi4 &&& (255 : Int32)).toUInt32.toUInt16.toUInt32.toInt32)), .val (.ref b1), .val (.ref b5), .val (.ref b9), .val (.ref b10), .val (.int (-1 : Int32))] [(.int (-1 : Int32)), (.int (-1 : Int32))])) _
    refine XS.icmpNo X206.here hx rfl (hb hby at_208) rfl (teq (rfl : (-1 : Int32) = (-1 : Int32))).2 ?_
    refine XS.aload X206.here hx rfl (hb hby at_211) rfl rfl ?_
    refine XS.aload X206.here hx rfl (hb hby at_213) rfl rfl ?_
    show Steps p.tables e below (T206.setTop (mkF m 215 #[.val (.int vi0), .val (.int vi1), .val (.int vi2), .val (.int vi3), .val (.int vi4), .val (.int ln), .val (.int la), .val (.int lb), .val (.int lc), .val (.int ((vi4 &&& (255 : Int32)).toUInt32.toUInt16.toUInt32.toInt32)), .val (.ref b1), .val (.ref b5), .val (.ref b9), .val (.ref b10), .val (.int (-1 : Int32))] [(.ref b5), (.ref b10)])) _
    refine st207.trans ?_
    refine XS.iconst X207.here hx rfl (hb hby at_218) ?_
    show Steps p.tables e below (T207.setTop (mkF m 219 #[.val (.int vi0), .val (.int vi1), .val (.int vi2), .val (.int vi3), .val (.int vi4), .val (.int ln), .val (.int la), .val (.int lb), .val (.int lc), .val (.int ((vi4 &&& (255 : Int32)).toUInt32.toUInt16.toUInt32.toInt32)), .val (.ref b1), .val (.ref b5), .val (.ref b9), .val (.ref b10), .val (.int (-1 : Int32))] [(.int (-1 : Int32)), (.int (-1 : Int32))])) _
    refine XS.icmpNo X207.here hx rfl (hb hby at_219) rfl (teq (rfl : (-1 : Int32) = (-1 : Int32))).2 ?_
    refine XS.iconst X207.here hx rfl (hb hby at_222) ?_
    show Steps p.tables e below (T207.setTop (mkF m 223 #[.val (.int vi0), .val (.int vi1), .val (.int vi2), .val (.int vi3), .val (.int vi4), .val (.int ln), .val (.int la), .val (.int lb), .val (.int lc), .val (.int ((vi4 &&& (255 : Int32)).toUInt32.toUInt16.toUInt32.toInt32)), .val (.ref b1), .val (.ref b5), .val (.ref b9), .val (.ref b10), .val (.int (-1 : Int32))] [(.int (1 : Int32))])) _
    refine XS.goto X207.here hx rfl (pc0 := 223) (pc' := 227) rfl (hb hby at_223) (by decide) (by decide) ?_
    exact retN X207 hx (t := .boolean) Bd.returns (by simp) (hb hby at_227) hr
  · show Q0_n1v Z vi0 vi1 vi2 vi3 vi4 w_COMPACT_STRINGS h0 n0 _ T207.heap _
    rw [e207]
    exact ⟨rfl, N207⟩
theorem own_ar18 (a : Int32) (b : Int32) (c : Int32) (ha : 0 ≤ a.toInt ∧ a.toInt ≤ 2047) (hb : 0 ≤ b.toInt ∧ b.toInt ≤ 2047) (hc : 0 ≤ c.toInt ∧ c.toInt ≤ 2047) : ¬ ((a + b) - a) < 0 := by
  have l0 : (0 : Int32).toInt = 0 := by decide
  have f0 := c_iadd a b
  have r0 := rng32 (a + b)
  have f1 := c_isub (a + b) a
  have r1 := rng32 ((a + b) - a)
  have r_a := rng32 a
  have r_b := rng32 b
  have r_c := rng32 c
  simp only [Int32.lt_iff_toInt_lt, Int32.toNatClampNeg, ← Int32.toInt_inj, l0] at *
  omega
theorem own_ar19 (a : Int32) (b : Int32) (c : Int32) (ha : 0 ≤ a.toInt ∧ a.toInt ≤ 2047) (hb : 0 ≤ b.toInt ∧ b.toInt ≤ 2047) (hc : 0 ≤ c.toInt ∧ c.toInt ≤ 2047) : a.toNatClampNeg + ((a + b) - a).toNatClampNeg ≤ (6144 : Int32).toNatClampNeg := by
  have l6144 : (6144 : Int32).toInt = 6144 := by decide
  have l0 : (0 : Int32).toInt = 0 := by decide
  have f0 := c_iadd a b
  have r0 := rng32 (a + b)
  have f1 := c_isub (a + b) a
  have r1 := rng32 ((a + b) - a)
  have r_a := rng32 a
  have r_b := rng32 b
  have r_c := rng32 c
  simp only [Int32.lt_iff_toInt_lt, Int32.toNatClampNeg, ← Int32.toInt_inj, l6144, l0] at *
  omega
theorem own_ar20 (a : Int32) (b : Int32) (c : Int32) (ha : 0 ≤ a.toInt ∧ a.toInt ≤ 2047) (hb : 0 ≤ b.toInt ∧ b.toInt ≤ 2047) (hc : 0 ≤ c.toInt ∧ c.toInt ≤ 2047) : ((0 : Int32) + (a - (0 : Int32))).toNatClampNeg + ((a + b) - a).toNatClampNeg ≤ (((0 : Int32) + (a - (0 : Int32))) + ((a + b) - a)).toNatClampNeg := by
  have l0 : (0 : Int32).toInt = 0 := by decide
  have f0 := c_isub a (0 : Int32)
  have r0 := rng32 (a - (0 : Int32))
  have f1 := c_iadd (0 : Int32) (a - (0 : Int32))
  have r1 := rng32 ((0 : Int32) + (a - (0 : Int32)))
  have f2 := c_iadd a b
  have r2 := rng32 (a + b)
  have f3 := c_isub (a + b) a
  have r3 := rng32 ((a + b) - a)
  have f4 := c_iadd ((0 : Int32) + (a - (0 : Int32))) ((a + b) - a)
  have r4 := rng32 (((0 : Int32) + (a - (0 : Int32))) + ((a + b) - a))
  have r_a := rng32 a
  have r_b := rng32 b
  have r_c := rng32 c
  simp only [Int32.lt_iff_toInt_lt, Int32.toNatClampNeg, ← Int32.toInt_inj, l0] at *
  omega
theorem own_ar21 (a : Int32) (b : Int32) (c : Int32) (ha : 0 ≤ a.toInt ∧ a.toInt ≤ 2047) (hb : 0 ≤ b.toInt ∧ b.toInt ≤ 2047) (hc : 0 ≤ c.toInt ∧ c.toInt ≤ 2047) : ¬ (((0 : Int32) + (a - (0 : Int32))) + ((a + b) - a)) < 0 := by
  have l0 : (0 : Int32).toInt = 0 := by decide
  have f0 := c_isub a (0 : Int32)
  have r0 := rng32 (a - (0 : Int32))
  have f1 := c_iadd (0 : Int32) (a - (0 : Int32))
  have r1 := rng32 ((0 : Int32) + (a - (0 : Int32)))
  have f2 := c_iadd a b
  have r2 := rng32 (a + b)
  have f3 := c_isub (a + b) a
  have r3 := rng32 ((a + b) - a)
  have f4 := c_iadd ((0 : Int32) + (a - (0 : Int32))) ((a + b) - a)
  have r4 := rng32 (((0 : Int32) + (a - (0 : Int32))) + ((a + b) - a))
  have r_a := rng32 a
  have r_b := rng32 b
  have r_c := rng32 c
  simp only [Int32.lt_iff_toInt_lt, Int32.toNatClampNeg, ← Int32.toInt_inj, l0] at *
  omega
theorem own_ar22 (a : Int32) (b : Int32) (c : Int32) (ha : 0 ≤ a.toInt ∧ a.toInt ≤ 2047) (hb : 0 ≤ b.toInt ∧ b.toInt ≤ 2047) (hc : 0 ≤ c.toInt ∧ c.toInt ≤ 2047) : ¬ ((4096 : Int32) < (((0 : Int32) + (a - (0 : Int32))) + ((a + b) - a))) := by
  have l0 : (0 : Int32).toInt = 0 := by decide
  have l4096 : (4096 : Int32).toInt = 4096 := by decide
  have f0 := c_isub a (0 : Int32)
  have r0 := rng32 (a - (0 : Int32))
  have f1 := c_iadd (0 : Int32) (a - (0 : Int32))
  have r1 := rng32 ((0 : Int32) + (a - (0 : Int32)))
  have f2 := c_iadd a b
  have r2 := rng32 (a + b)
  have f3 := c_isub (a + b) a
  have r3 := rng32 ((a + b) - a)
  have f4 := c_iadd ((0 : Int32) + (a - (0 : Int32))) ((a + b) - a)
  have r4 := rng32 (((0 : Int32) + (a - (0 : Int32))) + ((a + b) - a))
  have r_a := rng32 a
  have r_b := rng32 b
  have r_c := rng32 c
  simp only [Int32.lt_iff_toInt_lt, Int32.toNatClampNeg, ← Int32.toInt_inj, l0, l4096] at *
  omega
theorem own_ar23 (a : Int32) (b : Int32) (c : Int32) (ha : 0 ≤ a.toInt ∧ a.toInt ≤ 2047) (hb : 0 ≤ b.toInt ∧ b.toInt ≤ 2047) (hc : 0 ≤ c.toInt ∧ c.toInt ≤ 2047) : ¬ (a + b) < 0 := by
  have l0 : (0 : Int32).toInt = 0 := by decide
  have f0 := c_iadd a b
  have r0 := rng32 (a + b)
  have r_a := rng32 a
  have r_b := rng32 b
  have r_c := rng32 c
  simp only [Int32.lt_iff_toInt_lt, Int32.toNatClampNeg, ← Int32.toInt_inj, l0] at *
  omega
theorem own_ar24 (a : Int32) (b : Int32) (c : Int32) (ha : 0 ≤ a.toInt ∧ a.toInt ≤ 2047) (hb : 0 ≤ b.toInt ∧ b.toInt ≤ 2047) (hc : 0 ≤ c.toInt ∧ c.toInt ≤ 2047) : ¬ (((a + b) + c) - (a + b)) < 0 := by
  have l0 : (0 : Int32).toInt = 0 := by decide
  have f0 := c_iadd a b
  have r0 := rng32 (a + b)
  have f1 := c_iadd (a + b) c
  have r1 := rng32 ((a + b) + c)
  have f2 := c_isub ((a + b) + c) (a + b)
  have r2 := rng32 (((a + b) + c) - (a + b))
  have r_a := rng32 a
  have r_b := rng32 b
  have r_c := rng32 c
  simp only [Int32.lt_iff_toInt_lt, Int32.toNatClampNeg, ← Int32.toInt_inj, l0] at *
  omega
theorem own_ar25 (a : Int32) (b : Int32) (c : Int32) (ha : 0 ≤ a.toInt ∧ a.toInt ≤ 2047) (hb : 0 ≤ b.toInt ∧ b.toInt ≤ 2047) (hc : 0 ≤ c.toInt ∧ c.toInt ≤ 2047) (hh : ¬ ((4096 : Int32) < ((a + b) + c))) : (a + b).toNatClampNeg + (((a + b) + c) - (a + b)).toNatClampNeg ≤ (6144 : Int32).toNatClampNeg := by
  have l4096 : (4096 : Int32).toInt = 4096 := by decide
  have l6144 : (6144 : Int32).toInt = 6144 := by decide
  have l0 : (0 : Int32).toInt = 0 := by decide
  have f0 := c_iadd a b
  have r0 := rng32 (a + b)
  have f1 := c_iadd (a + b) c
  have r1 := rng32 ((a + b) + c)
  have f2 := c_isub ((a + b) + c) (a + b)
  have r2 := rng32 (((a + b) + c) - (a + b))
  have r_a := rng32 a
  have r_b := rng32 b
  have r_c := rng32 c
  simp only [Int32.lt_iff_toInt_lt, Int32.toNatClampNeg, ← Int32.toInt_inj, l4096, l6144, l0] at *
  omega
theorem own_ar26 (a : Int32) (b : Int32) (c : Int32) (ha : 0 ≤ a.toInt ∧ a.toInt ≤ 2047) (hb : 0 ≤ b.toInt ∧ b.toInt ≤ 2047) (hc : 0 ≤ c.toInt ∧ c.toInt ≤ 2047) : (((0 : Int32) + (a - (0 : Int32))) + ((a + b) - a)).toNatClampNeg + (((a + b) + c) - (a + b)).toNatClampNeg ≤ ((((0 : Int32) + (a - (0 : Int32))) + ((a + b) - a)) + (((a + b) + c) - (a + b))).toNatClampNeg := by
  have l0 : (0 : Int32).toInt = 0 := by decide
  have f0 := c_isub a (0 : Int32)
  have r0 := rng32 (a - (0 : Int32))
  have f1 := c_iadd (0 : Int32) (a - (0 : Int32))
  have r1 := rng32 ((0 : Int32) + (a - (0 : Int32)))
  have f2 := c_iadd a b
  have r2 := rng32 (a + b)
  have f3 := c_isub (a + b) a
  have r3 := rng32 ((a + b) - a)
  have f4 := c_iadd ((0 : Int32) + (a - (0 : Int32))) ((a + b) - a)
  have r4 := rng32 (((0 : Int32) + (a - (0 : Int32))) + ((a + b) - a))
  have f5 := c_iadd (a + b) c
  have r5 := rng32 ((a + b) + c)
  have f6 := c_isub ((a + b) + c) (a + b)
  have r6 := rng32 (((a + b) + c) - (a + b))
  have f7 := c_iadd (((0 : Int32) + (a - (0 : Int32))) + ((a + b) - a)) (((a + b) + c) - (a + b))
  have r7 := rng32 ((((0 : Int32) + (a - (0 : Int32))) + ((a + b) - a)) + (((a + b) + c) - (a + b)))
  have r_a := rng32 a
  have r_b := rng32 b
  have r_c := rng32 c
  simp only [Int32.lt_iff_toInt_lt, Int32.toNatClampNeg, ← Int32.toInt_inj, l0] at *
  omega
theorem own_ar27 (a : Int32) (b : Int32) (c : Int32) (ha : 0 ≤ a.toInt ∧ a.toInt ≤ 2047) (hb : 0 ≤ b.toInt ∧ b.toInt ≤ 2047) (hc : 0 ≤ c.toInt ∧ c.toInt ≤ 2047) (hh : ¬ ((4096 : Int32) < ((a + b) + c))) : ¬ ((((0 : Int32) + (a - (0 : Int32))) + ((a + b) - a)) + (((a + b) + c) - (a + b))) < 0 := by
  have l0 : (0 : Int32).toInt = 0 := by decide
  have l4096 : (4096 : Int32).toInt = 4096 := by decide
  have f0 := c_iadd a b
  have r0 := rng32 (a + b)
  have f1 := c_iadd (a + b) c
  have r1 := rng32 ((a + b) + c)
  have f2 := c_isub a (0 : Int32)
  have r2 := rng32 (a - (0 : Int32))
  have f3 := c_iadd (0 : Int32) (a - (0 : Int32))
  have r3 := rng32 ((0 : Int32) + (a - (0 : Int32)))
  have f4 := c_isub (a + b) a
  have r4 := rng32 ((a + b) - a)
  have f5 := c_iadd ((0 : Int32) + (a - (0 : Int32))) ((a + b) - a)
  have r5 := rng32 (((0 : Int32) + (a - (0 : Int32))) + ((a + b) - a))
  have f6 := c_isub ((a + b) + c) (a + b)
  have r6 := rng32 (((a + b) + c) - (a + b))
  have f7 := c_iadd (((0 : Int32) + (a - (0 : Int32))) + ((a + b) - a)) (((a + b) + c) - (a + b))
  have r7 := rng32 ((((0 : Int32) + (a - (0 : Int32))) + ((a + b) - a)) + (((a + b) + c) - (a + b)))
  have r_a := rng32 a
  have r_b := rng32 b
  have r_c := rng32 c
  simp only [Int32.lt_iff_toInt_lt, Int32.toNatClampNeg, ← Int32.toInt_inj, l0, l4096] at *
  omega
theorem own_ar28 (a : Int32) (b : Int32) (c : Int32) (ha : 0 ≤ a.toInt ∧ a.toInt ≤ 2047) (hb : 0 ≤ b.toInt ∧ b.toInt ≤ 2047) (hc : 0 ≤ c.toInt ∧ c.toInt ≤ 2047) (hh : ¬ ((4096 : Int32) < ((a + b) + c))) : ¬ ((4096 : Int32) < ((((0 : Int32) + (a - (0 : Int32))) + ((a + b) - a)) + (((a + b) + c) - (a + b)))) := by
  have l0 : (0 : Int32).toInt = 0 := by decide
  have l4096 : (4096 : Int32).toInt = 4096 := by decide
  have f0 := c_iadd a b
  have r0 := rng32 (a + b)
  have f1 := c_iadd (a + b) c
  have r1 := rng32 ((a + b) + c)
  have f2 := c_isub a (0 : Int32)
  have r2 := rng32 (a - (0 : Int32))
  have f3 := c_iadd (0 : Int32) (a - (0 : Int32))
  have r3 := rng32 ((0 : Int32) + (a - (0 : Int32)))
  have f4 := c_isub (a + b) a
  have r4 := rng32 ((a + b) - a)
  have f5 := c_iadd ((0 : Int32) + (a - (0 : Int32))) ((a + b) - a)
  have r5 := rng32 (((0 : Int32) + (a - (0 : Int32))) + ((a + b) - a))
  have f6 := c_isub ((a + b) + c) (a + b)
  have r6 := rng32 (((a + b) + c) - (a + b))
  have f7 := c_iadd (((0 : Int32) + (a - (0 : Int32))) + ((a + b) - a)) (((a + b) + c) - (a + b))
  have r7 := rng32 ((((0 : Int32) + (a - (0 : Int32))) + ((a + b) - a)) + (((a + b) + c) - (a + b)))
  have r_a := rng32 a
  have r_b := rng32 b
  have r_c := rng32 c
  simp only [Int32.lt_iff_toInt_lt, Int32.toNatClampNeg, ← Int32.toInt_inj, l0, l4096] at *
  omega
theorem ef_0_n2k (m : MethodId) (x0 : Int32) (x1 : Int32) (x2 : Int32) (x3 : Int32) (x4 : Int32) : entryFrame m #[(.int x0), (.int x1), (.int x2), (.int x3), (.int x4)] maxLocals = mkF m 0 #[.val (.int x0), .val (.int x1), .val (.int x2), .val (.int x3), .val (.int x4), .unset, .unset, .unset, .unset, .unset, .unset, .unset, .unset, .unset, .unset] [] := by first | (simp [entryFrame, mkF, argsToLocals, Value.category, maxLocals]; done) | rfl
def Q0_n2k (Z : State) (vi0 : Int32) (vi1 : Int32) (vi2 : Int32) (vi3 : Int32) (vi4 : Int32) (w_COMPACT_STRINGS : Int32) (h0 : Heap) (n0 : Nat) (v : Option Value) (h : Heap) (L : List Loc) : Prop := v = some (.int (1 : Int32)) ∧ Fr n0 L
set_option maxRecDepth 65536 in
set_option maxHeartbeats 40000000 in
theorem rm0_n2k (l : Launch) (Z : State) (a0 : Array Value) (hw : ∀ d ∈ tables_1, d.before a0 Z = true) (ws : List Jvm.Cond) (vi0 : Int32) (vi1 : Int32) (vi2 : Int32) (vi3 : Int32) (vi4 : Int32) (w_COMPACT_STRINGS : Int32) (h0 : Heap) (n0 : Nat) (Z0 : n0 ≤ h0.size) (k188 : ¬ ((4096 : Int32) < (((vi1 &&& (2047 : Int32)) + (vi2 &&& (2047 : Int32))) + (vi3 &&& (2047 : Int32))))) (k107 : ¬ (((vi0 &&& (2147483647 : Int32)) % (3 : Int32)) < (1 : Int32))) (k132 : ¬ (((vi0 &&& (2147483647 : Int32)) % (3 : Int32)) < (2 : Int32))) (S_COMPACT_STRINGS : Sta Z Z.heap "java/lang/String" "COMPACT_STRINGS" "Z" (.int w_COMPACT_STRINGS)) (hG : ¬ (w_COMPACT_STRINGS = (0 : Int32))) (O0 : Old Z n0 h0) :
    MetFree l x (head1 (Jvm.Cond.code x code maxLocals ret :: ws) room_1) (fun a U => a = #[(.int vi0), (.int vi1), (.int vi2), (.int vi3), (.int vi4)] ∧ Z.Warmed39 U.vm ∧ U.heap = h0) (fun _ _ _ _ _ => True) (fun _ U o U' => ∃ v L, o = .returned v ∧ Q0_n2k Z vi0 vi1 vi2 vi3 vi4 w_COMPACT_STRINGS h0 n0 v U'.heap L ∧ FrameEnd U o U' L room_1.cells room_1.slots) := by
  refine MetFree.of_bodySF (plainFor_of_name pn_com_example_careful_ledger_carefulledger_json_PlainLineShapeValuesPinLaw) hisR ?_
  intro p e s m args below meth c s₁ Bd hml0 hP hK
  obtain ⟨rfl, hZ, hh⟩ := hP
  have hx := Bd.exec
  have hby := Bd.bytes
  have hml : c.maxLocals = 15 := hml0
  have hown : s.vm.findClass "com/example/careful_ledger/carefulledger/json/PlainLineShapeValuesPinLaw" = some m.cls := findClass_of_methodNamed Bd.named
  have hnm := (name_of_methodNamed Bd.named Bd.method).1
  have X0 : Stand p l e room_1 s m #[(.int vi0), (.int vi1), (.int vi2), (.int vi3), (.int vi4)] below meth c s₁ [] 0 0 := Stand.of_body Bd
  have e0 : s₁.heap = h0 := by rw [← hh, Bd.state]; rfl
  have N0 := Fr.nil n0
  have pre0 : ∀ t, Steps p.tables e below (s₁.setTop (mkF m 0 #[.val (.int vi0), .val (.int vi1), .val (.int vi2), .val (.int vi3), .val (.int vi4), .unset, .unset, .unset, .unset, .unset, .unset, .unset, .unset, .unset, .unset] [])) t → Steps p.tables e below (s₁.setTop (entryFrame m #[(.int vi0), (.int vi1), (.int vi2), (.int vi3), (.int vi4)] maxLocals)) t := fun t k => castTop (ef_0_n2k m vi0 vi1 vi2 vi3 vi4) k
  obtain ⟨Tc, Lc, b1, b5, b9, b10, p11, en11, tg11, ln, la, lb, lc, k9, kp11, ke11, kt11, t4, t8, Xc, Nc, Zc, Kc, Oc, cf0, cf1, cf2, cf3, cf4, cf5, cf6, cf7, cf8, cf9, cf10, cf11, cf12, cf13, cf14, cf15, cf16, cf17, cf18, cf19, cf20, cf21, cf22, cf23, cf24, cf25, cf26, cf27, cf28, cf29, cf30, cf31, cf32, cf33, cf34, cf35, cf36, cf37, cf38, cf39, cf40, cf41, cf42, cf43, cf44, cf45, cf46, cf47, cf48, cf49, cf50, cf51, cf52, cf53, cf54, cf55, cf56, e_ln, e_la, e_lb, e_lc, hln, hla, hlb, hlc, stc⟩ := cut0 l Z a0 hw vi0 vi1 vi2 vi3 vi4 w_COMPACT_STRINGS h0 n0 Z0 S_COMPACT_STRINGS hG O0 X0 hx hby hml hown hnm hZ e0
  have hc107 := k107
  have hc132 := k132
  have hc188 := k188
  rw [← e_ln] at hc107 hc132
  rw [← e_la, ← e_lb, ← e_lc] at hc188
  obtain ⟨cq201, kq201, q201a, q201b, q201c⟩ := isOf hZ rfl cf7
  obtain ⟨_, _, ⟨T201, L201, k201, n201⟩, -, X201, ⟨Lc201, hQ201, l201, y201, z201⟩, st201⟩ := Xc.virtualBack hx (y := (⟨"com/example/careful_ledger/carefulledger/json/PlainLine", "moveTo", "(I)V"⟩ : MethodName)) (z := (⟨"com/example/careful_ledger/carefulledger/json/PlainLine", "moveTo", "(I)V"⟩ : MethodName)) hown (mvT hZ (wd_84 hw)) (mvT hZ (wd_85 hw)) (notFace_of_selects (args := #[]) (mvT hZ (wd_87 hw))) (mvT hZ (wd_87 hw)) (mvT hZ (wd_86 hw)) (by decide) (backOf (W := 0) (rm11 l Z a0 hw [] b10 la (.ref b9) (.int (0 : Int32)) (.int (6144 : Int32)) (.ref p11) (.ref en11) (.ref tg11) .null (.int (0 : Int32)) (.int (1 : Int32)) (.int (0 : Int32)) Tc.heap n0 Zc cf7 cf12 cf13 cf14 cf15 cf16 cf17 cf18 cf19 cf20 cf21 cf28) hZ (wd_88 hw) (wd_33 hw) (by decide) (by decide)) q201a q201c (g := (mkF m 114 #[.val (.int vi0), .val (.int vi1), .val (.int vi2), .val (.int vi3), .val (.int vi4), .val (.int ln), .val (.int la), .val (.int lb), .val (.int lc), .val (.int ((vi4 &&& (255 : Int32)).toUInt32.toUInt16.toUInt32.toInt32)), .val (.ref b1), .val (.ref b5), .val (.ref b9), .val (.ref b10), .unset] [(.int la), (.ref b10)])) rfl (by rw [hml]; rfl) (Steps.refl _) (argsL := [(.int la)]) (rest := []) (lenOf pd_6 rfl) rfl (by show 2 * 0 + _ ≤ _; exact Nat.le_of_eq rfl) (hb hby at_114) (fun _ _ => ⟨rfl, rfl, (by decide : 13 + 0 ≤ _), (by decide : 6265 + 0 ≤ _)⟩)
  dsimp only [Pt.U, Pt.locs, Pt.cells, Pt.slots] at X201 l201 y201 z201 st201 hQ201
  subst l201 y201 z201
  obtain ⟨rfl, N201q, p201_0, p201_1, p201_2, p201_3, p201_4, p201_5, p201_6, p201_7, p201_8, p201_9, p201_10⟩ := hQ201
  have N201 := Fr.app Nc N201q
  have K201 : Keep h0 T201.heap [] := Kc.trans p201_0 (allS (Or.inr cf29) all0)
  obtain ⟨cq202, kq202, q202a, q202b, q202c⟩ := isOf hZ rfl (cf7.keep p201_0)
  obtain ⟨_, _, ⟨T202, L202, k202, n202⟩, -, X202, ⟨Lc202, hQ202, l202, y202, z202⟩, st202⟩ := X201.virtualBack hx (y := (⟨"com/example/careful_ledger/carefulledger/json/PlainLine", "valueComes", "(Ljava/lang/Object;)V"⟩ : MethodName)) (z := (⟨"com/example/careful_ledger/carefulledger/json/PlainLine", "valueComes", "(Ljava/lang/Object;)V"⟩ : MethodName)) hown (mvT hZ (wd_107 hw)) (mvT hZ (wd_108 hw)) (notFace_of_selects (args := #[]) (mvT hZ (wd_110 hw))) (mvT hZ (wd_110 hw)) (mvT hZ (wd_109 hw)) (by decide) (backOf (W := 0) (rm15_v0 l Z a0 hw [] b10 b1 b9 la (.int (6144 : Int32)) p11 en11 tg11 .null (0 : Int32) ke11 (64 : Int32) kp11 (List.replicate 64 (.int (0 : Int32))) k9 (List.replicate 6144 (.int (0 : Int32))) kt11 (0 : Int32) (0 : Int32) (0 : Int32) .null .null T201.heap n0 (Nat.le_trans Zc p201_0.1) (cf7.keep p201_0) p201_1 p201_2 p201_3 p201_4 p201_5 p201_6 p201_7 p201_8 p201_9 p201_10 (cf9.keep p201_0 (ninS (Ne.symm cf52) nin0)) (cf8.keep p201_0 (ninS (Ne.symm cf51) nin0)) (cf6.keep p201_0 (ninS cf47 nin0)) (cf10.keep p201_0 (ninS (Ne.symm cf53) nin0)) (List.length_replicate) (by decide) (by decide) cf28 cf30 cf32 cf34 (Ne.symm cf51) (Ne.symm cf52) (Ne.symm cf53) cf47 cf54 cf55 (Ne.symm cf48) cf56 (Ne.symm cf49) (Ne.symm cf50) cf11 (by decide) (by decide) (own_ar6 la lb lc hla hlb hlc) (own_ar7 la lb lc hla hlb hlc) (own_ar8 la lb lc hla hlb hlc) (own_ar9 la lb lc hla hlb hlc) (own_ar10 la lb lc hla hlb hlc) (cf0.keep p201_0)) hZ (wd_111 hw) (wd_33 hw) (by decide) (by decide)) q202a q202c (g := (mkF m 121 #[.val (.int vi0), .val (.int vi1), .val (.int vi2), .val (.int vi3), .val (.int vi4), .val (.int ln), .val (.int la), .val (.int lb), .val (.int lc), .val (.int ((vi4 &&& (255 : Int32)).toUInt32.toUInt16.toUInt32.toInt32)), .val (.ref b1), .val (.ref b5), .val (.ref b9), .val (.ref b10), .unset] [(.ref b1), (.ref b10)])) rfl (by rw [hml]; rfl) (Steps.refl _) (argsL := [(.ref b1)]) (rest := []) (lenOf pd_8 rfl) rfl (by show 2 * 0 + _ ≤ _; exact Nat.le_of_eq rfl) (hb hby at_121) (fun _ _ => ⟨rfl, rfl, (by decide : 13 + 1 ≤ _), (by decide : 6265 + 4096 ≤ _)⟩)
  dsimp only [Pt.U, Pt.locs, Pt.cells, Pt.slots] at X202 l202 y202 z202 st202 hQ202
  subst l202 y202 z202
  obtain ⟨p2202, k2202, n2202, v2202, rfl, N202q, p202_0, p202_1, p202_2, p202_3, p202_4, p202_5, p202_6, p202_7, p202_8, p202_9, p202_10, p202_11, p202_12, p202_13, p202_14, p202_15, p202_16, p202_17, p202_18, p202_19, p202_20, p202_21, p202_22⟩ := hQ202
  have N202 := Fr.app N201 N202q
  have K202 : Keep h0 T202.heap [] := K201.trans p202_0 (allS (Or.inr cf29) (allS (Or.inr cf31) (allS (Or.inr cf33) (allS (Or.inr cf35) all0))))
  have sz_p2202 : h0.size ≤ p2202 := p202_18.elim (fun q => q ▸ cf31) (fun q => Nat.le_trans K201.1 q)
  obtain ⟨cq203, kq203, q203a, q203b, q203c⟩ := isOf hZ rfl ((cf7.keep p201_0).keep p202_0)
  obtain ⟨_, _, ⟨T203, L203, k203, n203⟩, -, X203, ⟨Lc203, hQ203, l203, y203, z203⟩, st203⟩ := X202.virtualBack hx (y := (⟨"com/example/careful_ledger/carefulledger/json/PlainLine", "valueRead", "()V"⟩ : MethodName)) (z := (⟨"com/example/careful_ledger/carefulledger/json/PlainLine", "valueRead", "()V"⟩ : MethodName)) hown (mvT hZ (wd_126 hw)) (mvT hZ (wd_127 hw)) (notFace_of_selects (args := #[]) (mvT hZ (wd_129 hw))) (mvT hZ (wd_129 hw)) (mvT hZ (wd_128 hw)) (by decide) (backOf (W := 0) (rm19 l Z a0 hw [] b10 (.ref b9) la (.int (6144 : Int32)) (.ref p2202) (.ref en11) (.ref tg11) .null (.int (1 : Int32)) (.int (1 : Int32)) (.int (0 : Int32)) T202.heap n0 (Nat.le_trans (Nat.le_trans Zc p201_0.1) p202_0.1) ((cf7.keep p201_0).keep p202_0) p202_1 p202_2 p202_3 p202_4 p202_5 p202_6 p202_7 p202_8 p202_9 p202_10 cf28) hZ (wd_130 hw) (wd_33 hw) (by decide) (by decide)) q203a q203c (g := (mkF m 126 #[.val (.int vi0), .val (.int vi1), .val (.int vi2), .val (.int vi3), .val (.int vi4), .val (.int ln), .val (.int la), .val (.int lb), .val (.int lc), .val (.int ((vi4 &&& (255 : Int32)).toUInt32.toUInt16.toUInt32.toInt32)), .val (.ref b1), .val (.ref b5), .val (.ref b9), .val (.ref b10), .unset] [(.ref b10)])) rfl (by rw [hml]; rfl) (Steps.refl _) (argsL := []) (rest := []) (lenOf pd_2 rfl) rfl (by show 2 * 0 + _ ≤ _; exact Nat.le_of_eq rfl) (hb hby at_126) (fun _ _ => ⟨rfl, rfl, (by decide : 14 + 0 ≤ _), (by decide : 10361 + 0 ≤ _)⟩)
  dsimp only [Pt.U, Pt.locs, Pt.cells, Pt.slots] at X203 l203 y203 z203 st203 hQ203
  subst l203 y203 z203
  obtain ⟨rfl, N203q, p203_0, p203_1, p203_2, p203_3, p203_4, p203_5, p203_6, p203_7, p203_8, p203_9, p203_10⟩ := hQ203
  have N203 := Fr.app N202 N203q
  have K203 : Keep h0 T203.heap [] := K202.trans p203_0 (allS (Or.inr cf29) all0)
  obtain ⟨cq204, kq204, q204a, q204b, q204c⟩ := isOf hZ rfl (((cf7.keep p201_0).keep p202_0).keep p203_0)
  obtain ⟨_, _, ⟨T204, L204, k204, n204⟩, -, X204, ⟨Lc204, hQ204, l204, y204, z204⟩, st204⟩ := X203.virtualBack hx (y := (⟨"com/example/careful_ledger/carefulledger/json/PlainLine", "moveTo", "(I)V"⟩ : MethodName)) (z := (⟨"com/example/careful_ledger/carefulledger/json/PlainLine", "moveTo", "(I)V"⟩ : MethodName)) hown (mvT hZ (wd_84 hw)) (mvT hZ (wd_85 hw)) (notFace_of_selects (args := #[]) (mvT hZ (wd_87 hw))) (mvT hZ (wd_87 hw)) (mvT hZ (wd_86 hw)) (by decide) (backOf (W := 0) (rm11 l Z a0 hw [] b10 (la + lb) (.ref b9) (.int la) (.int (6144 : Int32)) (.ref p2202) (.ref en11) (.ref tg11) .null (.int (1 : Int32)) (.int (1 : Int32)) (.int la) T203.heap n0 (Nat.le_trans (Nat.le_trans (Nat.le_trans Zc p201_0.1) p202_0.1) p203_0.1) (((cf7.keep p201_0).keep p202_0).keep p203_0) p203_1 p203_2 p203_3 p203_4 p203_5 p203_6 p203_7 p203_8 p203_9 p203_10 cf28) hZ (wd_88 hw) (wd_33 hw) (by decide) (by decide)) q204a q204c (g := (mkF m 142 #[.val (.int vi0), .val (.int vi1), .val (.int vi2), .val (.int vi3), .val (.int vi4), .val (.int ln), .val (.int la), .val (.int lb), .val (.int lc), .val (.int ((vi4 &&& (255 : Int32)).toUInt32.toUInt16.toUInt32.toInt32)), .val (.ref b1), .val (.ref b5), .val (.ref b9), .val (.ref b10), .unset] [(.int (la + lb)), (.ref b10)])) rfl (by rw [hml]; rfl) (Steps.refl _) (argsL := [(.int (la + lb))]) (rest := []) (lenOf pd_6 rfl) rfl (by show 2 * 0 + _ ≤ _; exact Nat.le_of_eq rfl) (hb hby at_142) (fun _ _ => ⟨rfl, rfl, (by decide : 14 + 0 ≤ _), (by decide : 10361 + 0 ≤ _)⟩)
  dsimp only [Pt.U, Pt.locs, Pt.cells, Pt.slots] at X204 l204 y204 z204 st204 hQ204
  subst l204 y204 z204
  obtain ⟨rfl, N204q, p204_0, p204_1, p204_2, p204_3, p204_4, p204_5, p204_6, p204_7, p204_8, p204_9, p204_10⟩ := hQ204
  have N204 := Fr.app N203 N204q
  have K204 : Keep h0 T204.heap [] := K203.trans p204_0 (allS (Or.inr cf29) all0)
  obtain ⟨cq205, kq205, q205a, q205b, q205c⟩ := isOf hZ rfl ((((cf7.keep p201_0).keep p202_0).keep p203_0).keep p204_0)
  obtain ⟨_, _, ⟨T205, L205, k205, n205⟩, -, X205, ⟨Lc205, hQ205, l205, y205, z205⟩, st205⟩ := X204.virtualBack hx (y := (⟨"com/example/careful_ledger/carefulledger/json/PlainLine", "valueComes", "(Ljava/lang/Object;)V"⟩ : MethodName)) (z := (⟨"com/example/careful_ledger/carefulledger/json/PlainLine", "valueComes", "(Ljava/lang/Object;)V"⟩ : MethodName)) hown (mvT hZ (wd_107 hw)) (mvT hZ (wd_108 hw)) (notFace_of_selects (args := #[]) (mvT hZ (wd_110 hw))) (mvT hZ (wd_110 hw)) (mvT hZ (wd_109 hw)) (by decide) (backOf (W := 0) (rm15_v1 l Z a0 hw [] b10 b1 b9 (la + lb) (.int (6144 : Int32)) p2202 en11 tg11 .null la ke11 n2202 k2202 v2202 k9 (List.replicate 6144 (.int (0 : Int32))) kt11 ((0 : Int32) + (la - (0 : Int32))) (0 : Int32) (0 : Int32) (.ref b1) .null T204.heap n0 (Nat.le_trans (Nat.le_trans (Nat.le_trans (Nat.le_trans Zc p201_0.1) p202_0.1) p203_0.1) p204_0.1) ((((cf7.keep p201_0).keep p202_0).keep p203_0).keep p204_0) p204_1 p204_2 p204_3 p204_4 p204_5 p204_6 p204_7 p204_8 p204_9 p204_10 ((p202_11.keep p203_0 (ninS (Ne.symm cf52) nin0)).keep p204_0 (ninS (Ne.symm cf52) nin0)) ((p202_13.keep p203_0 (ninS p202_19 nin0)).keep p204_0 (ninS p202_19 nin0)) ((((cf6.keep p201_0 (ninS cf47 nin0)).keep p202_0 (ninS cf47 (ninS cf48 (ninS cf49 (ninS cf50 nin0))))).keep p203_0 (ninS cf47 nin0)).keep p204_0 (ninS cf47 nin0)) ((p202_12.keep p203_0 (ninS (Ne.symm cf53) nin0)).keep p204_0 (ninS (Ne.symm cf53) nin0)) p202_14 p202_15 p202_16 cf28 p202_17 cf32 cf34 p202_19 (Ne.symm cf52) (Ne.symm cf53) cf47 p202_20 p202_22 p202_21 cf56 (Ne.symm cf49) (Ne.symm cf50) cf11 (own_ar11 la lb lc hla hlb hlc) (own_ar9 la lb lc hla hlb hlc) (own_ar18 la lb lc hla hlb hlc) (own_ar19 la lb lc hla hlb hlc) (own_ar20 la lb lc hla hlb hlc) (own_ar21 la lb lc hla hlb hlc) (own_ar22 la lb lc hla hlb hlc) ((((cf0.keep p201_0).keep p202_0).keep p203_0).keep p204_0)) hZ (wd_111 hw) (wd_33 hw) (by decide) (by decide)) q205a q205c (g := (mkF m 149 #[.val (.int vi0), .val (.int vi1), .val (.int vi2), .val (.int vi3), .val (.int vi4), .val (.int ln), .val (.int la), .val (.int lb), .val (.int lc), .val (.int ((vi4 &&& (255 : Int32)).toUInt32.toUInt16.toUInt32.toInt32)), .val (.ref b1), .val (.ref b5), .val (.ref b9), .val (.ref b10), .unset] [(.ref b1), (.ref b10)])) rfl (by rw [hml]; rfl) (Steps.refl _) (argsL := [(.ref b1)]) (rest := []) (lenOf pd_8 rfl) rfl (by show 2 * 0 + _ ≤ _; exact Nat.le_of_eq rfl) (hb hby at_149) (fun _ _ => ⟨rfl, rfl, (by decide : 14 + 1 ≤ _), (by decide : 10361 + 4096 ≤ _)⟩)
  dsimp only [Pt.U, Pt.locs, Pt.cells, Pt.slots] at X205 l205 y205 z205 st205 hQ205
  subst l205 y205 z205
  obtain ⟨p2205, k2205, n2205, v2205, rfl, N205q, p205_0, p205_1, p205_2, p205_3, p205_4, p205_5, p205_6, p205_7, p205_8, p205_9, p205_10, p205_11, p205_12, p205_13, p205_14, p205_15, p205_16, p205_17, p205_18, p205_19, p205_20, p205_21, p205_22⟩ := hQ205
  have N205 := Fr.app N204 N205q
  have K205 : Keep h0 T205.heap [] := K204.trans p205_0 (allS (Or.inr cf29) (allS (Or.inr sz_p2202) (allS (Or.inr cf33) (allS (Or.inr cf35) all0))))
  have sz_p2205 : h0.size ≤ p2205 := p205_18.elim (fun q => q ▸ sz_p2202) (fun q => Nat.le_trans K204.1 q)
  obtain ⟨cq206, kq206, q206a, q206b, q206c⟩ := isOf hZ rfl (((((cf7.keep p201_0).keep p202_0).keep p203_0).keep p204_0).keep p205_0)
  obtain ⟨_, _, ⟨T206, L206, k206, n206⟩, -, X206, ⟨Lc206, hQ206, l206, y206, z206⟩, st206⟩ := X205.virtualBack hx (y := (⟨"com/example/careful_ledger/carefulledger/json/PlainLine", "valueRead", "()V"⟩ : MethodName)) (z := (⟨"com/example/careful_ledger/carefulledger/json/PlainLine", "valueRead", "()V"⟩ : MethodName)) hown (mvT hZ (wd_126 hw)) (mvT hZ (wd_127 hw)) (notFace_of_selects (args := #[]) (mvT hZ (wd_129 hw))) (mvT hZ (wd_129 hw)) (mvT hZ (wd_128 hw)) (by decide) (backOf (W := 0) (rm19 l Z a0 hw [] b10 (.ref b9) (la + lb) (.int (6144 : Int32)) (.ref p2205) (.ref en11) (.ref tg11) .null (.int (2 : Int32)) (.int (1 : Int32)) (.int la) T205.heap n0 (Nat.le_trans (Nat.le_trans (Nat.le_trans (Nat.le_trans (Nat.le_trans Zc p201_0.1) p202_0.1) p203_0.1) p204_0.1) p205_0.1) (((((cf7.keep p201_0).keep p202_0).keep p203_0).keep p204_0).keep p205_0) p205_1 p205_2 p205_3 p205_4 p205_5 p205_6 p205_7 p205_8 p205_9 p205_10 cf28) hZ (wd_130 hw) (wd_33 hw) (by decide) (by decide)) q206a q206c (g := (mkF m 154 #[.val (.int vi0), .val (.int vi1), .val (.int vi2), .val (.int vi3), .val (.int vi4), .val (.int ln), .val (.int la), .val (.int lb), .val (.int lc), .val (.int ((vi4 &&& (255 : Int32)).toUInt32.toUInt16.toUInt32.toInt32)), .val (.ref b1), .val (.ref b5), .val (.ref b9), .val (.ref b10), .unset] [(.ref b10)])) rfl (by rw [hml]; rfl) (Steps.refl _) (argsL := []) (rest := []) (lenOf pd_2 rfl) rfl (by show 2 * 0 + _ ≤ _; exact Nat.le_of_eq rfl) (hb hby at_154) (fun _ _ => ⟨rfl, rfl, (by decide : 15 + 0 ≤ _), (by decide : 14457 + 0 ≤ _)⟩)
  dsimp only [Pt.U, Pt.locs, Pt.cells, Pt.slots] at X206 l206 y206 z206 st206 hQ206
  subst l206 y206 z206
  obtain ⟨rfl, N206q, p206_0, p206_1, p206_2, p206_3, p206_4, p206_5, p206_6, p206_7, p206_8, p206_9, p206_10⟩ := hQ206
  have N206 := Fr.app N205 N206q
  have K206 : Keep h0 T206.heap [] := K205.trans p206_0 (allS (Or.inr cf29) all0)
  obtain ⟨cq207, kq207, q207a, q207b, q207c⟩ := isOf hZ rfl ((((((cf7.keep p201_0).keep p202_0).keep p203_0).keep p204_0).keep p205_0).keep p206_0)
  obtain ⟨_, _, ⟨T207, L207, k207, n207⟩, -, X207, ⟨Lc207, hQ207, l207, y207, z207⟩, st207⟩ := X206.virtualBack hx (y := (⟨"com/example/careful_ledger/carefulledger/json/PlainLine", "moveTo", "(I)V"⟩ : MethodName)) (z := (⟨"com/example/careful_ledger/carefulledger/json/PlainLine", "moveTo", "(I)V"⟩ : MethodName)) hown (mvT hZ (wd_84 hw)) (mvT hZ (wd_85 hw)) (notFace_of_selects (args := #[]) (mvT hZ (wd_87 hw))) (mvT hZ (wd_87 hw)) (mvT hZ (wd_86 hw)) (by decide) (backOf (W := 0) (rm11 l Z a0 hw [] b10 ((la + lb) + lc) (.ref b9) (.int (la + lb)) (.int (6144 : Int32)) (.ref p2205) (.ref en11) (.ref tg11) .null (.int (2 : Int32)) (.int (1 : Int32)) (.int (la + lb)) T206.heap n0 (Nat.le_trans (Nat.le_trans (Nat.le_trans (Nat.le_trans (Nat.le_trans (Nat.le_trans Zc p201_0.1) p202_0.1) p203_0.1) p204_0.1) p205_0.1) p206_0.1) ((((((cf7.keep p201_0).keep p202_0).keep p203_0).keep p204_0).keep p205_0).keep p206_0) p206_1 p206_2 p206_3 p206_4 p206_5 p206_6 p206_7 p206_8 p206_9 p206_10 cf28) hZ (wd_88 hw) (wd_33 hw) (by decide) (by decide)) q207a q207c (g := (mkF m 167 #[.val (.int vi0), .val (.int vi1), .val (.int vi2), .val (.int vi3), .val (.int vi4), .val (.int ln), .val (.int la), .val (.int lb), .val (.int lc), .val (.int ((vi4 &&& (255 : Int32)).toUInt32.toUInt16.toUInt32.toInt32)), .val (.ref b1), .val (.ref b5), .val (.ref b9), .val (.ref b10), .unset] [(.int ((la + lb) + lc)), (.ref b10)])) rfl (by rw [hml]; rfl) (Steps.refl _) (argsL := [(.int ((la + lb) + lc))]) (rest := []) (lenOf pd_6 rfl) rfl (by show 2 * 0 + _ ≤ _; exact Nat.le_of_eq rfl) (hb hby at_167) (fun _ _ => ⟨rfl, rfl, (by decide : 15 + 0 ≤ _), (by decide : 14457 + 0 ≤ _)⟩)
  dsimp only [Pt.U, Pt.locs, Pt.cells, Pt.slots] at X207 l207 y207 z207 st207 hQ207
  subst l207 y207 z207
  obtain ⟨rfl, N207q, p207_0, p207_1, p207_2, p207_3, p207_4, p207_5, p207_6, p207_7, p207_8, p207_9, p207_10⟩ := hQ207
  have N207 := Fr.app N206 N207q
  have K207 : Keep h0 T207.heap [] := K206.trans p207_0 (allS (Or.inr cf29) all0)
  obtain ⟨cq208, kq208, q208a, q208b, q208c⟩ := isOf hZ rfl (((((((cf7.keep p201_0).keep p202_0).keep p203_0).keep p204_0).keep p205_0).keep p206_0).keep p207_0)
  obtain ⟨_, _, ⟨T208, L208, k208, n208⟩, -, X208, ⟨Lc208, hQ208, l208, y208, z208⟩, st208⟩ := X207.virtualBack hx (y := (⟨"com/example/careful_ledger/carefulledger/json/PlainLine", "endShape", "(Ljava/lang/Object;)V"⟩ : MethodName)) (z := (⟨"com/example/careful_ledger/carefulledger/json/PlainLine", "endShape", "(Ljava/lang/Object;)V"⟩ : MethodName)) hown (mvT hZ (wd_89 hw)) (mvT hZ (wd_90 hw)) (notFace_of_selects (args := #[]) (mvT hZ (wd_92 hw))) (mvT hZ (wd_92 hw)) (mvT hZ (wd_91 hw)) (by decide) (backOf (W := 0) (rm12_ok2 l Z a0 hw [] b10 b1 b9 ((la + lb) + lc) (.int (6144 : Int32)) p2205 en11 tg11 .null (la + lb) ke11 n2205 k2205 v2205 k9 (List.replicate 6144 (.int (0 : Int32))) kt11 ((0 : Int32) + (la - (0 : Int32))) (((0 : Int32) + (la - (0 : Int32))) + ((la + lb) - la)) (0 : Int32) (.ref b1) (.ref b1) T207.heap n0 (Nat.le_trans (Nat.le_trans (Nat.le_trans (Nat.le_trans (Nat.le_trans (Nat.le_trans (Nat.le_trans Zc p201_0.1) p202_0.1) p203_0.1) p204_0.1) p205_0.1) p206_0.1) p207_0.1) (((((((cf7.keep p201_0).keep p202_0).keep p203_0).keep p204_0).keep p205_0).keep p206_0).keep p207_0) p207_1 p207_2 p207_3 p207_4 p207_5 p207_6 p207_7 p207_8 p207_9 p207_10 ((p205_11.keep p206_0 (ninS (Ne.symm cf52) nin0)).keep p207_0 (ninS (Ne.symm cf52) nin0)) ((p205_13.keep p206_0 (ninS p205_19 nin0)).keep p207_0 (ninS p205_19 nin0)) (((((((cf6.keep p201_0 (ninS cf47 nin0)).keep p202_0 (ninS cf47 (ninS cf48 (ninS cf49 (ninS cf50 nin0))))).keep p203_0 (ninS cf47 nin0)).keep p204_0 (ninS cf47 nin0)).keep p205_0 (ninS cf47 (ninS (Ne.symm p202_21) (ninS cf49 (ninS cf50 nin0))))).keep p206_0 (ninS cf47 nin0)).keep p207_0 (ninS cf47 nin0)) ((p205_12.keep p206_0 (ninS (Ne.symm cf53) nin0)).keep p207_0 (ninS (Ne.symm cf53) nin0)) p205_14 p205_15 p205_16 cf28 p205_17 cf32 cf34 p205_19 (Ne.symm cf52) (Ne.symm cf53) cf47 p205_20 p205_22 p205_21 cf56 (Ne.symm cf49) (Ne.symm cf50) cf11 (own_ar23 la lb lc hla hlb hlc) (own_ar21 la lb lc hla hlb hlc) (own_ar24 la lb lc hla hlb hlc) (own_ar25 la lb lc hla hlb hlc hc188) (own_ar26 la lb lc hla hlb hlc) (own_ar27 la lb lc hla hlb hlc hc188) (own_ar28 la lb lc hla hlb hlc hc188)) hZ (wd_93 hw) (wd_33 hw) (by decide) (by decide)) q208a q208c (g := (mkF m 174 #[.val (.int vi0), .val (.int vi1), .val (.int vi2), .val (.int vi3), .val (.int vi4), .val (.int ln), .val (.int la), .val (.int lb), .val (.int lc), .val (.int ((vi4 &&& (255 : Int32)).toUInt32.toUInt16.toUInt32.toInt32)), .val (.ref b1), .val (.ref b5), .val (.ref b9), .val (.ref b10), .unset] [(.ref b1), (.ref b10)])) rfl (by rw [hml]; rfl) (Steps.refl _) (argsL := [(.ref b1)]) (rest := []) (lenOf pd_8 rfl) rfl (by show 2 * 0 + _ ≤ _; exact Nat.le_of_eq rfl) (hb hby at_174) (fun _ _ => ⟨rfl, rfl, (by decide : 15 + 1 ≤ _), (by decide : 14457 + 4096 ≤ _)⟩)
  dsimp only [Pt.U, Pt.locs, Pt.cells, Pt.slots] at X208 l208 y208 z208 st208 hQ208
  subst l208 y208 z208
  obtain ⟨p2208, rfl, N208q, p208_0, p208_1, p208_2, p208_3, p208_4, p208_5, p208_6, p208_7, p208_8, p208_9, p208_10⟩ := hQ208
  have N208 := Fr.app N207 N208q
  have K208 : Keep h0 T208.heap [] := K207.trans p208_0 (allS (Or.inr cf29) (allS (Or.inr sz_p2205) (allS (Or.inr cf33) all0)))
  obtain ⟨cq209, kq209, q209a, q209b, q209c⟩ := isOf hZ rfl ((((((((cf7.keep p201_0).keep p202_0).keep p203_0).keep p204_0).keep p205_0).keep p206_0).keep p207_0).keep p208_0)
  obtain ⟨_, _, ⟨T209, L209, k209, n209⟩, -, X209, ⟨Lc209, hQ209, l209, y209, z209⟩, st209⟩ := X208.virtualBack hx (y := (⟨"com/example/careful_ledger/carefulledger/json/PlainLine", "shapeValues", "(Ljava/lang/Object;)I"⟩ : MethodName)) (z := (⟨"com/example/careful_ledger/carefulledger/json/PlainLine", "shapeValues", "(Ljava/lang/Object;)I"⟩ : MethodName)) hown (mvT hZ (wd_102 hw)) (mvT hZ (wd_103 hw)) (notFace_of_selects (args := #[]) (mvT hZ (wd_105 hw))) (mvT hZ (wd_105 hw)) (mvT hZ (wd_104 hw)) (by decide) (backOf (W := 0) (rm14_same l Z a0 hw [] b10 b1 (2 : Int32) T208.heap n0 (Nat.le_trans (Nat.le_trans (Nat.le_trans (Nat.le_trans (Nat.le_trans (Nat.le_trans (Nat.le_trans (Nat.le_trans Zc p201_0.1) p202_0.1) p203_0.1) p204_0.1) p205_0.1) p206_0.1) p207_0.1) p208_0.1) p208_7 p208_8) hZ (wd_106 hw) (wd_33 hw) (by decide) (by decide)) q209a q209c (g := (mkF m 203 #[.val (.int vi0), .val (.int vi1), .val (.int vi2), .val (.int vi3), .val (.int vi4), .val (.int ln), .val (.int la), .val (.int lb), .val (.int lc), .val (.int ((vi4 &&& (255 : Int32)).toUInt32.toUInt16.toUInt32.toInt32)), .val (.ref b1), .val (.ref b5), .val (.ref b9), .val (.ref b10), .val (.int ln)] [(.ref b1), (.ref b10)])) rfl (by rw [hml]; rfl) (Steps.refl _) (argsL := [(.ref b1)]) (rest := []) (lenOf pd_10 rfl) rfl (by show 2 * 0 + _ ≤ _; exact Nat.le_of_eq rfl) (hb hby at_203) (fun _ _ => ⟨rfl, rfl, (by decide : 16 + 0 ≤ _), (by decide : 18553 + 0 ≤ _)⟩)
  dsimp only [Pt.U, Pt.locs, Pt.cells, Pt.slots] at X209 l209 y209 z209 st209 hQ209
  subst l209 y209 z209
  obtain ⟨rfl, N209q, p209_0⟩ := hQ209
  have N209 := Fr.app N208 N209q
  have e209 : T209.heap = T208.heap := p209_0
  obtain ⟨cq210, kq210, q210a, q210b, q210c⟩ := isOf hZ e209 ((((((((cf7.keep p201_0).keep p202_0).keep p203_0).keep p204_0).keep p205_0).keep p206_0).keep p207_0).keep p208_0)
  obtain ⟨_, _, ⟨T210, L210, k210, n210⟩, -, X210, ⟨Lc210, hQ210, l210, y210, z210⟩, st210⟩ := X209.virtualBack hx (y := (⟨"com/example/careful_ledger/carefulledger/json/PlainLine", "shapeValues", "(Ljava/lang/Object;)I"⟩ : MethodName)) (z := (⟨"com/example/careful_ledger/carefulledger/json/PlainLine", "shapeValues", "(Ljava/lang/Object;)I"⟩ : MethodName)) hown (mvT hZ (wd_102 hw)) (mvT hZ (wd_103 hw)) (notFace_of_selects (args := #[]) (mvT hZ (wd_105 hw))) (mvT hZ (wd_105 hw)) (mvT hZ (wd_104 hw)) (by decide) (backOf (W := 0) (rm14_other l Z a0 hw [] b10 b5 b1 T208.heap n0 (Nat.le_trans (Nat.le_trans (Nat.le_trans (Nat.le_trans (Nat.le_trans (Nat.le_trans (Nat.le_trans (Nat.le_trans Zc p201_0.1) p202_0.1) p203_0.1) p204_0.1) p205_0.1) p206_0.1) p207_0.1) p208_0.1) p208_7 cf36) hZ (wd_106 hw) (wd_33 hw) (by decide) (by decide)) q210a q210c (g := (mkF m 215 #[.val (.int vi0), .val (.int vi1), .val (.int vi2), .val (.int vi3), .val (.int vi4), .val (.int ln), .val (.int la), .val (.int lb), .val (.int lc), .val (.int ((vi4 &&& (255 : Int32)).toUInt32.toUInt16.toUInt32.toInt32)), .val (.ref b1), .val (.ref b5), .val (.ref b9), .val (.ref b10), .val (.int ln)] [(.ref b5), (.ref b10)])) rfl (by rw [hml]; rfl) (Steps.refl _) (argsL := [(.ref b5)]) (rest := []) (lenOf pd_10 rfl) rfl (by show 2 * 0 + _ ≤ _; exact Nat.le_of_eq rfl) (hb hby at_215) (fun _ _ => ⟨rfl, e209, (by decide : 16 + 0 ≤ _), (by decide : 18553 + 0 ≤ _)⟩)
  dsimp only [Pt.U, Pt.locs, Pt.cells, Pt.slots] at X210 l210 y210 z210 st210 hQ210
  subst l210 y210 z210
  obtain ⟨rfl, N210q, p210_0⟩ := hQ210
  have N210 := Fr.app N209 N210q
  have e210 : T210.heap = T208.heap := p210_0
  obtain ⟨fs, hr, hrun, hended, hW, hsame⟩ := X210.leave (v := some (.int (1 : Int32))) (fun h => by rw [Bd.returns] at h; cases h)
  refine ⟨_, _, pre0 _ ?_, hrun, hended, _, _, rfl, ?_, ⟨_, rfl⟩, hW, hsame.mono (by decide) (by decide)⟩
  · refine stc _ ?_
    show Steps p.tables e below (Tc.setTop (mkF m 104 #[.val (.int vi0), .val (.int vi1), .val (.int vi2), .val (.int vi3), .val (.int vi4), .val (.int ln), .val (.int la), .val (.int lb), .val (.int lc), .val (.int ((vi4 &&& (255 : Int32)).toUInt32.toUInt16.toUInt32.toInt32)), .val (.ref b1), .val (.ref b5), .val (.ref b9), .val (.ref b10), .unset] [])) _
    refine XS.iload Xc.here hx rfl (hb hby at_104) rfl ?_
    refine XS.iconst Xc.here hx rfl (hb hby at_106) ?_
    show Steps p.tables e below (Tc.setTop (mkF m 107 #[.val (.int vi0), .val (.int vi1), .val (.int vi2), .val (.int vi3), .val (.int vi4), .val (.int ln), .val (.int la), .val (.int lb), .val (.int lc), .val (.int ((vi4 &&& (255 : Int32)).toUInt32.toUInt16.toUInt32.toInt32)), .val (.ref b1), .val (.ref b5), .val (.ref b9), .val (.ref b10), .unset] [(.int (1 : Int32)), (.int ln)])) _
    refine XS.icmpNo Xc.here hx rfl (hb hby at_107) rfl (flt hc107).1 ?_
    refine XS.aload Xc.here hx rfl (hb hby at_110) rfl rfl ?_
    show Steps p.tables e below (Tc.setTop (mkF m 112 #[.val (.int vi0), .val (.int vi1), .val (.int vi2), .val (.int vi3), .val (.int vi4), .val (.int ln), .val (.int la), .val (.int lb), .val (.int lc), .val (.int ((vi4 &&& (255 : Int32)).toUInt32.toUInt16.toUInt32.toInt32)), .val (.ref b1), .val (.ref b5), .val (.ref b9), .val (.ref b10), .unset] [(.ref b10)])) _
    refine XS.iload Xc.here hx rfl (hb hby at_112) rfl ?_
    show Steps p.tables e below (Tc.setTop (mkF m 114 #[.val (.int vi0), .val (.int vi1), .val (.int vi2), .val (.int vi3), .val (.int vi4), .val (.int ln), .val (.int la), .val (.int lb), .val (.int lc), .val (.int ((vi4 &&& (255 : Int32)).toUInt32.toUInt16.toUInt32.toInt32)), .val (.ref b1), .val (.ref b5), .val (.ref b9), .val (.ref b10), .unset] [(.int la), (.ref b10)])) _
    refine st201.trans ?_
    refine XS.aload X201.here hx rfl (hb hby at_117) rfl rfl ?_
    refine XS.aload X201.here hx rfl (hb hby at_119) rfl rfl ?_
    show Steps p.tables e below (T201.setTop (mkF m 121 #[.val (.int vi0), .val (.int vi1), .val (.int vi2), .val (.int vi3), .val (.int vi4), .val (.int ln), .val (.int la), .val (.int lb), .val (.int lc), .val (.int ((vi4 &&& (255 : Int32)).toUInt32.toUInt16.toUInt32.toInt32)), .val (.ref b1), .val (.ref b5), .val (.ref b9), .val (.ref b10), .unset] [(.ref b1), (.ref b10)])) _
    refine st202.trans ?_
    refine XS.aload X202.here hx rfl (hb hby at_124) rfl rfl ?_
    show Steps p.tables e below (T202.setTop (mkF m 126 #[.val (.int vi0), .val (.int vi1), .val (.int vi2), .val (.int vi3), .val (.int vi4), .val (.int ln), .val (.int la), .val (.int lb), .val (.int lc), .val (.int ((vi4 &&& (255 : Int32)).toUInt32.toUInt16.toUInt32.toInt32)), .val (.ref b1), .val (.ref b5), .val (.ref b9), .val (.ref b10), .unset] [(.ref b10)])) _
    refine st203.trans ?_
    refine XS.iload X203.here hx rfl (hb hby at_129) rfl ?_
    show Steps p.tables e below (T203.setTop (mkF m 131 #[.val (.int vi0), .val (.int vi1), .val (.int vi2), .val (.int vi3), .val (.int vi4), .val (.int ln), .val (.int la), .val (.int lb), .val (.int lc), .val (.int ((vi4 &&& (255 : Int32)).toUInt32.toUInt16.toUInt32.toInt32)), .val (.ref b1), .val (.ref b5), .val (.ref b9), .val (.ref b10), .unset] [(.int ln)])) _
    refine XS.iconst X203.here hx rfl (hb hby at_131) ?_
    show Steps p.tables e below (T203.setTop (mkF m 132 #[.val (.int vi0), .val (.int vi1), .val (.int vi2), .val (.int vi3), .val (.int vi4), .val (.int ln), .val (.int la), .val (.int lb), .val (.int lc), .val (.int ((vi4 &&& (255 : Int32)).toUInt32.toUInt16.toUInt32.toInt32)), .val (.ref b1), .val (.ref b5), .val (.ref b9), .val (.ref b10), .unset] [(.int (2 : Int32)), (.int ln)])) _
    refine XS.icmpNo X203.here hx rfl (hb hby at_132) rfl (flt hc132).1 ?_
    refine XS.aload X203.here hx rfl (hb hby at_135) rfl rfl ?_
    refine XS.iload X203.here hx rfl (hb hby at_137) rfl ?_
    show Steps p.tables e below (T203.setTop (mkF m 139 #[.val (.int vi0), .val (.int vi1), .val (.int vi2), .val (.int vi3), .val (.int vi4), .val (.int ln), .val (.int la), .val (.int lb), .val (.int lc), .val (.int ((vi4 &&& (255 : Int32)).toUInt32.toUInt16.toUInt32.toInt32)), .val (.ref b1), .val (.ref b5), .val (.ref b9), .val (.ref b10), .unset] [(.int la), (.ref b10)])) _
    refine XS.iload X203.here hx rfl (hb hby at_139) rfl ?_
    refine XS.iadd X203.here hx rfl (hb hby at_141) rfl ?_
    show Steps p.tables e below (T203.setTop (mkF m 142 #[.val (.int vi0), .val (.int vi1), .val (.int vi2), .val (.int vi3), .val (.int vi4), .val (.int ln), .val (.int la), .val (.int lb), .val (.int lc), .val (.int ((vi4 &&& (255 : Int32)).toUInt32.toUInt16.toUInt32.toInt32)), .val (.ref b1), .val (.ref b5), .val (.ref b9), .val (.ref b10), .unset] [(.int (la + lb)), (.ref b10)])) _
    refine st204.trans ?_
    refine XS.aload X204.here hx rfl (hb hby at_145) rfl rfl ?_
    show Steps p.tables e below (T204.setTop (mkF m 147 #[.val (.int vi0), .val (.int vi1), .val (.int vi2), .val (.int vi3), .val (.int vi4), .val (.int ln), .val (.int la), .val (.int lb), .val (.int lc), .val (.int ((vi4 &&& (255 : Int32)).toUInt32.toUInt16.toUInt32.toInt32)), .val (.ref b1), .val (.ref b5), .val (.ref b9), .val (.ref b10), .unset] [(.ref b10)])) _
    refine XS.aload X204.here hx rfl (hb hby at_147) rfl rfl ?_
    show Steps p.tables e below (T204.setTop (mkF m 149 #[.val (.int vi0), .val (.int vi1), .val (.int vi2), .val (.int vi3), .val (.int vi4), .val (.int ln), .val (.int la), .val (.int lb), .val (.int lc), .val (.int ((vi4 &&& (255 : Int32)).toUInt32.toUInt16.toUInt32.toInt32)), .val (.ref b1), .val (.ref b5), .val (.ref b9), .val (.ref b10), .unset] [(.ref b1), (.ref b10)])) _
    refine st205.trans ?_
    refine XS.aload X205.here hx rfl (hb hby at_152) rfl rfl ?_
    show Steps p.tables e below (T205.setTop (mkF m 154 #[.val (.int vi0), .val (.int vi1), .val (.int vi2), .val (.int vi3), .val (.int vi4), .val (.int ln), .val (.int la), .val (.int lb), .val (.int lc), .val (.int ((vi4 &&& (255 : Int32)).toUInt32.toUInt16.toUInt32.toInt32)), .val (.ref b1), .val (.ref b5), .val (.ref b9), .val (.ref b10), .unset] [(.ref b10)])) _
    refine st206.trans ?_
    show Steps p.tables e below (T206.setTop (mkF m 157 #[.val (.int vi0), .val (.int vi1), .val (.int vi2), .val (.int vi3), .val (.int vi4), .val (.int ln), .val (.int la), .val (.int lb), .val (.int lc), .val (.int ((vi4 &&& (255 : Int32)).toUInt32.toUInt16.toUInt32.toInt32)), .val (.ref b1), .val (.ref b5), .val (.ref b9), .val (.ref b10), .unset] [])) _
    refine XS.aload X206.here hx rfl (hb hby at_157) rfl rfl ?_
    refine XS.iload X206.here hx rfl (hb hby at_159) rfl ?_
    refine XS.iload X206.here hx rfl (hb hby at_161) rfl ?_
    refine XS.iadd X206.here hx rfl (hb hby at_163) rfl ?_
    show Steps p.tables e below (T206.setTop (mkF m 164 #[.val (.int vi0), .val (.int vi1), .val (.int vi2), .val (.int vi3), .val (.int vi4), .val (.int ln), .val (.int la), .val (.int lb), .val (.int lc), .val (.int ((vi4 &&& (255 : Int32)).toUInt32.toUInt16.toUInt32.toInt32)), .val (.ref b1), .val (.ref b5), .val (.ref b9), .val (.ref b10), .unset] [(.int (la + lb)), (.ref b10)])) _
    refine XS.iload X206.here hx rfl (hb hby at_164) rfl ?_
    refine XS.iadd X206.here hx rfl (hb hby at_166) rfl ?_
    show Steps p.tables e below (T206.setTop (mkF m 167 #[.val (.int vi0), .val (.int vi1), .val (.int vi2), .val (.int vi3), .val (.int vi4), .val (.int ln), .val (.int la), .val (.int lb), .val (.int lc), .val (.int ((vi4 &&& (255 : Int32)).toUInt32.toUInt16.toUInt32.toInt32)), .val (.ref b1), .val (.ref b5), .val (.ref b9), .val (.ref b10), .unset] [(.int ((la + lb) + lc)), (.ref b10)])) _
    refine st207.trans ?_
    refine XS.aload X207.here hx rfl (hb hby at_170) rfl rfl ?_
    show Steps p.tables e below (T207.setTop (mkF m 172 #[.val (.int vi0), .val (.int vi1), .val (.int vi2), .val (.int vi3), .val (.int vi4), .val (.int ln), .val (.int la), .val (.int lb), .val (.int lc), .val (.int ((vi4 &&& (255 : Int32)).toUInt32.toUInt16.toUInt32.toInt32)), .val (.ref b1), .val (.ref b5), .val (.ref b9), .val (.ref b10), .unset] [(.ref b10)])) _
    refine XS.aload X207.here hx rfl (hb hby at_172) rfl rfl ?_
    show Steps p.tables e below (T207.setTop (mkF m 174 #[.val (.int vi0), .val (.int vi1), .val (.int vi2), .val (.int vi3), .val (.int vi4), .val (.int ln), .val (.int la), .val (.int lb), .val (.int lc), .val (.int ((vi4 &&& (255 : Int32)).toUInt32.toUInt16.toUInt32.toInt32)), .val (.ref b1), .val (.ref b5), .val (.ref b9), .val (.ref b10), .unset] [(.ref b1), (.ref b10)])) _
    refine st208.trans ?_
    refine XS.iload X208.here hx rfl (hb hby at_177) rfl ?_
    refine XS.iload X208.here hx rfl (hb hby at_179) rfl ?_
    show Steps p.tables e below (T208.setTop (mkF m 181 #[.val (.int vi0), .val (.int vi1), .val (.int vi2), .val (.int vi3), .val (.int vi4), .val (.int ln), .val (.int la), .val (.int lb), .val (.int lc), .val (.int ((vi4 &&& (255 : Int32)).toUInt32.toUInt16.toUInt32.toInt32)), .val (.ref b1), .val (.ref b5), .val (.ref b9), .val (.ref b10), .unset] [(.int lb), (.int la)])) _
    refine XS.iadd X208.here hx rfl (hb hby at_181) rfl ?_
    refine XS.iload X208.here hx rfl (hb hby at_182) rfl ?_
    refine XS.iadd X208.here hx rfl (hb hby at_184) rfl ?_
    refine XS.sipush X208.here hx rfl (hb hby at_185) ?_
    show Steps p.tables e below (T208.setTop (mkF m 188 #[.val (.int vi0), .val (.int vi1), .val (.int vi2), .val (.int vi3), .val (.int vi4), .val (.int ln), .val (.int la), .val (.int lb), .val (.int lc), .val (.int ((vi4 &&& (255 : Int32)).toUInt32.toUInt16.toUInt32.toInt32)), .val (.ref b1), .val (.ref b5), .val (.ref b9), .val (.ref b10), .unset] [(.int (4096 : Int32)), (.int ((la + lb) + lc))])) _
    refine XS.icmpNo X208.here hx rfl (hb hby at_188) rfl (flt hc188).2.2.1 ?_
    refine XS.iload X208.here hx rfl (hb hby at_191) rfl ?_
    refine XS.goto X208.here hx rfl (pc0 := 193) (pc' := 197) rfl (hb hby at_193) (by decide) (by decide) ?_
    refine XS.istore X208.here hx rfl (hb hby at_197) rfl (l' := #[.val (.int vi0), .val (.int vi1), .val (.int vi2), .val (.int vi3), .val (.int vi4), .val (.int ln), .val (.int la), .val (.int lb), .val (.int lc), .val (.int ((vi4 &&& (255 : Int32)).toUInt32.toUInt16.toUInt32.toInt32)), .val (.ref b1), .val (.ref b5), .val (.ref b9), .val (.ref b10), .val (.int ln)]) rfl ?_
    show Steps p.tables e below (T208.setTop (mkF m 199 #[.val (.int vi0), .val (.int vi1), .val (.int vi2), .val (.int vi3), .val (.int vi4), .val (.int ln), .val (.int la), .val (.int lb), .val (.int lc), .val (.int ((vi4 &&& (255 : Int32)).toUInt32.toUInt16.toUInt32.toInt32)), .val (.ref b1), .val (.ref b5), .val (.ref b9), .val (.ref b10), .val (.int ln)] [])) _
    refine XS.aload X208.here hx rfl (hb hby at_199) rfl rfl ?_
    refine XS.aload X208.here hx rfl (hb hby at_201) rfl rfl ?_
    show Steps p.tables e below (T208.setTop (mkF m 203 #[.val (.int vi0), .val (.int vi1), .val (.int vi2), .val (.int vi3), .val (.int vi4), .val (.int ln), .val (.int la), .val (.int lb), .val (.int lc), .val (.int ((vi4 &&& (255 : Int32)).toUInt32.toUInt16.toUInt32.toInt32)), .val (.ref b1), .val (.ref b5), .val (.ref b9), .val (.ref b10), .val (.int ln)] [(.ref b1), (.ref b10)])) _
    refine st209.trans ?_
    refine XS.iload X209.here hx rfl (hb hby at_206) rfl ?_
    show Steps p.tables e below (T209.setTop (mkF m 208 #[.val (.int vi0), .val (.int vi1), .val (.int vi2), .val (.int vi3), .val (.int vi4), .val (.int ln), .val (.int la), .val (.int lb), .val (.int lc), .val (.int ((vi4 &&& (255 : Int32)).toUInt32.toUInt16.toUInt32.toInt32)), .val (.ref b1), .val (.ref b5), .val (.ref b9), .val (.ref b10), .val (.int ln)] [(.int ln), (.int (2 : Int32))])) _
    refine XS.icmpNo X209.here hx rfl (hb hby at_208) rfl (teq (own_is 2 (by decide) (by have q := hln; have c1 := hc107; have c2 := hc132; simp only [Int32.lt_iff_toInt_lt, show (1 : Int32).toInt = 1 from by decide, show (2 : Int32).toInt = 2 from by decide] at c1 c2; omega))).2 ?_
    refine XS.aload X209.here hx rfl (hb hby at_211) rfl rfl ?_
    refine XS.aload X209.here hx rfl (hb hby at_213) rfl rfl ?_
    show Steps p.tables e below (T209.setTop (mkF m 215 #[.val (.int vi0), .val (.int vi1), .val (.int vi2), .val (.int vi3), .val (.int vi4), .val (.int ln), .val (.int la), .val (.int lb), .val (.int lc), .val (.int ((vi4 &&& (255 : Int32)).toUInt32.toUInt16.toUInt32.toInt32)), .val (.ref b1), .val (.ref b5), .val (.ref b9), .val (.ref b10), .val (.int ln)] [(.ref b5), (.ref b10)])) _
    refine st210.trans ?_
    show Steps p.tables e below (T210.setTop (mkF m 218 #[.val (.int vi0), .val (.int vi1), .val (.int vi2), .val (.int vi3), .val (.int vi4), .val (.int ln), .val (.int la), .val (.int lb), .val (.int lc), .val (.int ((vi4 &&& (255 : Int32)).toUInt32.toUInt16.toUInt32.toInt32)), .val (.ref b1), .val (.ref b5), .val (.ref b9), .val (.ref b10), .val (.int ln)] [(.int (-1 : Int32))])) _
    refine XS.iconst X210.here hx rfl (hb hby at_218) ?_
    show Steps p.tables e below (T210.setTop (mkF m 219 #[.val (.int vi0), .val (.int vi1), .val (.int vi2), .val (.int vi3), .val (.int vi4), .val (.int ln), .val (.int la), .val (.int lb), .val (.int lc), .val (.int ((vi4 &&& (255 : Int32)).toUInt32.toUInt16.toUInt32.toInt32)), .val (.ref b1), .val (.ref b5), .val (.ref b9), .val (.ref b10), .val (.int ln)] [(.int (-1 : Int32)), (.int (-1 : Int32))])) _
    refine XS.icmpNo X210.here hx rfl (hb hby at_219) rfl (teq (rfl : (-1 : Int32) = (-1 : Int32))).2 ?_
    refine XS.iconst X210.here hx rfl (hb hby at_222) ?_
    refine XS.goto X210.here hx rfl (pc0 := 223) (pc' := 227) rfl (hb hby at_223) (by decide) (by decide) ?_
    show Steps p.tables e below (T210.setTop (mkF m 227 #[.val (.int vi0), .val (.int vi1), .val (.int vi2), .val (.int vi3), .val (.int vi4), .val (.int ln), .val (.int la), .val (.int lb), .val (.int lc), .val (.int ((vi4 &&& (255 : Int32)).toUInt32.toUInt16.toUInt32.toInt32)), .val (.ref b1), .val (.ref b5), .val (.ref b9), .val (.ref b10), .val (.int ln)] [(.int (1 : Int32))])) _
    exact retN X210 hx (t := .boolean) Bd.returns (by simp) (hb hby at_227) hr
  · show Q0_n2k Z vi0 vi1 vi2 vi3 vi4 w_COMPACT_STRINGS h0 n0 _ T210.heap _
    rw [e210]
    exact ⟨rfl, N210⟩
theorem own_ar29 (a : Int32) (b : Int32) (c : Int32) (ha : 0 ≤ a.toInt ∧ a.toInt ≤ 2047) (hb : 0 ≤ b.toInt ∧ b.toInt ≤ 2047) (hc : 0 ≤ c.toInt ∧ c.toInt ≤ 2047) (hh : (4096 : Int32) < ((a + b) + c)) : (4096 : Int32) < ((((0 : Int32) + (a - (0 : Int32))) + ((a + b) - a)) + (((a + b) + c) - (a + b))) := by
  have l0 : (0 : Int32).toInt = 0 := by decide
  have l4096 : (4096 : Int32).toInt = 4096 := by decide
  have f0 := c_iadd a b
  have r0 := rng32 (a + b)
  have f1 := c_iadd (a + b) c
  have r1 := rng32 ((a + b) + c)
  have f2 := c_isub a (0 : Int32)
  have r2 := rng32 (a - (0 : Int32))
  have f3 := c_iadd (0 : Int32) (a - (0 : Int32))
  have r3 := rng32 ((0 : Int32) + (a - (0 : Int32)))
  have f4 := c_isub (a + b) a
  have r4 := rng32 ((a + b) - a)
  have f5 := c_iadd ((0 : Int32) + (a - (0 : Int32))) ((a + b) - a)
  have r5 := rng32 (((0 : Int32) + (a - (0 : Int32))) + ((a + b) - a))
  have f6 := c_isub ((a + b) + c) (a + b)
  have r6 := rng32 (((a + b) + c) - (a + b))
  have f7 := c_iadd (((0 : Int32) + (a - (0 : Int32))) + ((a + b) - a)) (((a + b) + c) - (a + b))
  have r7 := rng32 ((((0 : Int32) + (a - (0 : Int32))) + ((a + b) - a)) + (((a + b) + c) - (a + b)))
  have r_a := rng32 a
  have r_b := rng32 b
  have r_c := rng32 c
  simp only [Int32.lt_iff_toInt_lt, Int32.toNatClampNeg, ← Int32.toInt_inj, l0, l4096] at *
  omega
theorem ef_0_n2v (m : MethodId) (x0 : Int32) (x1 : Int32) (x2 : Int32) (x3 : Int32) (x4 : Int32) : entryFrame m #[(.int x0), (.int x1), (.int x2), (.int x3), (.int x4)] maxLocals = mkF m 0 #[.val (.int x0), .val (.int x1), .val (.int x2), .val (.int x3), .val (.int x4), .unset, .unset, .unset, .unset, .unset, .unset, .unset, .unset, .unset, .unset] [] := by first | (simp [entryFrame, mkF, argsToLocals, Value.category, maxLocals]; done) | rfl
def Q0_n2v (Z : State) (vi0 : Int32) (vi1 : Int32) (vi2 : Int32) (vi3 : Int32) (vi4 : Int32) (w_COMPACT_STRINGS : Int32) (h0 : Heap) (n0 : Nat) (v : Option Value) (h : Heap) (L : List Loc) : Prop := v = some (.int (1 : Int32)) ∧ Fr n0 L
set_option maxRecDepth 65536 in
set_option maxHeartbeats 40000000 in
theorem rm0_n2v (l : Launch) (Z : State) (a0 : Array Value) (hw : ∀ d ∈ tables_1, d.before a0 Z = true) (ws : List Jvm.Cond) (vi0 : Int32) (vi1 : Int32) (vi2 : Int32) (vi3 : Int32) (vi4 : Int32) (w_COMPACT_STRINGS : Int32) (h0 : Heap) (n0 : Nat) (Z0 : n0 ≤ h0.size) (k188 : (4096 : Int32) < (((vi1 &&& (2047 : Int32)) + (vi2 &&& (2047 : Int32))) + (vi3 &&& (2047 : Int32)))) (k107 : ¬ (((vi0 &&& (2147483647 : Int32)) % (3 : Int32)) < (1 : Int32))) (k132 : ¬ (((vi0 &&& (2147483647 : Int32)) % (3 : Int32)) < (2 : Int32))) (S_COMPACT_STRINGS : Sta Z Z.heap "java/lang/String" "COMPACT_STRINGS" "Z" (.int w_COMPACT_STRINGS)) (hG : ¬ (w_COMPACT_STRINGS = (0 : Int32))) (O0 : Old Z n0 h0) :
    MetFree l x (head1 (Jvm.Cond.code x code maxLocals ret :: ws) room_1) (fun a U => a = #[(.int vi0), (.int vi1), (.int vi2), (.int vi3), (.int vi4)] ∧ Z.Warmed39 U.vm ∧ U.heap = h0) (fun _ _ _ _ _ => True) (fun _ U o U' => ∃ v L, o = .returned v ∧ Q0_n2v Z vi0 vi1 vi2 vi3 vi4 w_COMPACT_STRINGS h0 n0 v U'.heap L ∧ FrameEnd U o U' L room_1.cells room_1.slots) := by
  refine MetFree.of_bodySF (plainFor_of_name pn_com_example_careful_ledger_carefulledger_json_PlainLineShapeValuesPinLaw) hisR ?_
  intro p e s m args below meth c s₁ Bd hml0 hP hK
  obtain ⟨rfl, hZ, hh⟩ := hP
  have hx := Bd.exec
  have hby := Bd.bytes
  have hml : c.maxLocals = 15 := hml0
  have hown : s.vm.findClass "com/example/careful_ledger/carefulledger/json/PlainLineShapeValuesPinLaw" = some m.cls := findClass_of_methodNamed Bd.named
  have hnm := (name_of_methodNamed Bd.named Bd.method).1
  have X0 : Stand p l e room_1 s m #[(.int vi0), (.int vi1), (.int vi2), (.int vi3), (.int vi4)] below meth c s₁ [] 0 0 := Stand.of_body Bd
  have e0 : s₁.heap = h0 := by rw [← hh, Bd.state]; rfl
  have N0 := Fr.nil n0
  have pre0 : ∀ t, Steps p.tables e below (s₁.setTop (mkF m 0 #[.val (.int vi0), .val (.int vi1), .val (.int vi2), .val (.int vi3), .val (.int vi4), .unset, .unset, .unset, .unset, .unset, .unset, .unset, .unset, .unset, .unset] [])) t → Steps p.tables e below (s₁.setTop (entryFrame m #[(.int vi0), (.int vi1), (.int vi2), (.int vi3), (.int vi4)] maxLocals)) t := fun t k => castTop (ef_0_n2v m vi0 vi1 vi2 vi3 vi4) k
  obtain ⟨Tc, Lc, b1, b5, b9, b10, p11, en11, tg11, ln, la, lb, lc, k9, kp11, ke11, kt11, t4, t8, Xc, Nc, Zc, Kc, Oc, cf0, cf1, cf2, cf3, cf4, cf5, cf6, cf7, cf8, cf9, cf10, cf11, cf12, cf13, cf14, cf15, cf16, cf17, cf18, cf19, cf20, cf21, cf22, cf23, cf24, cf25, cf26, cf27, cf28, cf29, cf30, cf31, cf32, cf33, cf34, cf35, cf36, cf37, cf38, cf39, cf40, cf41, cf42, cf43, cf44, cf45, cf46, cf47, cf48, cf49, cf50, cf51, cf52, cf53, cf54, cf55, cf56, e_ln, e_la, e_lb, e_lc, hln, hla, hlb, hlc, stc⟩ := cut0 l Z a0 hw vi0 vi1 vi2 vi3 vi4 w_COMPACT_STRINGS h0 n0 Z0 S_COMPACT_STRINGS hG O0 X0 hx hby hml hown hnm hZ e0
  have hc107 := k107
  have hc132 := k132
  have hc188 := k188
  rw [← e_ln] at hc107 hc132
  rw [← e_la, ← e_lb, ← e_lc] at hc188
  obtain ⟨cq201, kq201, q201a, q201b, q201c⟩ := isOf hZ rfl cf7
  obtain ⟨_, _, ⟨T201, L201, k201, n201⟩, -, X201, ⟨Lc201, hQ201, l201, y201, z201⟩, st201⟩ := Xc.virtualBack hx (y := (⟨"com/example/careful_ledger/carefulledger/json/PlainLine", "moveTo", "(I)V"⟩ : MethodName)) (z := (⟨"com/example/careful_ledger/carefulledger/json/PlainLine", "moveTo", "(I)V"⟩ : MethodName)) hown (mvT hZ (wd_84 hw)) (mvT hZ (wd_85 hw)) (notFace_of_selects (args := #[]) (mvT hZ (wd_87 hw))) (mvT hZ (wd_87 hw)) (mvT hZ (wd_86 hw)) (by decide) (backOf (W := 0) (rm11 l Z a0 hw [] b10 la (.ref b9) (.int (0 : Int32)) (.int (6144 : Int32)) (.ref p11) (.ref en11) (.ref tg11) .null (.int (0 : Int32)) (.int (1 : Int32)) (.int (0 : Int32)) Tc.heap n0 Zc cf7 cf12 cf13 cf14 cf15 cf16 cf17 cf18 cf19 cf20 cf21 cf28) hZ (wd_88 hw) (wd_33 hw) (by decide) (by decide)) q201a q201c (g := (mkF m 114 #[.val (.int vi0), .val (.int vi1), .val (.int vi2), .val (.int vi3), .val (.int vi4), .val (.int ln), .val (.int la), .val (.int lb), .val (.int lc), .val (.int ((vi4 &&& (255 : Int32)).toUInt32.toUInt16.toUInt32.toInt32)), .val (.ref b1), .val (.ref b5), .val (.ref b9), .val (.ref b10), .unset] [(.int la), (.ref b10)])) rfl (by rw [hml]; rfl) (Steps.refl _) (argsL := [(.int la)]) (rest := []) (lenOf pd_6 rfl) rfl (by show 2 * 0 + _ ≤ _; exact Nat.le_of_eq rfl) (hb hby at_114) (fun _ _ => ⟨rfl, rfl, (by decide : 13 + 0 ≤ _), (by decide : 6265 + 0 ≤ _)⟩)
  dsimp only [Pt.U, Pt.locs, Pt.cells, Pt.slots] at X201 l201 y201 z201 st201 hQ201
  subst l201 y201 z201
  obtain ⟨rfl, N201q, p201_0, p201_1, p201_2, p201_3, p201_4, p201_5, p201_6, p201_7, p201_8, p201_9, p201_10⟩ := hQ201
  have N201 := Fr.app Nc N201q
  have K201 : Keep h0 T201.heap [] := Kc.trans p201_0 (allS (Or.inr cf29) all0)
  obtain ⟨cq202, kq202, q202a, q202b, q202c⟩ := isOf hZ rfl (cf7.keep p201_0)
  obtain ⟨_, _, ⟨T202, L202, k202, n202⟩, -, X202, ⟨Lc202, hQ202, l202, y202, z202⟩, st202⟩ := X201.virtualBack hx (y := (⟨"com/example/careful_ledger/carefulledger/json/PlainLine", "valueComes", "(Ljava/lang/Object;)V"⟩ : MethodName)) (z := (⟨"com/example/careful_ledger/carefulledger/json/PlainLine", "valueComes", "(Ljava/lang/Object;)V"⟩ : MethodName)) hown (mvT hZ (wd_107 hw)) (mvT hZ (wd_108 hw)) (notFace_of_selects (args := #[]) (mvT hZ (wd_110 hw))) (mvT hZ (wd_110 hw)) (mvT hZ (wd_109 hw)) (by decide) (backOf (W := 0) (rm15_v0 l Z a0 hw [] b10 b1 b9 la (.int (6144 : Int32)) p11 en11 tg11 .null (0 : Int32) ke11 (64 : Int32) kp11 (List.replicate 64 (.int (0 : Int32))) k9 (List.replicate 6144 (.int (0 : Int32))) kt11 (0 : Int32) (0 : Int32) (0 : Int32) .null .null T201.heap n0 (Nat.le_trans Zc p201_0.1) (cf7.keep p201_0) p201_1 p201_2 p201_3 p201_4 p201_5 p201_6 p201_7 p201_8 p201_9 p201_10 (cf9.keep p201_0 (ninS (Ne.symm cf52) nin0)) (cf8.keep p201_0 (ninS (Ne.symm cf51) nin0)) (cf6.keep p201_0 (ninS cf47 nin0)) (cf10.keep p201_0 (ninS (Ne.symm cf53) nin0)) (List.length_replicate) (by decide) (by decide) cf28 cf30 cf32 cf34 (Ne.symm cf51) (Ne.symm cf52) (Ne.symm cf53) cf47 cf54 cf55 (Ne.symm cf48) cf56 (Ne.symm cf49) (Ne.symm cf50) cf11 (by decide) (by decide) (own_ar6 la lb lc hla hlb hlc) (own_ar7 la lb lc hla hlb hlc) (own_ar8 la lb lc hla hlb hlc) (own_ar9 la lb lc hla hlb hlc) (own_ar10 la lb lc hla hlb hlc) (cf0.keep p201_0)) hZ (wd_111 hw) (wd_33 hw) (by decide) (by decide)) q202a q202c (g := (mkF m 121 #[.val (.int vi0), .val (.int vi1), .val (.int vi2), .val (.int vi3), .val (.int vi4), .val (.int ln), .val (.int la), .val (.int lb), .val (.int lc), .val (.int ((vi4 &&& (255 : Int32)).toUInt32.toUInt16.toUInt32.toInt32)), .val (.ref b1), .val (.ref b5), .val (.ref b9), .val (.ref b10), .unset] [(.ref b1), (.ref b10)])) rfl (by rw [hml]; rfl) (Steps.refl _) (argsL := [(.ref b1)]) (rest := []) (lenOf pd_8 rfl) rfl (by show 2 * 0 + _ ≤ _; exact Nat.le_of_eq rfl) (hb hby at_121) (fun _ _ => ⟨rfl, rfl, (by decide : 13 + 1 ≤ _), (by decide : 6265 + 4096 ≤ _)⟩)
  dsimp only [Pt.U, Pt.locs, Pt.cells, Pt.slots] at X202 l202 y202 z202 st202 hQ202
  subst l202 y202 z202
  obtain ⟨p2202, k2202, n2202, v2202, rfl, N202q, p202_0, p202_1, p202_2, p202_3, p202_4, p202_5, p202_6, p202_7, p202_8, p202_9, p202_10, p202_11, p202_12, p202_13, p202_14, p202_15, p202_16, p202_17, p202_18, p202_19, p202_20, p202_21, p202_22⟩ := hQ202
  have N202 := Fr.app N201 N202q
  have K202 : Keep h0 T202.heap [] := K201.trans p202_0 (allS (Or.inr cf29) (allS (Or.inr cf31) (allS (Or.inr cf33) (allS (Or.inr cf35) all0))))
  have sz_p2202 : h0.size ≤ p2202 := p202_18.elim (fun q => q ▸ cf31) (fun q => Nat.le_trans K201.1 q)
  obtain ⟨cq203, kq203, q203a, q203b, q203c⟩ := isOf hZ rfl ((cf7.keep p201_0).keep p202_0)
  obtain ⟨_, _, ⟨T203, L203, k203, n203⟩, -, X203, ⟨Lc203, hQ203, l203, y203, z203⟩, st203⟩ := X202.virtualBack hx (y := (⟨"com/example/careful_ledger/carefulledger/json/PlainLine", "valueRead", "()V"⟩ : MethodName)) (z := (⟨"com/example/careful_ledger/carefulledger/json/PlainLine", "valueRead", "()V"⟩ : MethodName)) hown (mvT hZ (wd_126 hw)) (mvT hZ (wd_127 hw)) (notFace_of_selects (args := #[]) (mvT hZ (wd_129 hw))) (mvT hZ (wd_129 hw)) (mvT hZ (wd_128 hw)) (by decide) (backOf (W := 0) (rm19 l Z a0 hw [] b10 (.ref b9) la (.int (6144 : Int32)) (.ref p2202) (.ref en11) (.ref tg11) .null (.int (1 : Int32)) (.int (1 : Int32)) (.int (0 : Int32)) T202.heap n0 (Nat.le_trans (Nat.le_trans Zc p201_0.1) p202_0.1) ((cf7.keep p201_0).keep p202_0) p202_1 p202_2 p202_3 p202_4 p202_5 p202_6 p202_7 p202_8 p202_9 p202_10 cf28) hZ (wd_130 hw) (wd_33 hw) (by decide) (by decide)) q203a q203c (g := (mkF m 126 #[.val (.int vi0), .val (.int vi1), .val (.int vi2), .val (.int vi3), .val (.int vi4), .val (.int ln), .val (.int la), .val (.int lb), .val (.int lc), .val (.int ((vi4 &&& (255 : Int32)).toUInt32.toUInt16.toUInt32.toInt32)), .val (.ref b1), .val (.ref b5), .val (.ref b9), .val (.ref b10), .unset] [(.ref b10)])) rfl (by rw [hml]; rfl) (Steps.refl _) (argsL := []) (rest := []) (lenOf pd_2 rfl) rfl (by show 2 * 0 + _ ≤ _; exact Nat.le_of_eq rfl) (hb hby at_126) (fun _ _ => ⟨rfl, rfl, (by decide : 14 + 0 ≤ _), (by decide : 10361 + 0 ≤ _)⟩)
  dsimp only [Pt.U, Pt.locs, Pt.cells, Pt.slots] at X203 l203 y203 z203 st203 hQ203
  subst l203 y203 z203
  obtain ⟨rfl, N203q, p203_0, p203_1, p203_2, p203_3, p203_4, p203_5, p203_6, p203_7, p203_8, p203_9, p203_10⟩ := hQ203
  have N203 := Fr.app N202 N203q
  have K203 : Keep h0 T203.heap [] := K202.trans p203_0 (allS (Or.inr cf29) all0)
  obtain ⟨cq204, kq204, q204a, q204b, q204c⟩ := isOf hZ rfl (((cf7.keep p201_0).keep p202_0).keep p203_0)
  obtain ⟨_, _, ⟨T204, L204, k204, n204⟩, -, X204, ⟨Lc204, hQ204, l204, y204, z204⟩, st204⟩ := X203.virtualBack hx (y := (⟨"com/example/careful_ledger/carefulledger/json/PlainLine", "moveTo", "(I)V"⟩ : MethodName)) (z := (⟨"com/example/careful_ledger/carefulledger/json/PlainLine", "moveTo", "(I)V"⟩ : MethodName)) hown (mvT hZ (wd_84 hw)) (mvT hZ (wd_85 hw)) (notFace_of_selects (args := #[]) (mvT hZ (wd_87 hw))) (mvT hZ (wd_87 hw)) (mvT hZ (wd_86 hw)) (by decide) (backOf (W := 0) (rm11 l Z a0 hw [] b10 (la + lb) (.ref b9) (.int la) (.int (6144 : Int32)) (.ref p2202) (.ref en11) (.ref tg11) .null (.int (1 : Int32)) (.int (1 : Int32)) (.int la) T203.heap n0 (Nat.le_trans (Nat.le_trans (Nat.le_trans Zc p201_0.1) p202_0.1) p203_0.1) (((cf7.keep p201_0).keep p202_0).keep p203_0) p203_1 p203_2 p203_3 p203_4 p203_5 p203_6 p203_7 p203_8 p203_9 p203_10 cf28) hZ (wd_88 hw) (wd_33 hw) (by decide) (by decide)) q204a q204c (g := (mkF m 142 #[.val (.int vi0), .val (.int vi1), .val (.int vi2), .val (.int vi3), .val (.int vi4), .val (.int ln), .val (.int la), .val (.int lb), .val (.int lc), .val (.int ((vi4 &&& (255 : Int32)).toUInt32.toUInt16.toUInt32.toInt32)), .val (.ref b1), .val (.ref b5), .val (.ref b9), .val (.ref b10), .unset] [(.int (la + lb)), (.ref b10)])) rfl (by rw [hml]; rfl) (Steps.refl _) (argsL := [(.int (la + lb))]) (rest := []) (lenOf pd_6 rfl) rfl (by show 2 * 0 + _ ≤ _; exact Nat.le_of_eq rfl) (hb hby at_142) (fun _ _ => ⟨rfl, rfl, (by decide : 14 + 0 ≤ _), (by decide : 10361 + 0 ≤ _)⟩)
  dsimp only [Pt.U, Pt.locs, Pt.cells, Pt.slots] at X204 l204 y204 z204 st204 hQ204
  subst l204 y204 z204
  obtain ⟨rfl, N204q, p204_0, p204_1, p204_2, p204_3, p204_4, p204_5, p204_6, p204_7, p204_8, p204_9, p204_10⟩ := hQ204
  have N204 := Fr.app N203 N204q
  have K204 : Keep h0 T204.heap [] := K203.trans p204_0 (allS (Or.inr cf29) all0)
  obtain ⟨cq205, kq205, q205a, q205b, q205c⟩ := isOf hZ rfl ((((cf7.keep p201_0).keep p202_0).keep p203_0).keep p204_0)
  obtain ⟨_, _, ⟨T205, L205, k205, n205⟩, -, X205, ⟨Lc205, hQ205, l205, y205, z205⟩, st205⟩ := X204.virtualBack hx (y := (⟨"com/example/careful_ledger/carefulledger/json/PlainLine", "valueComes", "(Ljava/lang/Object;)V"⟩ : MethodName)) (z := (⟨"com/example/careful_ledger/carefulledger/json/PlainLine", "valueComes", "(Ljava/lang/Object;)V"⟩ : MethodName)) hown (mvT hZ (wd_107 hw)) (mvT hZ (wd_108 hw)) (notFace_of_selects (args := #[]) (mvT hZ (wd_110 hw))) (mvT hZ (wd_110 hw)) (mvT hZ (wd_109 hw)) (by decide) (backOf (W := 0) (rm15_v1 l Z a0 hw [] b10 b1 b9 (la + lb) (.int (6144 : Int32)) p2202 en11 tg11 .null la ke11 n2202 k2202 v2202 k9 (List.replicate 6144 (.int (0 : Int32))) kt11 ((0 : Int32) + (la - (0 : Int32))) (0 : Int32) (0 : Int32) (.ref b1) .null T204.heap n0 (Nat.le_trans (Nat.le_trans (Nat.le_trans (Nat.le_trans Zc p201_0.1) p202_0.1) p203_0.1) p204_0.1) ((((cf7.keep p201_0).keep p202_0).keep p203_0).keep p204_0) p204_1 p204_2 p204_3 p204_4 p204_5 p204_6 p204_7 p204_8 p204_9 p204_10 ((p202_11.keep p203_0 (ninS (Ne.symm cf52) nin0)).keep p204_0 (ninS (Ne.symm cf52) nin0)) ((p202_13.keep p203_0 (ninS p202_19 nin0)).keep p204_0 (ninS p202_19 nin0)) ((((cf6.keep p201_0 (ninS cf47 nin0)).keep p202_0 (ninS cf47 (ninS cf48 (ninS cf49 (ninS cf50 nin0))))).keep p203_0 (ninS cf47 nin0)).keep p204_0 (ninS cf47 nin0)) ((p202_12.keep p203_0 (ninS (Ne.symm cf53) nin0)).keep p204_0 (ninS (Ne.symm cf53) nin0)) p202_14 p202_15 p202_16 cf28 p202_17 cf32 cf34 p202_19 (Ne.symm cf52) (Ne.symm cf53) cf47 p202_20 p202_22 p202_21 cf56 (Ne.symm cf49) (Ne.symm cf50) cf11 (own_ar11 la lb lc hla hlb hlc) (own_ar9 la lb lc hla hlb hlc) (own_ar18 la lb lc hla hlb hlc) (own_ar19 la lb lc hla hlb hlc) (own_ar20 la lb lc hla hlb hlc) (own_ar21 la lb lc hla hlb hlc) (own_ar22 la lb lc hla hlb hlc) ((((cf0.keep p201_0).keep p202_0).keep p203_0).keep p204_0)) hZ (wd_111 hw) (wd_33 hw) (by decide) (by decide)) q205a q205c (g := (mkF m 149 #[.val (.int vi0), .val (.int vi1), .val (.int vi2), .val (.int vi3), .val (.int vi4), .val (.int ln), .val (.int la), .val (.int lb), .val (.int lc), .val (.int ((vi4 &&& (255 : Int32)).toUInt32.toUInt16.toUInt32.toInt32)), .val (.ref b1), .val (.ref b5), .val (.ref b9), .val (.ref b10), .unset] [(.ref b1), (.ref b10)])) rfl (by rw [hml]; rfl) (Steps.refl _) (argsL := [(.ref b1)]) (rest := []) (lenOf pd_8 rfl) rfl (by show 2 * 0 + _ ≤ _; exact Nat.le_of_eq rfl) (hb hby at_149) (fun _ _ => ⟨rfl, rfl, (by decide : 14 + 1 ≤ _), (by decide : 10361 + 4096 ≤ _)⟩)
  dsimp only [Pt.U, Pt.locs, Pt.cells, Pt.slots] at X205 l205 y205 z205 st205 hQ205
  subst l205 y205 z205
  obtain ⟨p2205, k2205, n2205, v2205, rfl, N205q, p205_0, p205_1, p205_2, p205_3, p205_4, p205_5, p205_6, p205_7, p205_8, p205_9, p205_10, p205_11, p205_12, p205_13, p205_14, p205_15, p205_16, p205_17, p205_18, p205_19, p205_20, p205_21, p205_22⟩ := hQ205
  have N205 := Fr.app N204 N205q
  have K205 : Keep h0 T205.heap [] := K204.trans p205_0 (allS (Or.inr cf29) (allS (Or.inr sz_p2202) (allS (Or.inr cf33) (allS (Or.inr cf35) all0))))
  have sz_p2205 : h0.size ≤ p2205 := p205_18.elim (fun q => q ▸ sz_p2202) (fun q => Nat.le_trans K204.1 q)
  obtain ⟨cq206, kq206, q206a, q206b, q206c⟩ := isOf hZ rfl (((((cf7.keep p201_0).keep p202_0).keep p203_0).keep p204_0).keep p205_0)
  obtain ⟨_, _, ⟨T206, L206, k206, n206⟩, -, X206, ⟨Lc206, hQ206, l206, y206, z206⟩, st206⟩ := X205.virtualBack hx (y := (⟨"com/example/careful_ledger/carefulledger/json/PlainLine", "valueRead", "()V"⟩ : MethodName)) (z := (⟨"com/example/careful_ledger/carefulledger/json/PlainLine", "valueRead", "()V"⟩ : MethodName)) hown (mvT hZ (wd_126 hw)) (mvT hZ (wd_127 hw)) (notFace_of_selects (args := #[]) (mvT hZ (wd_129 hw))) (mvT hZ (wd_129 hw)) (mvT hZ (wd_128 hw)) (by decide) (backOf (W := 0) (rm19 l Z a0 hw [] b10 (.ref b9) (la + lb) (.int (6144 : Int32)) (.ref p2205) (.ref en11) (.ref tg11) .null (.int (2 : Int32)) (.int (1 : Int32)) (.int la) T205.heap n0 (Nat.le_trans (Nat.le_trans (Nat.le_trans (Nat.le_trans (Nat.le_trans Zc p201_0.1) p202_0.1) p203_0.1) p204_0.1) p205_0.1) (((((cf7.keep p201_0).keep p202_0).keep p203_0).keep p204_0).keep p205_0) p205_1 p205_2 p205_3 p205_4 p205_5 p205_6 p205_7 p205_8 p205_9 p205_10 cf28) hZ (wd_130 hw) (wd_33 hw) (by decide) (by decide)) q206a q206c (g := (mkF m 154 #[.val (.int vi0), .val (.int vi1), .val (.int vi2), .val (.int vi3), .val (.int vi4), .val (.int ln), .val (.int la), .val (.int lb), .val (.int lc), .val (.int ((vi4 &&& (255 : Int32)).toUInt32.toUInt16.toUInt32.toInt32)), .val (.ref b1), .val (.ref b5), .val (.ref b9), .val (.ref b10), .unset] [(.ref b10)])) rfl (by rw [hml]; rfl) (Steps.refl _) (argsL := []) (rest := []) (lenOf pd_2 rfl) rfl (by show 2 * 0 + _ ≤ _; exact Nat.le_of_eq rfl) (hb hby at_154) (fun _ _ => ⟨rfl, rfl, (by decide : 15 + 0 ≤ _), (by decide : 14457 + 0 ≤ _)⟩)
  dsimp only [Pt.U, Pt.locs, Pt.cells, Pt.slots] at X206 l206 y206 z206 st206 hQ206
  subst l206 y206 z206
  obtain ⟨rfl, N206q, p206_0, p206_1, p206_2, p206_3, p206_4, p206_5, p206_6, p206_7, p206_8, p206_9, p206_10⟩ := hQ206
  have N206 := Fr.app N205 N206q
  have K206 : Keep h0 T206.heap [] := K205.trans p206_0 (allS (Or.inr cf29) all0)
  obtain ⟨cq207, kq207, q207a, q207b, q207c⟩ := isOf hZ rfl ((((((cf7.keep p201_0).keep p202_0).keep p203_0).keep p204_0).keep p205_0).keep p206_0)
  obtain ⟨_, _, ⟨T207, L207, k207, n207⟩, -, X207, ⟨Lc207, hQ207, l207, y207, z207⟩, st207⟩ := X206.virtualBack hx (y := (⟨"com/example/careful_ledger/carefulledger/json/PlainLine", "moveTo", "(I)V"⟩ : MethodName)) (z := (⟨"com/example/careful_ledger/carefulledger/json/PlainLine", "moveTo", "(I)V"⟩ : MethodName)) hown (mvT hZ (wd_84 hw)) (mvT hZ (wd_85 hw)) (notFace_of_selects (args := #[]) (mvT hZ (wd_87 hw))) (mvT hZ (wd_87 hw)) (mvT hZ (wd_86 hw)) (by decide) (backOf (W := 0) (rm11 l Z a0 hw [] b10 ((la + lb) + lc) (.ref b9) (.int (la + lb)) (.int (6144 : Int32)) (.ref p2205) (.ref en11) (.ref tg11) .null (.int (2 : Int32)) (.int (1 : Int32)) (.int (la + lb)) T206.heap n0 (Nat.le_trans (Nat.le_trans (Nat.le_trans (Nat.le_trans (Nat.le_trans (Nat.le_trans Zc p201_0.1) p202_0.1) p203_0.1) p204_0.1) p205_0.1) p206_0.1) ((((((cf7.keep p201_0).keep p202_0).keep p203_0).keep p204_0).keep p205_0).keep p206_0) p206_1 p206_2 p206_3 p206_4 p206_5 p206_6 p206_7 p206_8 p206_9 p206_10 cf28) hZ (wd_88 hw) (wd_33 hw) (by decide) (by decide)) q207a q207c (g := (mkF m 167 #[.val (.int vi0), .val (.int vi1), .val (.int vi2), .val (.int vi3), .val (.int vi4), .val (.int ln), .val (.int la), .val (.int lb), .val (.int lc), .val (.int ((vi4 &&& (255 : Int32)).toUInt32.toUInt16.toUInt32.toInt32)), .val (.ref b1), .val (.ref b5), .val (.ref b9), .val (.ref b10), .unset] [(.int ((la + lb) + lc)), (.ref b10)])) rfl (by rw [hml]; rfl) (Steps.refl _) (argsL := [(.int ((la + lb) + lc))]) (rest := []) (lenOf pd_6 rfl) rfl (by show 2 * 0 + _ ≤ _; exact Nat.le_of_eq rfl) (hb hby at_167) (fun _ _ => ⟨rfl, rfl, (by decide : 15 + 0 ≤ _), (by decide : 14457 + 0 ≤ _)⟩)
  dsimp only [Pt.U, Pt.locs, Pt.cells, Pt.slots] at X207 l207 y207 z207 st207 hQ207
  subst l207 y207 z207
  obtain ⟨rfl, N207q, p207_0, p207_1, p207_2, p207_3, p207_4, p207_5, p207_6, p207_7, p207_8, p207_9, p207_10⟩ := hQ207
  have N207 := Fr.app N206 N207q
  have K207 : Keep h0 T207.heap [] := K206.trans p207_0 (allS (Or.inr cf29) all0)
  obtain ⟨cq208, kq208, q208a, q208b, q208c⟩ := isOf hZ rfl (((((((cf7.keep p201_0).keep p202_0).keep p203_0).keep p204_0).keep p205_0).keep p206_0).keep p207_0)
  obtain ⟨_, _, ⟨T208, L208, k208, n208⟩, -, X208, ⟨Lc208, hQ208, l208, y208, z208⟩, st208⟩ := X207.virtualBack hx (y := (⟨"com/example/careful_ledger/carefulledger/json/PlainLine", "endShape", "(Ljava/lang/Object;)V"⟩ : MethodName)) (z := (⟨"com/example/careful_ledger/carefulledger/json/PlainLine", "endShape", "(Ljava/lang/Object;)V"⟩ : MethodName)) hown (mvT hZ (wd_89 hw)) (mvT hZ (wd_90 hw)) (notFace_of_selects (args := #[]) (mvT hZ (wd_92 hw))) (mvT hZ (wd_92 hw)) (mvT hZ (wd_91 hw)) (by decide) (backOf (W := 0) (rm12_ov2 l Z a0 hw [] b10 b1 b9 ((la + lb) + lc) (.int (6144 : Int32)) p2205 en11 tg11 .null (la + lb) ke11 n2205 k2205 v2205 k9 (List.replicate 6144 (.int (0 : Int32))) kt11 ((0 : Int32) + (la - (0 : Int32))) (((0 : Int32) + (la - (0 : Int32))) + ((la + lb) - la)) (0 : Int32) (.ref b1) (.ref b1) T207.heap n0 (Nat.le_trans (Nat.le_trans (Nat.le_trans (Nat.le_trans (Nat.le_trans (Nat.le_trans (Nat.le_trans Zc p201_0.1) p202_0.1) p203_0.1) p204_0.1) p205_0.1) p206_0.1) p207_0.1) (((((((cf7.keep p201_0).keep p202_0).keep p203_0).keep p204_0).keep p205_0).keep p206_0).keep p207_0) p207_1 p207_2 p207_3 p207_4 p207_5 p207_6 p207_7 p207_8 p207_9 p207_10 ((p205_11.keep p206_0 (ninS (Ne.symm cf52) nin0)).keep p207_0 (ninS (Ne.symm cf52) nin0)) ((p205_13.keep p206_0 (ninS p205_19 nin0)).keep p207_0 (ninS p205_19 nin0)) (((((((cf6.keep p201_0 (ninS cf47 nin0)).keep p202_0 (ninS cf47 (ninS cf48 (ninS cf49 (ninS cf50 nin0))))).keep p203_0 (ninS cf47 nin0)).keep p204_0 (ninS cf47 nin0)).keep p205_0 (ninS cf47 (ninS (Ne.symm p202_21) (ninS cf49 (ninS cf50 nin0))))).keep p206_0 (ninS cf47 nin0)).keep p207_0 (ninS cf47 nin0)) ((p205_12.keep p206_0 (ninS (Ne.symm cf53) nin0)).keep p207_0 (ninS (Ne.symm cf53) nin0)) p205_14 p205_15 p205_16 cf28 p205_17 cf32 cf34 p205_19 (Ne.symm cf52) (Ne.symm cf53) cf47 p205_20 p205_22 p205_21 cf56 (Ne.symm cf49) (Ne.symm cf50) cf11 (own_ar29 la lb lc hla hlb hlc hc188)) hZ (wd_93 hw) (wd_33 hw) (by decide) (by decide)) q208a q208c (g := (mkF m 174 #[.val (.int vi0), .val (.int vi1), .val (.int vi2), .val (.int vi3), .val (.int vi4), .val (.int ln), .val (.int la), .val (.int lb), .val (.int lc), .val (.int ((vi4 &&& (255 : Int32)).toUInt32.toUInt16.toUInt32.toInt32)), .val (.ref b1), .val (.ref b5), .val (.ref b9), .val (.ref b10), .unset] [(.ref b1), (.ref b10)])) rfl (by rw [hml]; rfl) (Steps.refl _) (argsL := [(.ref b1)]) (rest := []) (lenOf pd_8 rfl) rfl (by show 2 * 0 + _ ≤ _; exact Nat.le_of_eq rfl) (hb hby at_174) (fun _ _ => ⟨rfl, rfl, (by decide : 15 + 0 ≤ _), (by decide : 14457 + 0 ≤ _)⟩)
  dsimp only [Pt.U, Pt.locs, Pt.cells, Pt.slots] at X208 l208 y208 z208 st208 hQ208
  subst l208 y208 z208
  obtain ⟨rfl, N208q, p208_0, p208_1, p208_2, p208_3, p208_4, p208_5, p208_6, p208_7, p208_8, p208_9, p208_10⟩ := hQ208
  have N208 := Fr.app N207 N208q
  have K208 : Keep h0 T208.heap [] := K207.trans p208_0 (allS (Or.inr cf29) all0)
  obtain ⟨cq209, kq209, q209a, q209b, q209c⟩ := isOf hZ rfl ((((((((cf7.keep p201_0).keep p202_0).keep p203_0).keep p204_0).keep p205_0).keep p206_0).keep p207_0).keep p208_0)
  obtain ⟨_, _, ⟨T209, L209, k209, n209⟩, -, X209, ⟨Lc209, hQ209, l209, y209, z209⟩, st209⟩ := X208.virtualBack hx (y := (⟨"com/example/careful_ledger/carefulledger/json/PlainLine", "shapeValues", "(Ljava/lang/Object;)I"⟩ : MethodName)) (z := (⟨"com/example/careful_ledger/carefulledger/json/PlainLine", "shapeValues", "(Ljava/lang/Object;)I"⟩ : MethodName)) hown (mvT hZ (wd_102 hw)) (mvT hZ (wd_103 hw)) (notFace_of_selects (args := #[]) (mvT hZ (wd_105 hw))) (mvT hZ (wd_105 hw)) (mvT hZ (wd_104 hw)) (by decide) (backOf (W := 0) (rm14_null l Z a0 hw [] b10 b1 T208.heap n0 (Nat.le_trans (Nat.le_trans (Nat.le_trans (Nat.le_trans (Nat.le_trans (Nat.le_trans (Nat.le_trans (Nat.le_trans Zc p201_0.1) p202_0.1) p203_0.1) p204_0.1) p205_0.1) p206_0.1) p207_0.1) p208_0.1) p208_7) hZ (wd_106 hw) (wd_33 hw) (by decide) (by decide)) q209a q209c (g := (mkF m 203 #[.val (.int vi0), .val (.int vi1), .val (.int vi2), .val (.int vi3), .val (.int vi4), .val (.int ln), .val (.int la), .val (.int lb), .val (.int lc), .val (.int ((vi4 &&& (255 : Int32)).toUInt32.toUInt16.toUInt32.toInt32)), .val (.ref b1), .val (.ref b5), .val (.ref b9), .val (.ref b10), .val (.int (-1 : Int32))] [(.ref b1), (.ref b10)])) rfl (by rw [hml]; rfl) (Steps.refl _) (argsL := [(.ref b1)]) (rest := []) (lenOf pd_10 rfl) rfl (by show 2 * 0 + _ ≤ _; exact Nat.le_of_eq rfl) (hb hby at_203) (fun _ _ => ⟨rfl, rfl, (by decide : 15 + 0 ≤ _), (by decide : 14457 + 0 ≤ _)⟩)
  dsimp only [Pt.U, Pt.locs, Pt.cells, Pt.slots] at X209 l209 y209 z209 st209 hQ209
  subst l209 y209 z209
  obtain ⟨rfl, N209q, p209_0⟩ := hQ209
  have N209 := Fr.app N208 N209q
  have e209 : T209.heap = T208.heap := p209_0
  obtain ⟨cq210, kq210, q210a, q210b, q210c⟩ := isOf hZ e209 ((((((((cf7.keep p201_0).keep p202_0).keep p203_0).keep p204_0).keep p205_0).keep p206_0).keep p207_0).keep p208_0)
  obtain ⟨_, _, ⟨T210, L210, k210, n210⟩, -, X210, ⟨Lc210, hQ210, l210, y210, z210⟩, st210⟩ := X209.virtualBack hx (y := (⟨"com/example/careful_ledger/carefulledger/json/PlainLine", "shapeValues", "(Ljava/lang/Object;)I"⟩ : MethodName)) (z := (⟨"com/example/careful_ledger/carefulledger/json/PlainLine", "shapeValues", "(Ljava/lang/Object;)I"⟩ : MethodName)) hown (mvT hZ (wd_102 hw)) (mvT hZ (wd_103 hw)) (notFace_of_selects (args := #[]) (mvT hZ (wd_105 hw))) (mvT hZ (wd_105 hw)) (mvT hZ (wd_104 hw)) (by decide) (backOf (W := 0) (rm14_null l Z a0 hw [] b10 b5 T208.heap n0 (Nat.le_trans (Nat.le_trans (Nat.le_trans (Nat.le_trans (Nat.le_trans (Nat.le_trans (Nat.le_trans (Nat.le_trans Zc p201_0.1) p202_0.1) p203_0.1) p204_0.1) p205_0.1) p206_0.1) p207_0.1) p208_0.1) p208_7) hZ (wd_106 hw) (wd_33 hw) (by decide) (by decide)) q210a q210c (g := (mkF m 215 #[.val (.int vi0), .val (.int vi1), .val (.int vi2), .val (.int vi3), .val (.int vi4), .val (.int ln), .val (.int la), .val (.int lb), .val (.int lc), .val (.int ((vi4 &&& (255 : Int32)).toUInt32.toUInt16.toUInt32.toInt32)), .val (.ref b1), .val (.ref b5), .val (.ref b9), .val (.ref b10), .val (.int (-1 : Int32))] [(.ref b5), (.ref b10)])) rfl (by rw [hml]; rfl) (Steps.refl _) (argsL := [(.ref b5)]) (rest := []) (lenOf pd_10 rfl) rfl (by show 2 * 0 + _ ≤ _; exact Nat.le_of_eq rfl) (hb hby at_215) (fun _ _ => ⟨rfl, e209, (by decide : 15 + 0 ≤ _), (by decide : 14457 + 0 ≤ _)⟩)
  dsimp only [Pt.U, Pt.locs, Pt.cells, Pt.slots] at X210 l210 y210 z210 st210 hQ210
  subst l210 y210 z210
  obtain ⟨rfl, N210q, p210_0⟩ := hQ210
  have N210 := Fr.app N209 N210q
  have e210 : T210.heap = T208.heap := p210_0
  obtain ⟨fs, hr, hrun, hended, hW, hsame⟩ := X210.leave (v := some (.int (1 : Int32))) (fun h => by rw [Bd.returns] at h; cases h)
  refine ⟨_, _, pre0 _ ?_, hrun, hended, _, _, rfl, ?_, ⟨_, rfl⟩, hW, hsame.mono (by decide) (by decide)⟩
  · refine stc _ ?_
    show Steps p.tables e below (Tc.setTop (mkF m 104 #[.val (.int vi0), .val (.int vi1), .val (.int vi2), .val (.int vi3), .val (.int vi4), .val (.int ln), .val (.int la), .val (.int lb), .val (.int lc), .val (.int ((vi4 &&& (255 : Int32)).toUInt32.toUInt16.toUInt32.toInt32)), .val (.ref b1), .val (.ref b5), .val (.ref b9), .val (.ref b10), .unset] [])) _
    refine XS.iload Xc.here hx rfl (hb hby at_104) rfl ?_
    refine XS.iconst Xc.here hx rfl (hb hby at_106) ?_
    show Steps p.tables e below (Tc.setTop (mkF m 107 #[.val (.int vi0), .val (.int vi1), .val (.int vi2), .val (.int vi3), .val (.int vi4), .val (.int ln), .val (.int la), .val (.int lb), .val (.int lc), .val (.int ((vi4 &&& (255 : Int32)).toUInt32.toUInt16.toUInt32.toInt32)), .val (.ref b1), .val (.ref b5), .val (.ref b9), .val (.ref b10), .unset] [(.int (1 : Int32)), (.int ln)])) _
    refine XS.icmpNo Xc.here hx rfl (hb hby at_107) rfl (flt hc107).1 ?_
    refine XS.aload Xc.here hx rfl (hb hby at_110) rfl rfl ?_
    show Steps p.tables e below (Tc.setTop (mkF m 112 #[.val (.int vi0), .val (.int vi1), .val (.int vi2), .val (.int vi3), .val (.int vi4), .val (.int ln), .val (.int la), .val (.int lb), .val (.int lc), .val (.int ((vi4 &&& (255 : Int32)).toUInt32.toUInt16.toUInt32.toInt32)), .val (.ref b1), .val (.ref b5), .val (.ref b9), .val (.ref b10), .unset] [(.ref b10)])) _
    refine XS.iload Xc.here hx rfl (hb hby at_112) rfl ?_
    show Steps p.tables e below (Tc.setTop (mkF m 114 #[.val (.int vi0), .val (.int vi1), .val (.int vi2), .val (.int vi3), .val (.int vi4), .val (.int ln), .val (.int la), .val (.int lb), .val (.int lc), .val (.int ((vi4 &&& (255 : Int32)).toUInt32.toUInt16.toUInt32.toInt32)), .val (.ref b1), .val (.ref b5), .val (.ref b9), .val (.ref b10), .unset] [(.int la), (.ref b10)])) _
    refine st201.trans ?_
    refine XS.aload X201.here hx rfl (hb hby at_117) rfl rfl ?_
    refine XS.aload X201.here hx rfl (hb hby at_119) rfl rfl ?_
    show Steps p.tables e below (T201.setTop (mkF m 121 #[.val (.int vi0), .val (.int vi1), .val (.int vi2), .val (.int vi3), .val (.int vi4), .val (.int ln), .val (.int la), .val (.int lb), .val (.int lc), .val (.int ((vi4 &&& (255 : Int32)).toUInt32.toUInt16.toUInt32.toInt32)), .val (.ref b1), .val (.ref b5), .val (.ref b9), .val (.ref b10), .unset] [(.ref b1), (.ref b10)])) _
    refine st202.trans ?_
    refine XS.aload X202.here hx rfl (hb hby at_124) rfl rfl ?_
    show Steps p.tables e below (T202.setTop (mkF m 126 #[.val (.int vi0), .val (.int vi1), .val (.int vi2), .val (.int vi3), .val (.int vi4), .val (.int ln), .val (.int la), .val (.int lb), .val (.int lc), .val (.int ((vi4 &&& (255 : Int32)).toUInt32.toUInt16.toUInt32.toInt32)), .val (.ref b1), .val (.ref b5), .val (.ref b9), .val (.ref b10), .unset] [(.ref b10)])) _
    refine st203.trans ?_
    refine XS.iload X203.here hx rfl (hb hby at_129) rfl ?_
    show Steps p.tables e below (T203.setTop (mkF m 131 #[.val (.int vi0), .val (.int vi1), .val (.int vi2), .val (.int vi3), .val (.int vi4), .val (.int ln), .val (.int la), .val (.int lb), .val (.int lc), .val (.int ((vi4 &&& (255 : Int32)).toUInt32.toUInt16.toUInt32.toInt32)), .val (.ref b1), .val (.ref b5), .val (.ref b9), .val (.ref b10), .unset] [(.int ln)])) _
    refine XS.iconst X203.here hx rfl (hb hby at_131) ?_
    show Steps p.tables e below (T203.setTop (mkF m 132 #[.val (.int vi0), .val (.int vi1), .val (.int vi2), .val (.int vi3), .val (.int vi4), .val (.int ln), .val (.int la), .val (.int lb), .val (.int lc), .val (.int ((vi4 &&& (255 : Int32)).toUInt32.toUInt16.toUInt32.toInt32)), .val (.ref b1), .val (.ref b5), .val (.ref b9), .val (.ref b10), .unset] [(.int (2 : Int32)), (.int ln)])) _
    refine XS.icmpNo X203.here hx rfl (hb hby at_132) rfl (flt hc132).1 ?_
    refine XS.aload X203.here hx rfl (hb hby at_135) rfl rfl ?_
    refine XS.iload X203.here hx rfl (hb hby at_137) rfl ?_
    show Steps p.tables e below (T203.setTop (mkF m 139 #[.val (.int vi0), .val (.int vi1), .val (.int vi2), .val (.int vi3), .val (.int vi4), .val (.int ln), .val (.int la), .val (.int lb), .val (.int lc), .val (.int ((vi4 &&& (255 : Int32)).toUInt32.toUInt16.toUInt32.toInt32)), .val (.ref b1), .val (.ref b5), .val (.ref b9), .val (.ref b10), .unset] [(.int la), (.ref b10)])) _
    refine XS.iload X203.here hx rfl (hb hby at_139) rfl ?_
    refine XS.iadd X203.here hx rfl (hb hby at_141) rfl ?_
    show Steps p.tables e below (T203.setTop (mkF m 142 #[.val (.int vi0), .val (.int vi1), .val (.int vi2), .val (.int vi3), .val (.int vi4), .val (.int ln), .val (.int la), .val (.int lb), .val (.int lc), .val (.int ((vi4 &&& (255 : Int32)).toUInt32.toUInt16.toUInt32.toInt32)), .val (.ref b1), .val (.ref b5), .val (.ref b9), .val (.ref b10), .unset] [(.int (la + lb)), (.ref b10)])) _
    refine st204.trans ?_
    refine XS.aload X204.here hx rfl (hb hby at_145) rfl rfl ?_
    show Steps p.tables e below (T204.setTop (mkF m 147 #[.val (.int vi0), .val (.int vi1), .val (.int vi2), .val (.int vi3), .val (.int vi4), .val (.int ln), .val (.int la), .val (.int lb), .val (.int lc), .val (.int ((vi4 &&& (255 : Int32)).toUInt32.toUInt16.toUInt32.toInt32)), .val (.ref b1), .val (.ref b5), .val (.ref b9), .val (.ref b10), .unset] [(.ref b10)])) _
    refine XS.aload X204.here hx rfl (hb hby at_147) rfl rfl ?_
    show Steps p.tables e below (T204.setTop (mkF m 149 #[.val (.int vi0), .val (.int vi1), .val (.int vi2), .val (.int vi3), .val (.int vi4), .val (.int ln), .val (.int la), .val (.int lb), .val (.int lc), .val (.int ((vi4 &&& (255 : Int32)).toUInt32.toUInt16.toUInt32.toInt32)), .val (.ref b1), .val (.ref b5), .val (.ref b9), .val (.ref b10), .unset] [(.ref b1), (.ref b10)])) _
    refine st205.trans ?_
    refine XS.aload X205.here hx rfl (hb hby at_152) rfl rfl ?_
    show Steps p.tables e below (T205.setTop (mkF m 154 #[.val (.int vi0), .val (.int vi1), .val (.int vi2), .val (.int vi3), .val (.int vi4), .val (.int ln), .val (.int la), .val (.int lb), .val (.int lc), .val (.int ((vi4 &&& (255 : Int32)).toUInt32.toUInt16.toUInt32.toInt32)), .val (.ref b1), .val (.ref b5), .val (.ref b9), .val (.ref b10), .unset] [(.ref b10)])) _
    refine st206.trans ?_
    show Steps p.tables e below (T206.setTop (mkF m 157 #[.val (.int vi0), .val (.int vi1), .val (.int vi2), .val (.int vi3), .val (.int vi4), .val (.int ln), .val (.int la), .val (.int lb), .val (.int lc), .val (.int ((vi4 &&& (255 : Int32)).toUInt32.toUInt16.toUInt32.toInt32)), .val (.ref b1), .val (.ref b5), .val (.ref b9), .val (.ref b10), .unset] [])) _
    refine XS.aload X206.here hx rfl (hb hby at_157) rfl rfl ?_
    refine XS.iload X206.here hx rfl (hb hby at_159) rfl ?_
    refine XS.iload X206.here hx rfl (hb hby at_161) rfl ?_
    refine XS.iadd X206.here hx rfl (hb hby at_163) rfl ?_
    show Steps p.tables e below (T206.setTop (mkF m 164 #[.val (.int vi0), .val (.int vi1), .val (.int vi2), .val (.int vi3), .val (.int vi4), .val (.int ln), .val (.int la), .val (.int lb), .val (.int lc), .val (.int ((vi4 &&& (255 : Int32)).toUInt32.toUInt16.toUInt32.toInt32)), .val (.ref b1), .val (.ref b5), .val (.ref b9), .val (.ref b10), .unset] [(.int (la + lb)), (.ref b10)])) _
    refine XS.iload X206.here hx rfl (hb hby at_164) rfl ?_
    refine XS.iadd X206.here hx rfl (hb hby at_166) rfl ?_
    show Steps p.tables e below (T206.setTop (mkF m 167 #[.val (.int vi0), .val (.int vi1), .val (.int vi2), .val (.int vi3), .val (.int vi4), .val (.int ln), .val (.int la), .val (.int lb), .val (.int lc), .val (.int ((vi4 &&& (255 : Int32)).toUInt32.toUInt16.toUInt32.toInt32)), .val (.ref b1), .val (.ref b5), .val (.ref b9), .val (.ref b10), .unset] [(.int ((la + lb) + lc)), (.ref b10)])) _
    refine st207.trans ?_
    refine XS.aload X207.here hx rfl (hb hby at_170) rfl rfl ?_
    show Steps p.tables e below (T207.setTop (mkF m 172 #[.val (.int vi0), .val (.int vi1), .val (.int vi2), .val (.int vi3), .val (.int vi4), .val (.int ln), .val (.int la), .val (.int lb), .val (.int lc), .val (.int ((vi4 &&& (255 : Int32)).toUInt32.toUInt16.toUInt32.toInt32)), .val (.ref b1), .val (.ref b5), .val (.ref b9), .val (.ref b10), .unset] [(.ref b10)])) _
    refine XS.aload X207.here hx rfl (hb hby at_172) rfl rfl ?_
    show Steps p.tables e below (T207.setTop (mkF m 174 #[.val (.int vi0), .val (.int vi1), .val (.int vi2), .val (.int vi3), .val (.int vi4), .val (.int ln), .val (.int la), .val (.int lb), .val (.int lc), .val (.int ((vi4 &&& (255 : Int32)).toUInt32.toUInt16.toUInt32.toInt32)), .val (.ref b1), .val (.ref b5), .val (.ref b9), .val (.ref b10), .unset] [(.ref b1), (.ref b10)])) _
    refine st208.trans ?_
    refine XS.iload X208.here hx rfl (hb hby at_177) rfl ?_
    refine XS.iload X208.here hx rfl (hb hby at_179) rfl ?_
    show Steps p.tables e below (T208.setTop (mkF m 181 #[.val (.int vi0), .val (.int vi1), .val (.int vi2), .val (.int vi3), .val (.int vi4), .val (.int ln), .val (.int la), .val (.int lb), .val (.int lc), .val (.int ((vi4 &&& (255 : Int32)).toUInt32.toUInt16.toUInt32.toInt32)), .val (.ref b1), .val (.ref b5), .val (.ref b9), .val (.ref b10), .unset] [(.int lb), (.int la)])) _
    refine XS.iadd X208.here hx rfl (hb hby at_181) rfl ?_
    refine XS.iload X208.here hx rfl (hb hby at_182) rfl ?_
    refine XS.iadd X208.here hx rfl (hb hby at_184) rfl ?_
    refine XS.sipush X208.here hx rfl (hb hby at_185) ?_
    show Steps p.tables e below (T208.setTop (mkF m 188 #[.val (.int vi0), .val (.int vi1), .val (.int vi2), .val (.int vi3), .val (.int vi4), .val (.int ln), .val (.int la), .val (.int lb), .val (.int lc), .val (.int ((vi4 &&& (255 : Int32)).toUInt32.toUInt16.toUInt32.toInt32)), .val (.ref b1), .val (.ref b5), .val (.ref b9), .val (.ref b10), .unset] [(.int (4096 : Int32)), (.int ((la + lb) + lc))])) _
    refine XS.icmpYes X208.here hx rfl (pc0 := 188) (pc' := 196) rfl (hb hby at_188) rfl (tlt hc188).2.2.1 (by decide) (by decide) ?_
    refine XS.iconst X208.here hx rfl (hb hby at_196) ?_
    refine XS.istore X208.here hx rfl (hb hby at_197) rfl (l' := #[.val (.int vi0), .val (.int vi1), .val (.int vi2), .val (.int vi3), .val (.int vi4), .val (.int ln), .val (.int la), .val (.int lb), .val (.int lc), .val (.int ((vi4 &&& (255 : Int32)).toUInt32.toUInt16.toUInt32.toInt32)), .val (.ref b1), .val (.ref b5), .val (.ref b9), .val (.ref b10), .val (.int (-1 : Int32))]) rfl ?_
    refine XS.aload X208.here hx rfl (hb hby at_199) rfl rfl ?_
    show Steps p.tables e below (T208.setTop (mkF m 201 #[.val (.int vi0), .val (.int vi1), .val (.int vi2), .val (.int vi3), .val (.int vi4), .val (.int ln), .val (.int la), .val (.int lb), .val (.int lc), .val (.int ((vi4 &&& (255 : Int32)).toUInt32.toUInt16.toUInt32.toInt32)), .val (.ref b1), .val (.ref b5), .val (.ref b9), .val (.ref b10), .val (.int (-1 : Int32))] [(.ref b10)])) _
    refine XS.aload X208.here hx rfl (hb hby at_201) rfl rfl ?_
    show Steps p.tables e below (T208.setTop (mkF m 203 #[.val (.int vi0), .val (.int vi1), .val (.int vi2), .val (.int vi3), .val (.int vi4), .val (.int ln), .val (.int la), .val (.int lb), .val (.int lc), .val (.int ((vi4 &&& (255 : Int32)).toUInt32.toUInt16.toUInt32.toInt32)), .val (.ref b1), .val (.ref b5), .val (.ref b9), .val (.ref b10), .val (.int (-1 : Int32))] [(.ref b1), (.ref b10)])) _
    refine st209.trans ?_
    refine XS.iload X209.here hx rfl (hb hby at_206) rfl ?_
    show Steps p.tables e below (T209.setTop (mkF m 208 #[.val (.int vi0), .val (.int vi1), .val (.int vi2), .val (.int vi3), .val (.int vi4), .val (.int ln), .val (.int la), .val (.int lb), .val (.int lc), .val (.int ((vi4 &&& (255 : Int32)).toUInt32.toUInt16.toUInt32.toInt32)), .val (.ref b1), .val (.ref b5), .val (.ref b9), .val (.ref b10), .val (.int (-1 : Int32))] [(.int (-1 : Int32)), (.int (-1 : Int32))])) _
    refine XS.icmpNo X209.here hx rfl (hb hby at_208) rfl (teq (rfl : (-1 : Int32) = (-1 : Int32))).2 ?_
    show Steps p.tables e below (T209.setTop (mkF m 211 #[.val (.int vi0), .val (.int vi1), .val (.int vi2), .val (.int vi3), .val (.int vi4), .val (.int ln), .val (.int la), .val (.int lb), .val (.int lc), .val (.int ((vi4 &&& (255 : Int32)).toUInt32.toUInt16.toUInt32.toInt32)), .val (.ref b1), .val (.ref b5), .val (.ref b9), .val (.ref b10), .val (.int (-1 : Int32))] [])) _
    refine XS.aload X209.here hx rfl (hb hby at_211) rfl rfl ?_
    refine XS.aload X209.here hx rfl (hb hby at_213) rfl rfl ?_
    show Steps p.tables e below (T209.setTop (mkF m 215 #[.val (.int vi0), .val (.int vi1), .val (.int vi2), .val (.int vi3), .val (.int vi4), .val (.int ln), .val (.int la), .val (.int lb), .val (.int lc), .val (.int ((vi4 &&& (255 : Int32)).toUInt32.toUInt16.toUInt32.toInt32)), .val (.ref b1), .val (.ref b5), .val (.ref b9), .val (.ref b10), .val (.int (-1 : Int32))] [(.ref b5), (.ref b10)])) _
    refine st210.trans ?_
    refine XS.iconst X210.here hx rfl (hb hby at_218) ?_
    show Steps p.tables e below (T210.setTop (mkF m 219 #[.val (.int vi0), .val (.int vi1), .val (.int vi2), .val (.int vi3), .val (.int vi4), .val (.int ln), .val (.int la), .val (.int lb), .val (.int lc), .val (.int ((vi4 &&& (255 : Int32)).toUInt32.toUInt16.toUInt32.toInt32)), .val (.ref b1), .val (.ref b5), .val (.ref b9), .val (.ref b10), .val (.int (-1 : Int32))] [(.int (-1 : Int32)), (.int (-1 : Int32))])) _
    refine XS.icmpNo X210.here hx rfl (hb hby at_219) rfl (teq (rfl : (-1 : Int32) = (-1 : Int32))).2 ?_
    refine XS.iconst X210.here hx rfl (hb hby at_222) ?_
    refine XS.goto X210.here hx rfl (pc0 := 223) (pc' := 227) rfl (hb hby at_223) (by decide) (by decide) ?_
    exact retN X210 hx (t := .boolean) Bd.returns (by simp) (hb hby at_227) hr
  · show Q0_n2v Z vi0 vi1 vi2 vi3 vi4 w_COMPACT_STRINGS h0 n0 _ T210.heap _
    rw [e210]
    exact ⟨rfl, N210⟩
set_option maxRecDepth 65536 in
theorem rmL (l : Launch) (Z : State) (a0 : Array Value) (hw : ∀ d ∈ tables_1, d.before a0 Z = true) (ws : List Jvm.Cond) (vi0 : Int32) (vi1 : Int32) (vi2 : Int32) (vi3 : Int32) (vi4 : Int32) (w_COMPACT_STRINGS : Int32) (h0 : Heap) (n0 : Nat) (Z0 : n0 ≤ h0.size) (S_COMPACT_STRINGS : Sta Z Z.heap "java/lang/String" "COMPACT_STRINGS" "Z" (.int w_COMPACT_STRINGS)) (hG : ¬ (w_COMPACT_STRINGS = (0 : Int32))) (O0 : Old Z n0 h0) :
    MetFree l x (head1 (Jvm.Cond.code x code maxLocals ret :: ws) room_1) (fun a U => a = #[(.int vi0), (.int vi1), (.int vi2), (.int vi3), (.int vi4)] ∧ Z.Warmed39 U.vm ∧ U.heap = h0) (fun _ _ _ _ _ => True) (fun _ U o U' => ∃ v L, o = .returned v ∧ (v = some (.int (1 : Int32)) ∧ Fr n0 L) ∧ FrameEnd U o U' L room_1.cells room_1.slots) := by
  by_cases k188 : (4096 : Int32) < (((vi1 &&& (2047 : Int32)) + (vi2 &&& (2047 : Int32))) + (vi3 &&& (2047 : Int32)))
  · by_cases k107 : ((vi0 &&& (2147483647 : Int32)) % (3 : Int32)) < (1 : Int32)
    · have k132 : ((vi0 &&& (2147483647 : Int32)) % (3 : Int32)) < (2 : Int32) := Int32.lt_trans k107 (by decide)
      exact rm0_n0v l Z a0 hw ws vi0 vi1 vi2 vi3 vi4 w_COMPACT_STRINGS h0 n0 Z0 k188 k107 k132 S_COMPACT_STRINGS hG O0
    · by_cases k132 : ((vi0 &&& (2147483647 : Int32)) % (3 : Int32)) < (2 : Int32)
      · exact rm0_n1v l Z a0 hw ws vi0 vi1 vi2 vi3 vi4 w_COMPACT_STRINGS h0 n0 Z0 k188 k107 k132 S_COMPACT_STRINGS hG O0
      · exact rm0_n2v l Z a0 hw ws vi0 vi1 vi2 vi3 vi4 w_COMPACT_STRINGS h0 n0 Z0 k188 k107 k132 S_COMPACT_STRINGS hG O0
  · by_cases k107 : ((vi0 &&& (2147483647 : Int32)) % (3 : Int32)) < (1 : Int32)
    · have k132 : ((vi0 &&& (2147483647 : Int32)) % (3 : Int32)) < (2 : Int32) := Int32.lt_trans k107 (by decide)
      exact rm0_n0k l Z a0 hw ws vi0 vi1 vi2 vi3 vi4 w_COMPACT_STRINGS h0 n0 Z0 k188 k107 k132 S_COMPACT_STRINGS hG O0
    · by_cases k132 : ((vi0 &&& (2147483647 : Int32)) % (3 : Int32)) < (2 : Int32)
      · exact rm0_n1k l Z a0 hw ws vi0 vi1 vi2 vi3 vi4 w_COMPACT_STRINGS h0 n0 Z0 k188 k107 k132 S_COMPACT_STRINGS hG O0
      · exact rm0_n2k l Z a0 hw ws vi0 vi1 vi2 vi3 vi4 w_COMPACT_STRINGS h0 n0 Z0 k188 k107 k132 S_COMPACT_STRINGS hG O0
set_option maxRecDepth 65536 in
set_option maxHeartbeats 40000000 in
theorem comes_1 {Post : Tables → Env → Array Value → State → Outcome → State → Prop} (hpost : ∀ tb e args s v u, (limb_1_1.after args s (.returned v) u = true ∧ limb_1_2.after args s (.returned v) u = true ∧ True) → FrameEnd s (.returned v) u (Jvm.fieldLocs frame_1_writes args s ++ Jvm.arrayLocs frame_1_arrays args s ++ Jvm.staticLocs frame_1_statics s) 40 33024 → Post tb e args s (.returned v) u) :
    ArmFor flags0 classFile x code maxLocals ret World_1 tables_1 room_1 Calls_1 rest_1 Pre_1 Post := by
  intro l hfl _ _ p e ha hc hk s m args below hf hA hF happ hP
  obtain ⟨hcalls, hrest, hpre⟩ := hP
  obtain ⟨-, -, -, hnamed, -, -, -, hat⟩ := (Spec.applies_iff hf).mp happ
  obtain ⟨hg, hn⟩ := and_e (Cond.before_iff.mp (show (Jvm.Cond.and given_1 narrow_1).before args s = true from hpre))
  obtain ⟨gc, hg⟩ := and_e hg
  obtain ⟨ga0, hg⟩ := and_e hg
  obtain ⟨ga1, hg⟩ := and_e hg
  obtain ⟨ga2, hg⟩ := and_e hg
  obtain ⟨ga3, hg⟩ := and_e hg
  have ga4 := hg
  obtain ⟨w0, w1, w2, w3, w4, rfl⟩ : ∃ w0 w1 w2 w3 w4 : Value, args = #[w0, w1, w2, w3, w4] := by
    have hs : args.size = 5 := by simpa [Cond.value, given_1] using gc
    obtain ⟨L⟩ := args
    match L, hs with
    | [w0, w1, w2, w3, w4], _ => exact ⟨w0, w1, w2, w3, w4, rfl⟩
  have hw := fun d (hd : d ∈ tables_1) => atoms_spec (ws := Jvm.Cond.code x code maxLocals ret :: tables_1) hat d (List.mem_cons_of_mem _ hd)
  obtain ⟨hsets, hown0⟩ := atoms_of _ (rest_1_c_eq ▸ (show rest_1_c.before _ s = true from hrest))
  obtain ⟨i0, ei0⟩ := is_v ga0
  obtain rfl : w0 = (.int i0) := Option.some.inj ei0
  obtain ⟨i1, ei1⟩ := is_v ga1
  obtain rfl : w1 = (.int i1) := Option.some.inj ei1
  obtain ⟨i2, ei2⟩ := is_v ga2
  obtain rfl : w2 = (.int i2) := Option.some.inj ei2
  obtain ⟨i3, ei3⟩ := is_v ga3
  obtain rfl : w3 = (.int i3) := Option.some.inj ei3
  obtain ⟨i4, ei4⟩ := is_v ga4
  obtain rfl : w4 = (.int i4) := Option.some.inj ei4
  have n3 := not_v (Cond.before_iff.mp (hsets _ (List.mem_of_getElem? (i := 2) rfl)))
  obtain ⟨iG, eG⟩ := is_v (Cond.before_iff.mp (hsets _ (List.mem_of_getElem? (i := 1) rfl)))
  have SG : Sta s s.heap "java/lang/String" "COMPACT_STRINGS" "Z" (.int iG) := Sta.start eG (Or.inl (hsets _ (List.mem_of_getElem? (i := 0) rfl)))
  have hG : ¬ (iG = (0 : Int32)) := gotF (Cond.eq_ints eG (Term.int_eval (0))) n3
  obtain ⟨n, o, h1, h2, h3, _, L, rfl, ⟨rfl, N⟩, hq⟩ := rmL l s _ hw tables_1 i0 i1 i2 i3 i4 iG s.heap s.heap.size (Nat.le_refl _) SG hG (Old.start s) p e ha hc hk s m _ below hf ((Spec.applies_iff_loose hf).mp happ).1 ⟨rfl, State.Warmed39.refl s, rfl⟩ trivial
  refine ⟨n, _, h1, h2, h3, hpost _ _ _ _ _ _ ⟨Cond.after_iff.mpr rfl, Cond.after_iff.mpr (eq_i res_at (Term.int_eval (1)) rfl), trivial⟩ ⟨hq.1, hq.2.1, (hq.2.2.sift fun y hy => Or.inr (N y hy)).mono (by decide) (by decide)⟩⟩
theorem main_1_1 : Claimed_1_1 := comes_1 fun _ _ _ _ _ _ h hF => ⟨h.1, hF⟩
theorem main_1_2 : Claimed_1_2 := comes_1 fun _ _ _ _ _ _ h hF => ⟨h.2.1, hF⟩
end Jvm.Pilot.@@N@@
namespace Jvm.Pilot.@@N@@
open Jvm Jvm.ClassFile Sem Op Lib Jvm.Free Jvm.Stand Jvm.Pilot.@@N@@.Jvm.D
/-! MADE BY PROGRAM (witnessworld.py) out of the Statement's table words and the real class files: 25 classes; the members and pool entries that the words name. The judged class is class 1, her method 1. -/
namespace start1
open Jvm.ClassFile
def u (s : String) : CpInfo := .utf8 (stringToUtf16 s)
/-- a pool by its gaps: so many unusable entries, then the entry; so many at the end -/
def gap : Nat → List CpInfo → List CpInfo
  | 0, r => r
  | n + 1, r => .unusable :: gap n r
def poolList (es : List (Nat × CpInfo)) (last : Nat) : List CpInfo := es.foldr (fun e r => gap e.1 (e.2 :: r)) (gap last [])
def pool (es : List (Nat × CpInfo)) (last : Nat) : Array CpInfo := ⟨poolList es last⟩
def fileOf (pool : Array CpInfo) (this : Nat) (attrs : Array Attribute := #[]) (ms : Array MethodInfo := #[]) (fl : Nat := 33) (sup : Nat := 0) (ifs : Array Nat := #[]) (fds : Array FieldInfo := #[]) : ClassFile where
  minorVersion := 0
  majorVersion := 65
  constantPool := pool
  accessFlags := fl
  thisClass := this
  superClass := sup
  interfaces := ifs
  fields := fds
  methods := ms
  attributes := attrs
def plain (name : String) (sup : Option ClassId) : Class where
  name := name
  kind := .ordinary
  loader := none
  accessFlags := 33
  super := sup
  interfaces := #[]
  cf := none
  fields := #[]
  methods := #[]
  instanceTypes := #[]
  staticTypes := #[]
  resolved := #[]
  callSites := []
  init := .initialized
  statics := none
  mirror := none

def pool0 : Array CpInfo := pool [(5, u "<init>"), (0, u "()V"), (1, .class_ 10), (1, u "java/lang/Object")] 113

def k0c0 : Code := { maxStack := 0, maxLocals := 1, code := object_method_1_code, exceptionTable := #[], attributes := #[] }
def k0m0 : Method := { name := "<init>", desc := "()V", sig := { parameters := [], returnType := none }, accessFlags := 1, code := some k0c0 }
/-- java/lang/Object -/
def k0 : Class := { plain "java/lang/Object" none with
  accessFlags := 33
  interfaces := #[]
  cf := some (fileOf pool0 8 #[] #[{ accessFlags := 1, nameIndex := 5, descriptorIndex := 6, attributes := #[] }] 33 0 #[] #[])
  fields := #[]
  methods := #[k0m0]
  instanceTypes := #[]
  staticTypes := #[]
  resolved := Array.replicate 124 none
  statics := none }

def pool1 : Array CpInfo := pool [(2, .class_ 4), (0, .nameAndType 5 6), (0, u "java/lang/Object"), (0, u "<init>"), (0, u "()V"), (0, .integer 2147483647), (0, .class_ 9), (0, u "java/lang/String"), (0, .methodref 8 11), (0, .nameAndType 5 12), (0, u "([C)V"), (0, .class_ 14), (0, u "com/example/careful_ledger/carefulledger/json/PlainLine"), (0, .methodref 13 3), (0, .methodref 13 17), (0, .nameAndType 18 19), (0, u "reset"), (0, u "([BII)V"), (0, .methodref 13 21), (0, .nameAndType 22 6), (0, u "beginShape"), (0, .methodref 13 24), (0, .nameAndType 25 26), (0, u "moveTo"), (0, u "(I)V"), (0, .methodref 13 28), (0, .nameAndType 29 30), (0, u "valueComes"), (0, u "(Ljava/lang/Object;)V"), (0, .methodref 13 32), (0, .nameAndType 33 6), (0, u "valueRead"), (0, .methodref 13 35), (0, .nameAndType 36 30), (0, u "endShape"), (0, .methodref 13 38), (0, .nameAndType 39 40), (0, u "shapeValues"), (0, u "(Ljava/lang/Object;)I"), (0, .class_ 42), (0, u "com/example/careful_ledger/carefulledger/json/PlainLineShapeValuesPinLaw"), (2, u "law"), (0, u "(IIIII)Z")] 5

def k1m0 : Method := { name := "<init>", desc := "()V", sig := { parameters := [], returnType := none }, accessFlags := 1, code := none }
def k1c1 : Code := { maxStack := 6, maxLocals := 15, code := code, exceptionTable := #[], attributes := #[] }
def k1m1 : Method := { name := "law", desc := "(IIIII)Z", sig := { parameters := [.int, .int, .int, .int, .int], returnType := some .boolean }, accessFlags := 9, code := some k1c1 }
/-- com/example/careful_ledger/carefulledger/json/PlainLineShapeValuesPinLaw -/
def k1 : Class := { plain "com/example/careful_ledger/carefulledger/json/PlainLineShapeValuesPinLaw" (some 0) with
  accessFlags := 49
  interfaces := #[]
  cf := some (fileOf pool1 41 #[] #[{ accessFlags := 1, nameIndex := 5, descriptorIndex := 6, attributes := #[] }, { accessFlags := 9, nameIndex := 45, descriptorIndex := 46, attributes := #[] }] 49 2 #[] #[])
  fields := #[]
  methods := #[k1m0, k1m1]
  instanceTypes := #[]
  staticTypes := #[]
  resolved := Array.replicate 52 none
  statics := none }

def pool2 : Array CpInfo := pool [(1, .class_ 2), (0, u "java/io/Serializable"), (0, .class_ 4), (0, u "java/lang/Object")] 2

/-- java/io/Serializable -/
def k2 : Class := { plain "java/io/Serializable" (some 0) with
  accessFlags := 1537
  interfaces := #[]
  cf := some (fileOf pool2 1 #[] #[] 1537 3 #[] #[])
  fields := #[]
  methods := #[]
  instanceTypes := #[]
  staticTypes := #[]
  resolved := Array.replicate 7 none
  statics := none }

def pool3 : Array CpInfo := pool [(1, .class_ 2), (0, u "java/lang/Comparable"), (0, .class_ 4), (0, u "java/lang/Object")] 7

/-- java/lang/Comparable -/
def k3 : Class := { plain "java/lang/Comparable" (some 0) with
  accessFlags := 1537
  interfaces := #[]
  cf := some (fileOf pool3 1 #[] #[] 1537 3 #[] #[])
  fields := #[]
  methods := #[]
  instanceTypes := #[]
  staticTypes := #[]
  resolved := Array.replicate 12 none
  statics := none }

def pool4 : Array CpInfo := pool [(2, .class_ 4), (1, u "java/lang/CharSequence"), (42, .class_ 48), (0, u "java/lang/CharSequence$1CodePointIterator"), (10, .class_ 60), (0, u "java/lang/CharSequence$1CharIterator"), (5, .class_ 67), (0, u "java/lang/Object")] 63

/-- java/lang/CharSequence -/
def k4 : Class := { plain "java/lang/CharSequence" (some 0) with
  accessFlags := 1537
  interfaces := #[]
  cf := some (fileOf pool4 2 #[.nestMembers #[47, 59]] #[] 1537 66 #[] #[])
  fields := #[]
  methods := #[]
  instanceTypes := #[]
  staticTypes := #[]
  resolved := Array.replicate 131 none
  statics := none }

def pool5 : Array CpInfo := pool [(1, .class_ 2), (0, u "java/lang/constant/Constable"), (0, .class_ 4), (0, u "java/lang/Object")] 6

/-- java/lang/constant/Constable -/
def k5 : Class := { plain "java/lang/constant/Constable" (some 0) with
  accessFlags := 1537
  interfaces := #[]
  cf := some (fileOf pool5 1 #[] #[] 1537 3 #[] #[])
  fields := #[]
  methods := #[]
  instanceTypes := #[]
  staticTypes := #[]
  resolved := Array.replicate 11 none
  statics := none }

def pool6 : Array CpInfo := pool [(1, .class_ 2), (0, u "java/lang/constant/ConstantDesc"), (0, .class_ 4), (0, u "java/lang/Object")] 32

/-- java/lang/constant/ConstantDesc -/
def k6 : Class := { plain "java/lang/constant/ConstantDesc" (some 0) with
  accessFlags := 1537
  interfaces := #[]
  cf := some (fileOf pool6 1 #[] #[] 1537 3 #[] #[])
  fields := #[]
  methods := #[]
  instanceTypes := #[]
  staticTypes := #[]
  resolved := Array.replicate 37 none
  statics := none }

def pool7 : Array CpInfo := pool [(1, .methodref 2 3), (0, .class_ 4), (0, .nameAndType 5 6), (0, u "java/lang/Object"), (0, u "<init>"), (0, u "()V"), (2, .fieldref 10 11), (0, .class_ 12), (0, .nameAndType 13 14), (0, u "java/lang/String"), (0, u "value"), (0, u "[B"), (0, .fieldref 10 16), (0, .nameAndType 17 18), (0, u "coder"), (0, u "B"), (2, u "hash"), (0, u "I"), (2, u "hashIsZero"), (0, u "Z"), (0, .methodref 10 28), (0, .nameAndType 5 29), (0, u "([CIILjava/lang/Void;)V"), (8, .fieldref 10 39), (0, .nameAndType 40 26), (0, u "COMPACT_STRINGS"), (1, .class_ 44), (1, u "java/lang/StringUTF16"), (0, u "compress"), (1, .methodref 42 48), (0, .nameAndType 49 50), (0, u "coderFromArrayLen"), (0, u "([BI)B"), (126, .methodref 42 178), (0, .nameAndType 45 179), (0, u "([CII)[B"), (395, .class_ 576), (0, u "java/lang/CharSequence"), (22, u "CASE_INSENSITIVE_ORDER"), (0, u "Ljava/util/Comparator;"), (409, u "([C)V"), (90, u "serialPersistentFields"), (0, u "[Ljava/io/ObjectStreamField;"), (0, .class_ 1104), (0, u "java/lang/String$CaseInsensitiveComparator"), (1, .class_ 1107), (0, u "java/io/Serializable"), (0, .class_ 1109), (0, u "java/lang/Comparable"), (0, .class_ 1111), (0, u "java/lang/constant/Constable"), (0, .class_ 1113), (0, u "java/lang/constant/ConstantDesc"), (2, u "serialVersionUID"), (0, u "J"), (3, u "REPL"), (0, u "C"), (2, u "LATIN1"), (1, u "UTF16")] 323

def k7m0 : Method := { name := "<init>", desc := "()V", sig := { parameters := [], returnType := none }, accessFlags := 1, code := none }
def k7c1 : Code := { maxStack := 5, maxLocals := 2, code := jdk_42_method_3_code, exceptionTable := #[], attributes := #[] }
def k7m1 : Method := { name := "<init>", desc := "([C)V", sig := { parameters := [(.array .char)], returnType := none }, accessFlags := 1, code := some k7c1 }
def k7c2 : Code := { maxStack := 4, maxLocals := 6, code := jdk_42_method_149_code, exceptionTable := #[], attributes := #[] }
def k7m2 : Method := { name := "<init>", desc := "([CIILjava/lang/Void;)V", sig := { parameters := [(.array .char), .int, .int, (.object "java/lang/Void")], returnType := none }, accessFlags := 2, code := some k7c2 }
/-- java/lang/String -/
def k7 : Class := { plain "java/lang/String" (some 0) with
  accessFlags := 49
  interfaces := #[2, 3, 4, 5, 6]
  cf := some (fileOf pool7 10 #[.nestMembers #[1103]] #[{ accessFlags := 1, nameIndex := 5, descriptorIndex := 6, attributes := #[] }, { accessFlags := 1, nameIndex := 5, descriptorIndex := 1010, attributes := #[] }, { accessFlags := 2, nameIndex := 5, descriptorIndex := 29, attributes := #[] }] 49 2 #[1106, 1108, 575, 1110, 1112] #[{ accessFlags := 18, nameIndex := 13, descriptorIndex := 14, attributes := #[] }, { accessFlags := 18, nameIndex := 17, descriptorIndex := 18, attributes := #[] }, { accessFlags := 2, nameIndex := 21, descriptorIndex := 22, attributes := #[] }, { accessFlags := 2, nameIndex := 25, descriptorIndex := 26, attributes := #[] }, { accessFlags := 26, nameIndex := 1116, descriptorIndex := 1117, attributes := #[] }, { accessFlags := 24, nameIndex := 40, descriptorIndex := 26, attributes := #[] }, { accessFlags := 26, nameIndex := 1101, descriptorIndex := 1102, attributes := #[] }, { accessFlags := 26, nameIndex := 1121, descriptorIndex := 1122, attributes := #[] }, { accessFlags := 25, nameIndex := 599, descriptorIndex := 600, attributes := #[] }, { accessFlags := 24, nameIndex := 1125, descriptorIndex := 18, attributes := #[] }, { accessFlags := 24, nameIndex := 1127, descriptorIndex := 18, attributes := #[] }])
  fields := #[{ name := "value", type := (.array .byte), accessFlags := 18, slot := 0, constantValue := 0 }, { name := "coder", type := .byte, accessFlags := 18, slot := 1, constantValue := 0 }, { name := "hash", type := .int, accessFlags := 2, slot := 2, constantValue := 0 }, { name := "hashIsZero", type := .boolean, accessFlags := 2, slot := 3, constantValue := 0 }, { name := "serialVersionUID", type := .long, accessFlags := 26, slot := 0, constantValue := 0 }, { name := "COMPACT_STRINGS", type := .boolean, accessFlags := 24, slot := 1, constantValue := 0 }, { name := "serialPersistentFields", type := (.array (.object "java/io/ObjectStreamField")), accessFlags := 26, slot := 2, constantValue := 0 }, { name := "REPL", type := .char, accessFlags := 26, slot := 3, constantValue := 0 }, { name := "CASE_INSENSITIVE_ORDER", type := (.object "java/util/Comparator"), accessFlags := 25, slot := 4, constantValue := 0 }, { name := "LATIN1", type := .byte, accessFlags := 24, slot := 5, constantValue := 0 }, { name := "UTF16", type := .byte, accessFlags := 24, slot := 6, constantValue := 0 }]
  methods := #[k7m0, k7m1, k7m2]
  instanceTypes := #[(.array .byte), .byte, .int, .boolean]
  staticTypes := #[.long, .boolean, (.array (.object "java/io/ObjectStreamField")), .char, (.object "java/util/Comparator"), .byte, .byte]
  resolved := Array.replicate 1451 none
  statics := some 0 }

def pool8 : Array CpInfo := pool [(6, .class_ 8), (1, u "java/lang/Object"), (0, u "<init>"), (0, u "()V"), (1, .class_ 14), (1, u "java/lang/StringUTF16"), (31, u "$assertionsDisabled"), (0, u "Z"), (13, u "HI_BYTE_SHIFT"), (0, u "I"), (2, u "LO_BYTE_SHIFT"), (49, .methodref 12 116), (0, .nameAndType 117 118), (0, u "compress"), (0, u "([CI[BII)I"), (3, u "([CII)[B"), (138, u "coderFromArrayLen"), (0, u "([BI)B"), (106, .class_ 371), (1, u "java/lang/StringUTF16$LinesSpliterator"), (58, u "MAX_LENGTH"), (196, .class_ 628), (0, u "java/lang/StringUTF16$CodePointsSpliterator"), (0, .class_ 630), (0, u "java/lang/StringUTF16$CharsSpliterator")] 4

def k8m0 : Method := { name := "<init>", desc := "()V", sig := { parameters := [], returnType := none }, accessFlags := 0, code := none }
def k8c1 : Code := { maxStack := 2, maxLocals := 2, code := jdk_52_method_15_code, exceptionTable := #[], attributes := #[] }
def k8m1 : Method := { name := "coderFromArrayLen", desc := "([BI)B", sig := { parameters := [(.array .byte), .int], returnType := some .byte }, accessFlags := 8, code := some k8c1 }
def k8c2 : Code := { maxStack := 5, maxLocals := 6, code := jdk_52_method_16_code, exceptionTable := #[], attributes := #[] }
def k8m2 : Method := { name := "compress", desc := "([CII)[B", sig := { parameters := [(.array .char), .int, .int], returnType := some (.array .byte) }, accessFlags := 9, code := some k8c2 }
def k8c3 : Code := { maxStack := 3, maxLocals := 7, code := jdk_52_method_21_code, exceptionTable := #[], attributes := #[] }
def k8m3 : Method := { name := "compress", desc := "([CI[BII)I", sig := { parameters := [(.array .char), .int, (.array .byte), .int, .int], returnType := some .int }, accessFlags := 9, code := some k8c3 }
/-- java/lang/StringUTF16 -/
def k8 : Class := { plain "java/lang/StringUTF16" (some 0) with
  accessFlags := 48
  interfaces := #[]
  cf := some (fileOf pool8 12 #[.nestMembers #[627, 629, 369]] #[{ accessFlags := 0, nameIndex := 9, descriptorIndex := 10, attributes := #[] }, { accessFlags := 8, nameIndex := 261, descriptorIndex := 262, attributes := #[] }, { accessFlags := 9, nameIndex := 117, descriptorIndex := 122, attributes := #[] }, { accessFlags := 9, nameIndex := 117, descriptorIndex := 118, attributes := #[] }] 48 6 #[] #[{ accessFlags := 26, nameIndex := 61, descriptorIndex := 62, attributes := #[] }, { accessFlags := 26, nameIndex := 65, descriptorIndex := 62, attributes := #[] }, { accessFlags := 24, nameIndex := 430, descriptorIndex := 62, attributes := #[] }, { accessFlags := 4120, nameIndex := 46, descriptorIndex := 47, attributes := #[] }])
  fields := #[{ name := "HI_BYTE_SHIFT", type := .int, accessFlags := 26, slot := 0, constantValue := 0 }, { name := "LO_BYTE_SHIFT", type := .int, accessFlags := 26, slot := 1, constantValue := 0 }, { name := "MAX_LENGTH", type := .int, accessFlags := 24, slot := 2, constantValue := 0 }, { name := "$assertionsDisabled", type := .boolean, accessFlags := 4120, slot := 3, constantValue := 0 }]
  methods := #[k8m0, k8m1, k8m2, k8m3]
  instanceTypes := #[]
  staticTypes := #[.int, .int, .int, .boolean]
  resolved := Array.replicate 635 none
  statics := none }

def pool9 : Array CpInfo := pool [(1, .methodref 2 3), (0, .class_ 4), (0, .nameAndType 5 6), (0, u "java/lang/Object"), (0, u "<init>"), (0, u "()V"), (0, .fieldref 8 9), (0, .class_ 10), (0, .nameAndType 11 12), (0, u "com/example/careful_ledger/carefulledger/json/PlainLine"), (0, u "bytes"), (0, u "[B"), (0, .class_ 14), (0, u "java/text/ParsePosition"), (0, .methodref 13 16), (0, .nameAndType 5 17), (0, u "(I)V"), (0, .fieldref 8 19), (0, .nameAndType 20 21), (0, u "number"), (0, u "Ljava/text/ParsePosition;"), (0, .fieldref 8 23), (0, .nameAndType 24 12), (0, u "parts"), (0, .fieldref 8 26), (0, .nameAndType 27 28), (0, u "partEnds"), (0, u "[I"), (0, .fieldref 8 30), (0, .nameAndType 31 32), (0, u "tags"), (0, u "[Ljava/lang/Object;"), (0, .fieldref 8 34), (0, .nameAndType 35 36), (0, u "at"), (0, u "I"), (0, .fieldref 8 38), (0, .nameAndType 39 36), (0, u "end"), (0, .fieldref 8 41), (0, .nameAndType 42 43), (0, u "shapeReader"), (0, u "Ljava/lang/Object;"), (0, .fieldref 8 45), (0, .nameAndType 46 36), (0, u "values"), (0, .fieldref 8 48), (0, .nameAndType 49 50), (0, u "learning"), (0, u "Z"), (0, .fieldref 8 52), (0, .nameAndType 53 36), (0, u "partStart"), (0, .methodref 8 55), (0, .nameAndType 56 6), (0, u "endPart"), (1, .class_ 60), (1, u "java/util/Arrays"), (0, u "copyOf"), (5, .methodref 68 69), (0, .class_ 70), (0, .nameAndType 71 72), (0, u "java/lang/Math"), (0, u "max"), (0, u "(II)I"), (0, .methodref 68 74), (0, .nameAndType 75 72), (0, u "min"), (0, .methodref 58 77), (0, .nameAndType 61 78), (0, u "([BI)[B"), (3, .methodref 83 84), (0, .class_ 85), (0, .nameAndType 86 87), (0, u "java/lang/System"), (0, u "arraycopy"), (0, u "(Ljava/lang/Object;ILjava/lang/Object;II)V"), (40, u "WORDS"), (0, u "Ljava/lang/invoke/VarHandle;"), (24, u "MAX_PARTS_BYTES"), (4, u "reset"), (0, u "([BII)V"), (1, u "moveTo"), (0, u "beginShape"), (0, u "valueComes"), (0, u "(Ljava/lang/Object;)V"), (1, u "valueRead"), (0, u "endShape"), (0, u "shapeValues"), (0, u "(Ljava/lang/Object;)I")] 34

def k9c0 : Code := { maxStack := 4, maxLocals := 1, code := prog_58_method_1_code, exceptionTable := #[], attributes := #[] }
def k9m0 : Method := { name := "<init>", desc := "()V", sig := { parameters := [], returnType := none }, accessFlags := 0, code := some k9c0 }
def k9c1 : Code := { maxStack := 2, maxLocals := 4, code := prog_58_method_2_code, exceptionTable := #[], attributes := #[] }
def k9m1 : Method := { name := "reset", desc := "([BII)V", sig := { parameters := [(.array .byte), .int, .int], returnType := none }, accessFlags := 0, code := some k9c1 }
def k9c2 : Code := { maxStack := 2, maxLocals := 2, code := prog_58_method_4_code, exceptionTable := #[], attributes := #[] }
def k9m2 : Method := { name := "moveTo", desc := "(I)V", sig := { parameters := [.int], returnType := none }, accessFlags := 0, code := some k9c2 }
def k9c3 : Code := { maxStack := 2, maxLocals := 1, code := prog_58_method_5_code, exceptionTable := #[], attributes := #[] }
def k9m3 : Method := { name := "beginShape", desc := "()V", sig := { parameters := [], returnType := none }, accessFlags := 0, code := some k9c3 }
def k9c4 : Code := { maxStack := 4, maxLocals := 2, code := prog_58_method_6_code, exceptionTable := #[], attributes := #[] }
def k9m4 : Method := { name := "valueComes", desc := "(Ljava/lang/Object;)V", sig := { parameters := [(.object "java/lang/Object")], returnType := none }, accessFlags := 0, code := some k9c4 }
def k9c5 : Code := { maxStack := 2, maxLocals := 1, code := prog_58_method_7_code, exceptionTable := #[], attributes := #[] }
def k9m5 : Method := { name := "valueRead", desc := "()V", sig := { parameters := [], returnType := none }, accessFlags := 0, code := some k9c5 }
def k9c6 : Code := { maxStack := 2, maxLocals := 2, code := prog_58_method_8_code, exceptionTable := #[], attributes := #[] }
def k9m6 : Method := { name := "endShape", desc := "(Ljava/lang/Object;)V", sig := { parameters := [(.object "java/lang/Object")], returnType := none }, accessFlags := 0, code := some k9c6 }
def k9c7 : Code := { maxStack := 2, maxLocals := 2, code := prog_58_method_9_code, exceptionTable := #[], attributes := #[] }
def k9m7 : Method := { name := "shapeValues", desc := "(Ljava/lang/Object;)I", sig := { parameters := [(.object "java/lang/Object")], returnType := some .int }, accessFlags := 0, code := some k9c7 }
def k9c8 : Code := { maxStack := 5, maxLocals := 3, code := prog_58_method_12_code, exceptionTable := #[], attributes := #[] }
def k9m8 : Method := { name := "endPart", desc := "()V", sig := { parameters := [], returnType := none }, accessFlags := 2, code := some k9c8 }
/-- com/example/careful_ledger/carefulledger/json/PlainLine -/
def k9 : Class := { plain "com/example/careful_ledger/carefulledger/json/PlainLine" (some 0) with
  accessFlags := 49
  interfaces := #[]
  cf := some (fileOf pool9 8 #[] #[{ accessFlags := 0, nameIndex := 5, descriptorIndex := 6, attributes := #[] }, { accessFlags := 0, nameIndex := 159, descriptorIndex := 160, attributes := #[] }, { accessFlags := 0, nameIndex := 162, descriptorIndex := 17, attributes := #[] }, { accessFlags := 0, nameIndex := 163, descriptorIndex := 6, attributes := #[] }, { accessFlags := 0, nameIndex := 164, descriptorIndex := 165, attributes := #[] }, { accessFlags := 0, nameIndex := 167, descriptorIndex := 6, attributes := #[] }, { accessFlags := 0, nameIndex := 168, descriptorIndex := 165, attributes := #[] }, { accessFlags := 0, nameIndex := 169, descriptorIndex := 170, attributes := #[] }, { accessFlags := 2, nameIndex := 56, descriptorIndex := 6, attributes := #[] }] 49 2 #[] #[{ accessFlags := 24, nameIndex := 154, descriptorIndex := 36, attributes := #[] }, { accessFlags := 26, nameIndex := 128, descriptorIndex := 129, attributes := #[] }, { accessFlags := 2, nameIndex := 11, descriptorIndex := 12, attributes := #[] }, { accessFlags := 2, nameIndex := 39, descriptorIndex := 36, attributes := #[] }, { accessFlags := 2, nameIndex := 35, descriptorIndex := 36, attributes := #[] }, { accessFlags := 18, nameIndex := 20, descriptorIndex := 21, attributes := #[] }, { accessFlags := 2, nameIndex := 42, descriptorIndex := 43, attributes := #[] }, { accessFlags := 2, nameIndex := 24, descriptorIndex := 12, attributes := #[] }, { accessFlags := 2, nameIndex := 27, descriptorIndex := 28, attributes := #[] }, { accessFlags := 2, nameIndex := 31, descriptorIndex := 32, attributes := #[] }, { accessFlags := 2, nameIndex := 46, descriptorIndex := 36, attributes := #[] }, { accessFlags := 2, nameIndex := 49, descriptorIndex := 50, attributes := #[] }, { accessFlags := 2, nameIndex := 53, descriptorIndex := 36, attributes := #[] }])
  fields := #[{ name := "MAX_PARTS_BYTES", type := .int, accessFlags := 24, slot := 0, constantValue := 0 }, { name := "WORDS", type := (.object "java/lang/invoke/VarHandle"), accessFlags := 26, slot := 1, constantValue := 0 }, { name := "bytes", type := (.array .byte), accessFlags := 2, slot := 0, constantValue := 0 }, { name := "end", type := .int, accessFlags := 2, slot := 1, constantValue := 0 }, { name := "at", type := .int, accessFlags := 2, slot := 2, constantValue := 0 }, { name := "number", type := (.object "java/text/ParsePosition"), accessFlags := 18, slot := 3, constantValue := 0 }, { name := "shapeReader", type := (.object "java/lang/Object"), accessFlags := 2, slot := 4, constantValue := 0 }, { name := "parts", type := (.array .byte), accessFlags := 2, slot := 5, constantValue := 0 }, { name := "partEnds", type := (.array .int), accessFlags := 2, slot := 6, constantValue := 0 }, { name := "tags", type := (.array (.object "java/lang/Object")), accessFlags := 2, slot := 7, constantValue := 0 }, { name := "values", type := .int, accessFlags := 2, slot := 8, constantValue := 0 }, { name := "learning", type := .boolean, accessFlags := 2, slot := 9, constantValue := 0 }, { name := "partStart", type := .int, accessFlags := 2, slot := 10, constantValue := 0 }]
  methods := #[k9m0, k9m1, k9m2, k9m3, k9m4, k9m5, k9m6, k9m7, k9m8]
  instanceTypes := #[(.array .byte), .int, .int, (.object "java/text/ParsePosition"), (.object "java/lang/Object"), (.array .byte), (.array .int), (.array (.object "java/lang/Object")), .int, .boolean, .int]
  staticTypes := #[.int, (.object "java/lang/invoke/VarHandle")]
  resolved := Array.replicate 205 none
  statics := none }

def pool10 : Array CpInfo := pool [(1, .fieldref 2 3), (0, .class_ 4), (0, .nameAndType 5 6), (0, u "java/text/ParsePosition"), (0, u "index"), (0, u "I"), (0, .methodref 8 9), (0, .class_ 10), (0, .nameAndType 11 12), (0, u "java/lang/Object"), (0, u "<init>"), (0, u "()V"), (0, .fieldref 2 14), (0, .nameAndType 15 6), (0, u "errorIndex"), (38, u "(I)V")] 12

def k10c0 : Code := { maxStack := 2, maxLocals := 2, code := jdk_2306_method_3_code, exceptionTable := #[], attributes := #[] }
def k10m0 : Method := { name := "<init>", desc := "(I)V", sig := { parameters := [.int], returnType := none }, accessFlags := 1, code := some k10c0 }
/-- java/text/ParsePosition -/
def k10 : Class := { plain "java/text/ParsePosition" (some 0) with
  accessFlags := 33
  interfaces := #[]
  cf := some (fileOf pool10 2 #[] #[{ accessFlags := 1, nameIndex := 11, descriptorIndex := 54, attributes := #[] }] 33 8 #[] #[{ accessFlags := 0, nameIndex := 5, descriptorIndex := 6, attributes := #[] }, { accessFlags := 0, nameIndex := 15, descriptorIndex := 6, attributes := #[] }])
  fields := #[{ name := "index", type := .int, accessFlags := 0, slot := 0, constantValue := 0 }, { name := "errorIndex", type := .int, accessFlags := 0, slot := 1, constantValue := 0 }]
  methods := #[k10m0]
  instanceTypes := #[.int, .int]
  staticTypes := #[]
  resolved := Array.replicate 67 none
  statics := none }

def pool11 : Array CpInfo := pool [(2, .class_ 4), (1, u "java/lang/Object"), (0, u "<init>"), (0, u "()V"), (1, .class_ 10), (1, u "java/lang/System"), (0, u "allowSecurityManager"), (0, u "I"), (16, u "cons"), (0, u "Ljava/io/Console;"), (77, .class_ 110), (1, u "java/lang/System$CallersHolder"), (43, u "initialErrStream"), (0, u "Ljava/io/PrintStream;"), (19, u "security"), (0, u "Ljava/lang/SecurityManager;"), (31, .class_ 209), (0, u "java/lang/System$1"), (7, u "props"), (0, u "Ljava/util/Properties;"), (2, u "lineSeparator"), (0, u "Ljava/lang/String;"), (96, .class_ 321), (1, u "java/lang/System$LoggerFinder"), (5, .class_ 328), (0, u "java/lang/System$Logger"), (67, u "err"), (2, u "out"), (91, u "notSupportedJnuEncoding"), (15, u "in"), (17, u "initialIn"), (0, u "Ljava/io/InputStream;"), (35, u "bootLayer"), (0, u "Ljava/lang/ModuleLayer;"), (99, .class_ 664), (0, u "java/lang/System$2"), (9, u "NEVER"), (2, u "MAYBE"), (49, u "arraycopy"), (0, u "(Ljava/lang/Object;ILjava/lang/Object;II)V"), (72, .class_ 802), (0, u "java/lang/System$Logger$Level")] 31

def k11m0 : Method := { name := "<init>", desc := "()V", sig := { parameters := [], returnType := none }, accessFlags := 2, code := none }
def k11m1 : Method := { name := "arraycopy", desc := "(Ljava/lang/Object;ILjava/lang/Object;II)V", sig := { parameters := [(.object "java/lang/Object"), .int, (.object "java/lang/Object"), .int, .int], returnType := none }, accessFlags := 265, code := none }
/-- java/lang/System -/
def k11 : Class := { plain "java/lang/System" (some 0) with
  accessFlags := 49
  interfaces := #[]
  cf := some (fileOf pool11 8 #[.nestMembers #[319, 327, 801, 108, 663, 208]] #[{ accessFlags := 2, nameIndex := 5, descriptorIndex := 6, attributes := #[] }, { accessFlags := 265, nameIndex := 727, descriptorIndex := 728, attributes := #[] }] 49 2 #[] #[{ accessFlags := 25, nameIndex := 507, descriptorIndex := 526, attributes := #[] }, { accessFlags := 25, nameIndex := 399, descriptorIndex := 155, attributes := #[] }, { accessFlags := 25, nameIndex := 396, descriptorIndex := 155, attributes := #[] }, { accessFlags := 10, nameIndex := 525, descriptorIndex := 526, attributes := #[] }, { accessFlags := 26, nameIndex := 674, descriptorIndex := 12, attributes := #[] }, { accessFlags := 26, nameIndex := 677, descriptorIndex := 12, attributes := #[] }, { accessFlags := 10, nameIndex := 11, descriptorIndex := 12, attributes := #[] }, { accessFlags := 74, nameIndex := 175, descriptorIndex := 176, attributes := #[] }, { accessFlags := 10, nameIndex := 491, descriptorIndex := 222, attributes := #[] }, { accessFlags := 74, nameIndex := 29, descriptorIndex := 30, attributes := #[] }, { accessFlags := 74, nameIndex := 154, descriptorIndex := 155, attributes := #[] }, { accessFlags := 10, nameIndex := 217, descriptorIndex := 218, attributes := #[] }, { accessFlags := 10, nameIndex := 221, descriptorIndex := 222, attributes := #[] }, { accessFlags := 8, nameIndex := 562, descriptorIndex := 563, attributes := #[] }])
  fields := #[{ name := "in", type := (.object "java/io/InputStream"), accessFlags := 25, slot := 0, constantValue := 0 }, { name := "out", type := (.object "java/io/PrintStream"), accessFlags := 25, slot := 1, constantValue := 0 }, { name := "err", type := (.object "java/io/PrintStream"), accessFlags := 25, slot := 2, constantValue := 0 }, { name := "initialIn", type := (.object "java/io/InputStream"), accessFlags := 10, slot := 3, constantValue := 0 }, { name := "NEVER", type := .int, accessFlags := 26, slot := 4, constantValue := 0 }, { name := "MAYBE", type := .int, accessFlags := 26, slot := 5, constantValue := 0 }, { name := "allowSecurityManager", type := .int, accessFlags := 10, slot := 6, constantValue := 0 }, { name := "security", type := (.object "java/lang/SecurityManager"), accessFlags := 74, slot := 7, constantValue := 0 }, { name := "notSupportedJnuEncoding", type := (.object "java/lang/String"), accessFlags := 10, slot := 8, constantValue := 0 }, { name := "cons", type := (.object "java/io/Console"), accessFlags := 74, slot := 9, constantValue := 0 }, { name := "initialErrStream", type := (.object "java/io/PrintStream"), accessFlags := 74, slot := 10, constantValue := 0 }, { name := "props", type := (.object "java/util/Properties"), accessFlags := 10, slot := 11, constantValue := 0 }, { name := "lineSeparator", type := (.object "java/lang/String"), accessFlags := 10, slot := 12, constantValue := 0 }, { name := "bootLayer", type := (.object "java/lang/ModuleLayer"), accessFlags := 8, slot := 13, constantValue := 0 }]
  methods := #[k11m0, k11m1]
  instanceTypes := #[]
  staticTypes := #[(.object "java/io/InputStream"), (.object "java/io/PrintStream"), (.object "java/io/PrintStream"), (.object "java/io/InputStream"), .int, .int, .int, (.object "java/lang/SecurityManager"), (.object "java/lang/String"), (.object "java/io/Console"), (.object "java/io/PrintStream"), (.object "java/util/Properties"), (.object "java/lang/String"), (.object "java/lang/ModuleLayer")]
  resolved := Array.replicate 834 none
  statics := none }

def pool12 : Array CpInfo := pool [(1, .class_ 2), (0, u "java/lang/Math"), (1, .class_ 6), (1, u "java/lang/Object"), (0, u "<init>"), (0, u "()V"), (89, .class_ 100), (1, u "java/lang/Math$RandomNumberGeneratorHolder"), (71, u "negativeZeroFloatBits"), (0, u "J"), (2, u "negativeZeroDoubleBits"), (21, u "max"), (2, u "min"), (43, u "$assertionsDisabled"), (0, u "Z"), (88, u "(II)I"), (2, u "twoToTheDoubleScaleDown"), (0, u "D"), (4, u "twoToTheDoubleScaleUp"), (9, u "E"), (3, u "PI"), (2, u "TAU"), (2, u "DEGREES_TO_RADIANS"), (0, u "RADIANS_TO_DEGREES")] 94

def k12m0 : Method := { name := "<init>", desc := "()V", sig := { parameters := [], returnType := none }, accessFlags := 2, code := none }
def k12c1 : Code := { maxStack := 2, maxLocals := 2, code := jdk_29_method_65_code, exceptionTable := #[], attributes := #[] }
def k12m1 : Method := { name := "max", desc := "(II)I", sig := { parameters := [.int, .int], returnType := some .int }, accessFlags := 9, code := some k12c1 }
def k12c2 : Code := { maxStack := 2, maxLocals := 2, code := jdk_29_method_69_code, exceptionTable := #[], attributes := #[] }
def k12m2 : Method := { name := "min", desc := "(II)I", sig := { parameters := [.int, .int], returnType := some .int }, accessFlags := 9, code := some k12c2 }
/-- java/lang/Math -/
def k12 : Class := { plain "java/lang/Math" (some 0) with
  accessFlags := 49
  interfaces := #[]
  cf := some (fileOf pool12 1 #[.nestMembers #[98]] #[{ accessFlags := 2, nameIndex := 7, descriptorIndex := 8, attributes := #[] }, { accessFlags := 9, nameIndex := 198, descriptorIndex := 335, attributes := #[] }, { accessFlags := 9, nameIndex := 201, descriptorIndex := 335, attributes := #[] }] 49 4 #[] #[{ accessFlags := 25, nameIndex := 354, descriptorIndex := 339, attributes := #[] }, { accessFlags := 25, nameIndex := 358, descriptorIndex := 339, attributes := #[] }, { accessFlags := 25, nameIndex := 361, descriptorIndex := 339, attributes := #[] }, { accessFlags := 26, nameIndex := 364, descriptorIndex := 339, attributes := #[] }, { accessFlags := 26, nameIndex := 365, descriptorIndex := 339, attributes := #[] }, { accessFlags := 26, nameIndex := 172, descriptorIndex := 173, attributes := #[] }, { accessFlags := 26, nameIndex := 176, descriptorIndex := 173, attributes := #[] }, { accessFlags := 8, nameIndex := 344, descriptorIndex := 339, attributes := #[] }, { accessFlags := 8, nameIndex := 338, descriptorIndex := 339, attributes := #[] }, { accessFlags := 4120, nameIndex := 245, descriptorIndex := 246, attributes := #[] }])
  fields := #[{ name := "E", type := .double, accessFlags := 25, slot := 0, constantValue := 0 }, { name := "PI", type := .double, accessFlags := 25, slot := 1, constantValue := 0 }, { name := "TAU", type := .double, accessFlags := 25, slot := 2, constantValue := 0 }, { name := "DEGREES_TO_RADIANS", type := .double, accessFlags := 26, slot := 3, constantValue := 0 }, { name := "RADIANS_TO_DEGREES", type := .double, accessFlags := 26, slot := 4, constantValue := 0 }, { name := "negativeZeroFloatBits", type := .long, accessFlags := 26, slot := 5, constantValue := 0 }, { name := "negativeZeroDoubleBits", type := .long, accessFlags := 26, slot := 6, constantValue := 0 }, { name := "twoToTheDoubleScaleUp", type := .double, accessFlags := 8, slot := 7, constantValue := 0 }, { name := "twoToTheDoubleScaleDown", type := .double, accessFlags := 8, slot := 8, constantValue := 0 }, { name := "$assertionsDisabled", type := .boolean, accessFlags := 4120, slot := 9, constantValue := 0 }]
  methods := #[k12m0, k12m1, k12m2]
  instanceTypes := #[]
  staticTypes := #[.double, .double, .double, .double, .double, .long, .long, .double, .double, .boolean]
  resolved := Array.replicate 460 none
  statics := none }

def pool13 : Array CpInfo := pool [(2, .class_ 4), (1, u "java/lang/Object"), (0, u "<init>"), (0, u "()V"), (7, .class_ 16), (1, u "java/util/Arrays"), (57, .class_ 76), (1, u "java/util/Arrays$NaturalOrder"), (36, .class_ 115), (1, u "java/util/Arrays$LegacyMergeSort"), (1, u "Z"), (32, .methodref 151 152), (0, .class_ 153), (0, .nameAndType 154 155), (0, u "java/lang/System"), (0, u "arraycopy"), (0, u "(Ljava/lang/Object;ILjava/lang/Object;II)V"), (146, u "copyOf"), (1, .methodref 305 306), (0, .class_ 307), (0, .nameAndType 308 309), (0, u "java/lang/Math"), (0, u "min"), (0, u "(II)I"), (65, .class_ 376), (0, u "java/util/Arrays$ArrayList"), (68, u "$assertionsDisabled"), (269, u "MIN_ARRAY_SORT_GRAN"), (0, u "I"), (2, u "INSERTIONSORT_THRESHOLD"), (149, u "([BI)[B"), (105, .class_ 976), (0, u "java/util/Arrays$ArrayItr")] 52

def k13m0 : Method := { name := "<init>", desc := "()V", sig := { parameters := [], returnType := none }, accessFlags := 2, code := none }
def k13c1 : Code := { maxStack := 6, maxLocals := 3, code := jdk_65_method_121_code, exceptionTable := #[], attributes := #[] }
def k13m1 : Method := { name := "copyOf", desc := "([BI)[B", sig := { parameters := [(.array .byte), .int], returnType := some (.array .byte) }, accessFlags := 9, code := some k13c1 }
/-- java/util/Arrays -/
def k13 : Class := { plain "java/util/Arrays" (some 0) with
  accessFlags := 49
  interfaces := #[]
  cf := some (fileOf pool13 14 #[.nestMembers #[975, 375, 113, 74]] #[{ accessFlags := 2, nameIndex := 5, descriptorIndex := 6, attributes := #[] }, { accessFlags := 9, nameIndex := 302, descriptorIndex := 869, attributes := #[] }] 49 2 #[] #[{ accessFlags := 26, nameIndex := 715, descriptorIndex := 716, attributes := #[] }, { accessFlags := 26, nameIndex := 719, descriptorIndex := 716, attributes := #[] }, { accessFlags := 4120, nameIndex := 445, descriptorIndex := 117, attributes := #[] }])
  fields := #[{ name := "MIN_ARRAY_SORT_GRAN", type := .int, accessFlags := 26, slot := 0, constantValue := 0 }, { name := "INSERTIONSORT_THRESHOLD", type := .int, accessFlags := 26, slot := 1, constantValue := 0 }, { name := "$assertionsDisabled", type := .boolean, accessFlags := 4120, slot := 2, constantValue := 0 }]
  methods := #[k13m0, k13m1]
  instanceTypes := #[]
  staticTypes := #[.int, .int, .boolean]
  resolved := Array.replicate 1029 none
  statics := none }

def pool14 : Array CpInfo := pool [(4, .class_ 6), (1, u "java/lang/Object"), (0, u "<init>"), (0, u "()V"), (5, .class_ 16), (1, u "java/lang/StringLatin1"), (104, u "$assertionsDisabled"), (0, u "Z"), (98, .class_ 223), (1, u "java/lang/StringLatin1$LinesSpliterator"), (166, .class_ 391), (0, u "java/lang/StringLatin1$CharsSpliterator")] 3

def k14m0 : Method := { name := "<init>", desc := "()V", sig := { parameters := [], returnType := none }, accessFlags := 0, code := none }
/-- java/lang/StringLatin1 -/
def k14 : Class := { plain "java/lang/StringLatin1" (some 0) with
  accessFlags := 48
  interfaces := #[]
  cf := some (fileOf pool14 14 #[.nestMembers #[390, 221]] #[{ accessFlags := 0, nameIndex := 7, descriptorIndex := 8, attributes := #[] }] 48 4 #[] #[{ accessFlags := 4120, nameIndex := 121, descriptorIndex := 122, attributes := #[] }])
  fields := #[{ name := "$assertionsDisabled", type := .boolean, accessFlags := 4120, slot := 0, constantValue := 0 }]
  methods := #[k14m0]
  instanceTypes := #[]
  staticTypes := #[.boolean]
  resolved := Array.replicate 395 none
  statics := none }

def pool15 : Array CpInfo := pool [(2, .class_ 4), (1, u "java/lang/Object"), (0, u "<init>"), (0, u "()V"), (17, .class_ 26), (1, u "jdk/internal/util/Preconditions"), (28, .class_ 56), (0, u "jdk/internal/util/Preconditions$4"), (57, .class_ 115), (0, u "jdk/internal/util/Preconditions$1"), (7, u "SIOOBE_FORMATTER"), (0, u "Ljava/util/function/BiFunction;"), (0, .class_ 126), (0, u "jdk/internal/util/Preconditions$2"), (3, u "AIOOBE_FORMATTER"), (0, .class_ 132), (0, u "jdk/internal/util/Preconditions$3"), (3, u "IOOBE_FORMATTER")] 57

def k15m0 : Method := { name := "<init>", desc := "()V", sig := { parameters := [], returnType := none }, accessFlags := 1, code := none }
/-- jdk/internal/util/Preconditions -/
def k15 : Class := { plain "jdk/internal/util/Preconditions" (some 0) with
  accessFlags := 33
  interfaces := #[]
  cf := some (fileOf pool15 24 #[.nestMembers #[55, 131, 125, 114]] #[{ accessFlags := 1, nameIndex := 5, descriptorIndex := 6, attributes := #[] }] 33 2 #[] #[{ accessFlags := 25, nameIndex := 123, descriptorIndex := 124, attributes := #[] }, { accessFlags := 25, nameIndex := 130, descriptorIndex := 124, attributes := #[] }, { accessFlags := 25, nameIndex := 136, descriptorIndex := 124, attributes := #[] }])
  fields := #[{ name := "SIOOBE_FORMATTER", type := (.object "java/util/function/BiFunction"), accessFlags := 25, slot := 0, constantValue := 0 }, { name := "AIOOBE_FORMATTER", type := (.object "java/util/function/BiFunction"), accessFlags := 25, slot := 1, constantValue := 0 }, { name := "IOOBE_FORMATTER", type := (.object "java/util/function/BiFunction"), accessFlags := 25, slot := 2, constantValue := 0 }]
  methods := #[k15m0]
  instanceTypes := #[]
  staticTypes := #[(.object "java/util/function/BiFunction"), (.object "java/util/function/BiFunction"), (.object "java/util/function/BiFunction")]
  resolved := Array.replicate 194 none
  statics := some 1 }

def pool16 : Array CpInfo := pool [(9, u "<init>"), (6, .class_ 18), (1, u "java/lang/Object"), (0, u "()V"), (1, .class_ 23), (1, u "jdk/internal/util/ArraysSupport"), (0, u "LOG2_ARRAY_LONG_INDEX_SCALE"), (0, u "I"), (2, u "U"), (0, u "Ljdk/internal/misc/Unsafe;"), (8, u "BIG_ENDIAN"), (0, u "Z"), (8, u "LOG2_BYTE_BIT_SIZE"), (4, u "LOG2_ARRAY_INT_INDEX_SCALE"), (54, u "JLA"), (0, u "Ljdk/internal/access/JavaLangAccess;"), (11, u "LOG2_ARRAY_BOOLEAN_INDEX_SCALE"), (9, u "LOG2_ARRAY_BYTE_INDEX_SCALE"), (5, u "LOG2_ARRAY_CHAR_INDEX_SCALE"), (5, u "LOG2_ARRAY_SHORT_INDEX_SCALE"), (18, u "LOG2_ARRAY_FLOAT_INDEX_SCALE"), (24, u "LOG2_ARRAY_DOUBLE_INDEX_SCALE"), (89, u "T_BOOLEAN"), (2, u "T_CHAR"), (1, u "T_FLOAT"), (1, u "T_DOUBLE"), (1, u "T_BYTE"), (1, u "T_SHORT"), (1, u "T_INT"), (1, u "T_LONG"), (1, u "SOFT_MAX_ARRAY_LENGTH")] 83

def k16m0 : Method := { name := "<init>", desc := "()V", sig := { parameters := [], returnType := none }, accessFlags := 2, code := none }
/-- jdk/internal/util/ArraysSupport -/
def k16 : Class := { plain "jdk/internal/util/ArraysSupport" (some 0) with
  accessFlags := 33
  interfaces := #[]
  cf := some (fileOf pool16 21 #[] #[{ accessFlags := 2, nameIndex := 9, descriptorIndex := 19, attributes := #[] }] 33 16 #[] #[{ accessFlags := 24, nameIndex := 28, descriptorIndex := 29, attributes := #[] }, { accessFlags := 26, nameIndex := 38, descriptorIndex := 39, attributes := #[] }, { accessFlags := 25, nameIndex := 121, descriptorIndex := 25, attributes := #[] }, { accessFlags := 25, nameIndex := 131, descriptorIndex := 25, attributes := #[] }, { accessFlags := 25, nameIndex := 137, descriptorIndex := 25, attributes := #[] }, { accessFlags := 25, nameIndex := 143, descriptorIndex := 25, attributes := #[] }, { accessFlags := 25, nameIndex := 53, descriptorIndex := 25, attributes := #[] }, { accessFlags := 25, nameIndex := 24, descriptorIndex := 25, attributes := #[] }, { accessFlags := 25, nameIndex := 162, descriptorIndex := 25, attributes := #[] }, { accessFlags := 25, nameIndex := 187, descriptorIndex := 25, attributes := #[] }, { accessFlags := 26, nameIndex := 48, descriptorIndex := 25, attributes := #[] }, { accessFlags := 25, nameIndex := 277, descriptorIndex := 25, attributes := #[] }, { accessFlags := 25, nameIndex := 280, descriptorIndex := 25, attributes := #[] }, { accessFlags := 25, nameIndex := 282, descriptorIndex := 25, attributes := #[] }, { accessFlags := 25, nameIndex := 284, descriptorIndex := 25, attributes := #[] }, { accessFlags := 25, nameIndex := 286, descriptorIndex := 25, attributes := #[] }, { accessFlags := 25, nameIndex := 288, descriptorIndex := 25, attributes := #[] }, { accessFlags := 25, nameIndex := 290, descriptorIndex := 25, attributes := #[] }, { accessFlags := 25, nameIndex := 292, descriptorIndex := 25, attributes := #[] }, { accessFlags := 26, nameIndex := 108, descriptorIndex := 109, attributes := #[] }, { accessFlags := 25, nameIndex := 294, descriptorIndex := 25, attributes := #[] }])
  fields := #[{ name := "U", type := (.object "jdk/internal/misc/Unsafe"), accessFlags := 24, slot := 0, constantValue := 0 }, { name := "BIG_ENDIAN", type := .boolean, accessFlags := 26, slot := 1, constantValue := 0 }, { name := "LOG2_ARRAY_BOOLEAN_INDEX_SCALE", type := .int, accessFlags := 25, slot := 2, constantValue := 0 }, { name := "LOG2_ARRAY_BYTE_INDEX_SCALE", type := .int, accessFlags := 25, slot := 3, constantValue := 0 }, { name := "LOG2_ARRAY_CHAR_INDEX_SCALE", type := .int, accessFlags := 25, slot := 4, constantValue := 0 }, { name := "LOG2_ARRAY_SHORT_INDEX_SCALE", type := .int, accessFlags := 25, slot := 5, constantValue := 0 }, { name := "LOG2_ARRAY_INT_INDEX_SCALE", type := .int, accessFlags := 25, slot := 6, constantValue := 0 }, { name := "LOG2_ARRAY_LONG_INDEX_SCALE", type := .int, accessFlags := 25, slot := 7, constantValue := 0 }, { name := "LOG2_ARRAY_FLOAT_INDEX_SCALE", type := .int, accessFlags := 25, slot := 8, constantValue := 0 }, { name := "LOG2_ARRAY_DOUBLE_INDEX_SCALE", type := .int, accessFlags := 25, slot := 9, constantValue := 0 }, { name := "LOG2_BYTE_BIT_SIZE", type := .int, accessFlags := 26, slot := 10, constantValue := 0 }, { name := "T_BOOLEAN", type := .int, accessFlags := 25, slot := 11, constantValue := 0 }, { name := "T_CHAR", type := .int, accessFlags := 25, slot := 12, constantValue := 0 }, { name := "T_FLOAT", type := .int, accessFlags := 25, slot := 13, constantValue := 0 }, { name := "T_DOUBLE", type := .int, accessFlags := 25, slot := 14, constantValue := 0 }, { name := "T_BYTE", type := .int, accessFlags := 25, slot := 15, constantValue := 0 }, { name := "T_SHORT", type := .int, accessFlags := 25, slot := 16, constantValue := 0 }, { name := "T_INT", type := .int, accessFlags := 25, slot := 17, constantValue := 0 }, { name := "T_LONG", type := .int, accessFlags := 25, slot := 18, constantValue := 0 }, { name := "JLA", type := (.object "jdk/internal/access/JavaLangAccess"), accessFlags := 26, slot := 19, constantValue := 0 }, { name := "SOFT_MAX_ARRAY_LENGTH", type := .int, accessFlags := 25, slot := 20, constantValue := 0 }]
  methods := #[k16m0]
  instanceTypes := #[]
  staticTypes := #[(.object "jdk/internal/misc/Unsafe"), .boolean, .int, .int, .int, .int, .int, .int, .int, .int, .int, .int, .int, .int, .int, .int, .int, .int, .int, (.object "jdk/internal/access/JavaLangAccess"), .int]
  resolved := Array.replicate 378 none
  statics := none }

def pool17 : Array CpInfo := pool [(1, u "java/lang/Cloneable"), (0, .class_ 1), (0, u "java/lang/Object"), (0, .class_ 3)] 3

/-- java/lang/Cloneable -/
def k17 : Class := { plain "java/lang/Cloneable" (some 0) with
  accessFlags := 1537
  interfaces := #[]
  cf := some (fileOf pool17 2 #[] #[] 1537 4 #[] #[])
  fields := #[]
  methods := #[]
  instanceTypes := #[]
  staticTypes := #[]
  resolved := Array.replicate 8 none
  statics := none }

/-- the primitive byte -/
def k18 : Class := { plain "byte" none with kind := .primitive 'B', accessFlags := 0x411 }
/-- [B -/
def k19 : Class := { plain "[B" (some 0) with kind := .array 18 .byte, interfaces := #[17, 2], accessFlags := 1041 }

/-- the primitive char -/
def k20 : Class := { plain "char" none with kind := .primitive 'C', accessFlags := 0x411 }
/-- [C -/
def k21 : Class := { plain "[C" (some 0) with kind := .array 20 .char, interfaces := #[17, 2], accessFlags := 1041 }

/-- the primitive int -/
def k22 : Class := { plain "int" none with kind := .primitive 'I', accessFlags := 0x411 }
/-- [I -/
def k23 : Class := { plain "[I" (some 0) with kind := .array 22 .int, interfaces := #[17, 2], accessFlags := 1041 }

/-- [Ljava/lang/Object; -/
def k24 : Class := { plain "[Ljava/lang/Object;" (some 0) with kind := .array 0 (.object "java/lang/Object"), interfaces := #[17, 2], accessFlags := 1041 }

def heap : Heap := #[{ cls := 7, slots := #[.long 0, .int 1, .null, .int 0, .null, .int 0, .int 0], vm := .statics 7 },
  { cls := 15, slots := #[.null, .null, .null], vm := .statics 15 }]
def classes : Array Class := #[k0, k1, k2, k3, k4, k5, k6, k7, k8, k9, k10, k11, k12, k13, k14, k15, k16, k17, k18, k19, k20, k21, k22, k23, k24]
def interned : List (Array UInt16 × Addr) := []
def slotsUsed : Nat := 10
def theMethod : MethodId := ⟨1, 1⟩
def args0 : Array Value := #[.int 1, .int 5, .int 6, .int 7, .int 65]
def aboutOver (below : List Frame) : State where
  vm := { classes := classes, interned := interned.toArray }
  heap := heap
  slotsUsed := slotsUsed
  threads := #[{ frames := .invoking theMethod args0 :: below }]
def below0 : List Frame := [.native { method := ⟨0, 0⟩, args := #[] }]
def about1 : State := aboutOver below0
def p0 : Program := .bare "" "" ""
def e0 : Env := launch0.env 0 0 0
theorem w_frames : about1.frames = Frame.invoking theMethod args0 :: below0 := rfl
set_option maxRecDepth 65536 in
theorem w_args : argsFit about1.vm theMethod args0 = true := by decide +kernel
set_option maxRecDepth 65536 in
theorem w_heap : heapFits about1 = true := by decide +kernel
set_option maxRecDepth 65536 in
theorem w_runnable : about1.curStatus? = some .runnable := by decide +kernel
set_option maxRecDepth 65536 in
theorem w_alone : about1.alone = true := by decide +kernel
set_option maxRecDepth 65536 in
theorem w_named : about1.methodNamed? x = some theMethod := by decide +kernel
set_option maxRecDepth 65536 in
theorem w_hears : about1.hears theMethod below0 = true := by decide +kernel
set_option maxRecDepth 65536 in
theorem w_ripe : about1.ripe theMethod args0 below0 = true := by decide +kernel
theorem w_running : about1.status = .running := rfl
set_option maxRecDepth 65536 in
theorem w_room : about1.hasRoom e0.platform room_1 = true :=
  launch0.hasRoom_least _ room_1 (by decide +kernel) (by decide +kernel) (by decide +kernel) (by decide +kernel) (by decide +kernel) (by decide +kernel)
theorem allAtoms_all (ts : List Jvm.Cond) (a : Array Jvm.Value) (st : Jvm.State) : (allAtoms ts).before a st = ts.all (fun c => c.before a st) := by
  induction ts with
  | nil => rfl
  | cons c t ih =>
    show (Jvm.Cond.and c (allAtoms t)).before a st = _
    rw [Jvm.Cond.before_and, ih, List.all_cons]
def words1 : List Jvm.Cond := Jvm.Cond.code x code maxLocals ret :: tables_1
/-- a 'code' word, met by the world's own term for the bytes: nothing is compared byte by byte -/
theorem code_word {y : MethodName} {bytes : ByteArray} {mx : Nat} {rt : Option FieldType} {a : Array Value} {s : State} {m : MethodId} {meth : Method} {c : Code} (h1 : s.methodNamed? y = some m) (h2 : s.vm.method? m = some meth) (h3 : meth.code = some c) (h4 : c.code = bytes)
    (h5 : (c.maxLocals == mx && c.exceptionTable.isEmpty && decide (c.maxStack ≤ mostOperands) && decide (meth.sig.returnType = rt) && !meth.locks && decide (parseMethodDescriptor y.desc = some meth.sig)) = true) : (Jvm.Cond.code y bytes mx rt).before a s = true := by
  simp only [Bool.and_eq_true, beq_iff_eq, Bool.not_eq_true', decide_eq_true_eq] at h5
  obtain ⟨⟨⟨⟨⟨g1, g2⟩, g3⟩, g4⟩, g5⟩, g6⟩ := h5
  simp [Cond.before, Cond.holds, Cond.value, h1, h2, h3, h4, g1, g2, g3, g4, g5, g6]
def isCode : Jvm.Cond → Bool
  | .code _ _ _ _ => true
  | _ => false
theorem all_split {L : List Jvm.Cond} {P : Jvm.Cond → Bool} (h1 : L.all (fun c => isCode c || P c) = true) (h2 : ∀ c ∈ L.filter isCode, P c = true) : L.all P = true := by
  refine List.all_eq_true.mpr fun c hc => ?_
  have h := List.all_eq_true.mp h1 c hc
  rcases Bool.eq_false_or_eq_true (isCode c) with hi | hi
  · exact h2 c (List.mem_filter.mpr ⟨hc, hi⟩)
  · simpa [hi] using h
set_option maxRecDepth 65536 in
theorem w_c0 : (Jvm.Cond.code x code maxLocals ret).before args0 about1 = true := code_word (m := ⟨1, 1⟩) (meth := k1m1) (c := k1c1) (by decide +kernel) rfl rfl rfl (by decide +kernel)
set_option maxRecDepth 65536 in
theorem w_c1 : (Jvm.Cond.code ({ cls := "java/lang/String", name := "<init>", desc := "([C)V" } : Jvm.MethodName) jdk_42_method_3_code (2 : Nat) (Option.none : Option Jvm.ClassFile.FieldType)).before args0 about1 = true := code_word (m := ⟨7, 1⟩) (meth := k7m1) (c := k7c1) (by decide +kernel) rfl rfl rfl (by decide +kernel)
set_option maxRecDepth 65536 in
theorem w_c2 : (Jvm.Cond.code ({ cls := "java/lang/String", name := "<init>", desc := "([CIILjava/lang/Void;)V" } : Jvm.MethodName) jdk_42_method_149_code (6 : Nat) (Option.none : Option Jvm.ClassFile.FieldType)).before args0 about1 = true := code_word (m := ⟨7, 2⟩) (meth := k7m2) (c := k7c2) (by decide +kernel) rfl rfl rfl (by decide +kernel)
set_option maxRecDepth 65536 in
theorem w_c3 : (Jvm.Cond.code ({ cls := "java/lang/Object", name := "<init>", desc := "()V" } : Jvm.MethodName) object_method_1_code (1 : Nat) (Option.none : Option Jvm.ClassFile.FieldType)).before args0 about1 = true := code_word (m := ⟨0, 0⟩) (meth := k0m0) (c := k0c0) (by decide +kernel) rfl rfl rfl (by decide +kernel)
set_option maxRecDepth 65536 in
theorem w_c4 : (Jvm.Cond.code ({ cls := "java/lang/StringUTF16", name := "compress", desc := "([CII)[B" } : Jvm.MethodName) jdk_52_method_16_code (6 : Nat) (Option.some (Jvm.ClassFile.FieldType.array Jvm.ClassFile.FieldType.byte))).before args0 about1 = true := code_word (m := ⟨8, 2⟩) (meth := k8m2) (c := k8c2) (by decide +kernel) rfl rfl rfl (by decide +kernel)
set_option maxRecDepth 65536 in
theorem w_c5 : (Jvm.Cond.code ({ cls := "java/lang/StringUTF16", name := "compress", desc := "([CI[BII)I" } : Jvm.MethodName) jdk_52_method_21_code (7 : Nat) (Option.some Jvm.ClassFile.FieldType.int)).before args0 about1 = true := code_word (m := ⟨8, 3⟩) (meth := k8m3) (c := k8c3) (by decide +kernel) rfl rfl rfl (by decide +kernel)
set_option maxRecDepth 65536 in
theorem w_c6 : (Jvm.Cond.code ({ cls := "java/lang/StringUTF16", name := "coderFromArrayLen", desc := "([BI)B" } : Jvm.MethodName) jdk_52_method_15_code (2 : Nat) (Option.some Jvm.ClassFile.FieldType.byte)).before args0 about1 = true := code_word (m := ⟨8, 1⟩) (meth := k8m1) (c := k8c1) (by decide +kernel) rfl rfl rfl (by decide +kernel)
set_option maxRecDepth 65536 in
theorem w_c7 : (Jvm.Cond.code ({ cls := "com/example/careful_ledger/carefulledger/json/PlainLine", name := "<init>", desc := "()V" } : Jvm.MethodName) prog_58_method_1_code (1 : Nat) (Option.none : Option Jvm.ClassFile.FieldType)).before args0 about1 = true := code_word (m := ⟨9, 0⟩) (meth := k9m0) (c := k9c0) (by decide +kernel) rfl rfl rfl (by decide +kernel)
set_option maxRecDepth 65536 in
theorem w_c8 : (Jvm.Cond.code ({ cls := "java/text/ParsePosition", name := "<init>", desc := "(I)V" } : Jvm.MethodName) jdk_2306_method_3_code (2 : Nat) (Option.none : Option Jvm.ClassFile.FieldType)).before args0 about1 = true := code_word (m := ⟨10, 0⟩) (meth := k10m0) (c := k10c0) (by decide +kernel) rfl rfl rfl (by decide +kernel)
set_option maxRecDepth 65536 in
theorem w_c9 : (Jvm.Cond.code ({ cls := "com/example/careful_ledger/carefulledger/json/PlainLine", name := "reset", desc := "([BII)V" } : Jvm.MethodName) prog_58_method_2_code (4 : Nat) (Option.none : Option Jvm.ClassFile.FieldType)).before args0 about1 = true := code_word (m := ⟨9, 1⟩) (meth := k9m1) (c := k9c1) (by decide +kernel) rfl rfl rfl (by decide +kernel)
set_option maxRecDepth 65536 in
theorem w_c10 : (Jvm.Cond.code ({ cls := "com/example/careful_ledger/carefulledger/json/PlainLine", name := "beginShape", desc := "()V" } : Jvm.MethodName) prog_58_method_5_code (1 : Nat) (Option.none : Option Jvm.ClassFile.FieldType)).before args0 about1 = true := code_word (m := ⟨9, 3⟩) (meth := k9m3) (c := k9c3) (by decide +kernel) rfl rfl rfl (by decide +kernel)
set_option maxRecDepth 65536 in
theorem w_c11 : (Jvm.Cond.code ({ cls := "com/example/careful_ledger/carefulledger/json/PlainLine", name := "moveTo", desc := "(I)V" } : Jvm.MethodName) prog_58_method_4_code (2 : Nat) (Option.none : Option Jvm.ClassFile.FieldType)).before args0 about1 = true := code_word (m := ⟨9, 2⟩) (meth := k9m2) (c := k9c2) (by decide +kernel) rfl rfl rfl (by decide +kernel)
set_option maxRecDepth 65536 in
theorem w_c12 : (Jvm.Cond.code ({ cls := "com/example/careful_ledger/carefulledger/json/PlainLine", name := "endShape", desc := "(Ljava/lang/Object;)V" } : Jvm.MethodName) prog_58_method_8_code (2 : Nat) (Option.none : Option Jvm.ClassFile.FieldType)).before args0 about1 = true := code_word (m := ⟨9, 6⟩) (meth := k9m6) (c := k9c6) (by decide +kernel) rfl rfl rfl (by decide +kernel)
set_option maxRecDepth 65536 in
theorem w_c13 : (Jvm.Cond.code ({ cls := "com/example/careful_ledger/carefulledger/json/PlainLine", name := "endPart", desc := "()V" } : Jvm.MethodName) prog_58_method_12_code (3 : Nat) (Option.none : Option Jvm.ClassFile.FieldType)).before args0 about1 = true := code_word (m := ⟨9, 8⟩) (meth := k9m8) (c := k9c8) (by decide +kernel) rfl rfl rfl (by decide +kernel)
set_option maxRecDepth 65536 in
theorem w_c14 : (Jvm.Cond.code ({ cls := "com/example/careful_ledger/carefulledger/json/PlainLine", name := "shapeValues", desc := "(Ljava/lang/Object;)I" } : Jvm.MethodName) prog_58_method_9_code (2 : Nat) (Option.some Jvm.ClassFile.FieldType.int)).before args0 about1 = true := code_word (m := ⟨9, 7⟩) (meth := k9m7) (c := k9c7) (by decide +kernel) rfl rfl rfl (by decide +kernel)
set_option maxRecDepth 65536 in
theorem w_c15 : (Jvm.Cond.code ({ cls := "com/example/careful_ledger/carefulledger/json/PlainLine", name := "valueComes", desc := "(Ljava/lang/Object;)V" } : Jvm.MethodName) prog_58_method_6_code (2 : Nat) (Option.none : Option Jvm.ClassFile.FieldType)).before args0 about1 = true := code_word (m := ⟨9, 4⟩) (meth := k9m4) (c := k9c4) (by decide +kernel) rfl rfl rfl (by decide +kernel)
set_option maxRecDepth 65536 in
theorem w_c16 : (Jvm.Cond.code ({ cls := "java/lang/Math", name := "max", desc := "(II)I" } : Jvm.MethodName) jdk_29_method_65_code (2 : Nat) (Option.some Jvm.ClassFile.FieldType.int)).before args0 about1 = true := code_word (m := ⟨12, 1⟩) (meth := k12m1) (c := k12c1) (by decide +kernel) rfl rfl rfl (by decide +kernel)
set_option maxRecDepth 65536 in
theorem w_c17 : (Jvm.Cond.code ({ cls := "java/lang/Math", name := "min", desc := "(II)I" } : Jvm.MethodName) jdk_29_method_69_code (2 : Nat) (Option.some Jvm.ClassFile.FieldType.int)).before args0 about1 = true := code_word (m := ⟨12, 2⟩) (meth := k12m2) (c := k12c2) (by decide +kernel) rfl rfl rfl (by decide +kernel)
set_option maxRecDepth 65536 in
theorem w_c18 : (Jvm.Cond.code ({ cls := "java/util/Arrays", name := "copyOf", desc := "([BI)[B" } : Jvm.MethodName) jdk_65_method_121_code (3 : Nat) (Option.some (Jvm.ClassFile.FieldType.array Jvm.ClassFile.FieldType.byte))).before args0 about1 = true := code_word (m := ⟨13, 1⟩) (meth := k13m1) (c := k13c1) (by decide +kernel) rfl rfl rfl (by decide +kernel)
set_option maxRecDepth 65536 in
theorem w_c19 : (Jvm.Cond.code ({ cls := "com/example/careful_ledger/carefulledger/json/PlainLine", name := "valueRead", desc := "()V" } : Jvm.MethodName) prog_58_method_7_code (1 : Nat) (Option.none : Option Jvm.ClassFile.FieldType)).before args0 about1 = true := code_word (m := ⟨9, 5⟩) (meth := k9m5) (c := k9c5) (by decide +kernel) rfl rfl rfl (by decide +kernel)
def codes1 : List Jvm.Cond := [Jvm.Cond.code x code maxLocals ret, Jvm.Cond.code ({ cls := "java/lang/String", name := "<init>", desc := "([C)V" } : Jvm.MethodName) jdk_42_method_3_code (2 : Nat) (Option.none : Option Jvm.ClassFile.FieldType), Jvm.Cond.code ({ cls := "java/lang/String", name := "<init>", desc := "([CIILjava/lang/Void;)V" } : Jvm.MethodName) jdk_42_method_149_code (6 : Nat) (Option.none : Option Jvm.ClassFile.FieldType), Jvm.Cond.code ({ cls := "java/lang/Object", name := "<init>", desc := "()V" } : Jvm.MethodName) object_method_1_code (1 : Nat) (Option.none : Option Jvm.ClassFile.FieldType), Jvm.Cond.code ({ cls := "java/lang/StringUTF16", name := "compress", desc := "([CII)[B" } : Jvm.MethodName) jdk_52_method_16_code (6 : Nat) (Option.some (Jvm.ClassFile.FieldType.array Jvm.ClassFile.FieldType.byte)), Jvm.Cond.code ({ cls := "java/lang/StringUTF16", name := "compress", desc := "([CI[BII)I" } : Jvm.MethodName) jdk_52_method_21_code (7 : Nat) (Option.some Jvm.ClassFile.FieldType.int), Jvm.Cond.code ({ cls := "java/lang/StringUTF16", name := "coderFromArrayLen", desc := "([BI)B" } : Jvm.MethodName) jdk_52_method_15_code (2 : Nat) (Option.some Jvm.ClassFile.FieldType.byte), Jvm.Cond.code ({ cls := "com/example/careful_ledger/carefulledger/json/PlainLine", name := "<init>", desc := "()V" } : Jvm.MethodName) prog_58_method_1_code (1 : Nat) (Option.none : Option Jvm.ClassFile.FieldType), Jvm.Cond.code ({ cls := "java/text/ParsePosition", name := "<init>", desc := "(I)V" } : Jvm.MethodName) jdk_2306_method_3_code (2 : Nat) (Option.none : Option Jvm.ClassFile.FieldType), Jvm.Cond.code ({ cls := "com/example/careful_ledger/carefulledger/json/PlainLine", name := "reset", desc := "([BII)V" } : Jvm.MethodName) prog_58_method_2_code (4 : Nat) (Option.none : Option Jvm.ClassFile.FieldType), Jvm.Cond.code ({ cls := "com/example/careful_ledger/carefulledger/json/PlainLine", name := "beginShape", desc := "()V" } : Jvm.MethodName) prog_58_method_5_code (1 : Nat) (Option.none : Option Jvm.ClassFile.FieldType), Jvm.Cond.code ({ cls := "com/example/careful_ledger/carefulledger/json/PlainLine", name := "moveTo", desc := "(I)V" } : Jvm.MethodName) prog_58_method_4_code (2 : Nat) (Option.none : Option Jvm.ClassFile.FieldType), Jvm.Cond.code ({ cls := "com/example/careful_ledger/carefulledger/json/PlainLine", name := "endShape", desc := "(Ljava/lang/Object;)V" } : Jvm.MethodName) prog_58_method_8_code (2 : Nat) (Option.none : Option Jvm.ClassFile.FieldType), Jvm.Cond.code ({ cls := "com/example/careful_ledger/carefulledger/json/PlainLine", name := "endPart", desc := "()V" } : Jvm.MethodName) prog_58_method_12_code (3 : Nat) (Option.none : Option Jvm.ClassFile.FieldType), Jvm.Cond.code ({ cls := "com/example/careful_ledger/carefulledger/json/PlainLine", name := "shapeValues", desc := "(Ljava/lang/Object;)I" } : Jvm.MethodName) prog_58_method_9_code (2 : Nat) (Option.some Jvm.ClassFile.FieldType.int), Jvm.Cond.code ({ cls := "com/example/careful_ledger/carefulledger/json/PlainLine", name := "valueComes", desc := "(Ljava/lang/Object;)V" } : Jvm.MethodName) prog_58_method_6_code (2 : Nat) (Option.none : Option Jvm.ClassFile.FieldType), Jvm.Cond.code ({ cls := "java/lang/Math", name := "max", desc := "(II)I" } : Jvm.MethodName) jdk_29_method_65_code (2 : Nat) (Option.some Jvm.ClassFile.FieldType.int), Jvm.Cond.code ({ cls := "java/lang/Math", name := "min", desc := "(II)I" } : Jvm.MethodName) jdk_29_method_69_code (2 : Nat) (Option.some Jvm.ClassFile.FieldType.int), Jvm.Cond.code ({ cls := "java/util/Arrays", name := "copyOf", desc := "([BI)[B" } : Jvm.MethodName) jdk_65_method_121_code (3 : Nat) (Option.some (Jvm.ClassFile.FieldType.array Jvm.ClassFile.FieldType.byte)), Jvm.Cond.code ({ cls := "com/example/careful_ledger/carefulledger/json/PlainLine", name := "valueRead", desc := "()V" } : Jvm.MethodName) prog_58_method_7_code (1 : Nat) (Option.none : Option Jvm.ClassFile.FieldType)]
set_option maxRecDepth 65536 in
theorem codes_eq : words1.filter isCode = codes1 := rfl
theorem w_codes : ∀ c ∈ words1.filter isCode, c.before args0 about1 = true := by
  rw [codes_eq]
  intro c hc
  simp only [codes1, List.mem_cons, List.not_mem_nil, or_false] at hc
  rcases hc with rfl | rfl | rfl | rfl | rfl | rfl | rfl | rfl | rfl | rfl | rfl | rfl | rfl | rfl | rfl | rfl | rfl | rfl | rfl | rfl
  · exact w_c0
  · exact w_c1
  · exact w_c2
  · exact w_c3
  · exact w_c4
  · exact w_c5
  · exact w_c6
  · exact w_c7
  · exact w_c8
  · exact w_c9
  · exact w_c10
  · exact w_c11
  · exact w_c12
  · exact w_c13
  · exact w_c14
  · exact w_c15
  · exact w_c16
  · exact w_c17
  · exact w_c18
  · exact w_c19
set_option maxRecDepth 65536 in
theorem w_t1 : (words1.take 24).all (fun c => isCode c || c.before args0 about1) = true := by decide +kernel
set_option maxRecDepth 65536 in
theorem w_t2 : ((words1.drop 24).take 24).all (fun c => isCode c || c.before args0 about1) = true := by decide +kernel
set_option maxRecDepth 65536 in
theorem w_t3 : (((words1.drop 24).drop 24).take 24).all (fun c => isCode c || c.before args0 about1) = true := by decide +kernel
set_option maxRecDepth 65536 in
theorem w_t4 : ((((words1.drop 24).drop 24).drop 24).take 24).all (fun c => isCode c || c.before args0 about1) = true := by decide +kernel
set_option maxRecDepth 65536 in
theorem w_t5 : (((((words1.drop 24).drop 24).drop 24).drop 24).take 24).all (fun c => isCode c || c.before args0 about1) = true := by decide +kernel
set_option maxRecDepth 65536 in
theorem w_t6 : (((((words1.drop 24).drop 24).drop 24).drop 24).drop 24).all (fun c => isCode c || c.before args0 about1) = true := by decide +kernel
theorem w_tables : (allAtoms (Jvm.Cond.code x code maxLocals ret :: tables_1)).before args0 about1 = true := by
  rw [allAtoms_all]
  show words1.all (fun c => c.before args0 about1) = true
  refine all_split ?_ w_codes
  rw [← List.take_append_drop 24 words1, List.all_append, w_t1, ← List.take_append_drop 24 (words1.drop 24), List.all_append, w_t2, ← List.take_append_drop 24 ((words1.drop 24).drop 24), List.all_append, w_t3, ← List.take_append_drop 24 (((words1.drop 24).drop 24).drop 24), List.all_append, w_t4, ← List.take_append_drop 24 ((((words1.drop 24).drop 24).drop 24).drop 24), List.all_append, w_t5, w_t6]
  rfl
set_option maxRecDepth 65536 in
theorem w_rest : rest_1_c.before args0 about1 = true := by decide +kernel
set_option maxRecDepth 65536 in
theorem w_case : (Jvm.Cond.and given_1 narrow_1).before args0 about1 = true := by decide +kernel
theorem w_applies : (headSpec (Jvm.Cond.code x code maxLocals ret :: tables_1) room_1).applies x e0.platform about1 = true :=
  (Spec.applies_iff w_frames).mpr ⟨w_running, w_runnable, w_alone, w_named, w_hears, w_ripe, w_room, w_tables⟩
theorem atStart : AtStart classFile x code maxLocals ret World_1 tables_1 room_1 Calls_1 rest_1 Pre_1 launch0 p0 e0 about1 theMethod args0 below0 :=
  ⟨lists_1, trivial, launch0.admits_env _ _ _, launch0.least_env, fairChoices_fair.cas, fairChoices_fair.clock, w_frames, w_args, w_heap, w_applies, trivial, w_rest, w_case⟩
end start1
theorem witness_1 : WitnessClaimed_1 := ⟨start1.p0, start1.e0, start1.about1, start1.theMethod, start1.args0, start1.below0, start1.atStart⟩
end Jvm.Pilot.@@N@@
