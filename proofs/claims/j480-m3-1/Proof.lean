import JvmDerived
import JvmDerived.Pilot.@@N@@Statement
import JvmDerived.Pilot.@@N@@Code
set_option linter.unusedVariables false
set_option linter.unusedSimpArgs false
namespace Jvm.RoadKit
open Sem ClassFile Op Lib Jvm.Stand Jvm.Free Jvm.LawKit
section New
variable {p : Program} {l : Launch} {e : Env} {R : Room} {s : State} {m : MethodId} {args : Array Value} {below : List Frame} {meth : Method} {c : Code} {T : State} {locs : List Loc} {cells slots : Nat}
theorem retI (X : Stand p l e R s m args below meth c T locs cells slots) (hx : p.tables.exec = Jvm.exec) {pc : Nat} {Ls : Array Slot} {z : Int32} {rest : List Value} (hret : meth.sig.returnType = some .int) (hd : decode c.code pc = .ok (.ireturn, 1)) {fs : List Frame}
    (hl : ∀ (f : JFrame) (acts : List Action), f.method = m → f.locked = none → f.entered = [] → (doReturn e (T.setTop f) acts (some (.int z))).1 = T.setFrames fs) : Steps p.tables e below (T.setTop (mkF m pc Ls (.int z :: rest))) (T.setFrames fs) := by
  have hm' : T.vm.method? m = some meth := X.method'
  have hn : narrow .int (.int z) = .int z := rfl
  show Steps p.tables e below (T.setTop { method := m, pc := pc, locals := Ls, stack := _ :: rest, locked := none }) _
  jvm_step X.here [X.here.top, hx, hd, hm', hret, hn]
  first | (intro acts; rw [hl _ acts rfl rfl rfl]) | rw [hl _ _ rfl rfl rfl]
  exact Steps.refl _
end New
end Jvm.RoadKit
/- laws to paste: Road.backV (cut by pick.py; bodies as the Statement names them) -/
namespace Jvm.Pilot.@@N@@
namespace StrChars
open Jvm Sem ClassFile Op Lib Jvm.Stand Jvm.Free.XT Jvm.Free.ALB Jvm.Free.JM Jvm.Free
open Jvm.Lib.Cold (StaticIs)
/-- a char array whose places are chars -/
def Ch (a : Addr) (A : Cell) (U : State) : Prop := Arr .char a A U ∧ Typed .char A
theorem Ch.mv {a : Addr} {A : Cell} {U U' : State} (h : Ch a A U) (hal : U.vm.Alike U'.vm) (hh : U'.heap = U.heap) : Ch a A U' := ⟨h.1.mv hal hh, h.2⟩
theorem Ch.keep {a : Addr} {A : Cell} {U U' : State} (h : Ch a A U) (hal : U.vm.Alike U'.vm) (hk : U'.heap[a]? = some A) : Ch a A U' := ⟨h.1.keep hal hk, h.2⟩
/-- what place i of a char[]'s cell holds -/
def cv (A : Cell) (i : Nat) : Int32 := match A.slots[i]? with | some (.int x) => x | _ => 0
theorem Ch.get {a : Addr} {A : Cell} {U : State} (h : Ch a A U) {i : Nat} (hi : i < A.slots.size) : A.slots[i]? = some (.int (cv A i)) := by
  have e := Array.getElem?_eq_getElem hi
  have f := h.2 i _ e
  unfold cv; rw [e]
  generalize A.slots[i] = v at f
  cases v <;> simp [fits] at f ⊢
/-- the byte that i2b leaves of a char -/
def lo8 (x : Int32) : Int32 := x.toInt8.toInt32
theorem fits_lo8 (y : Int32) : fits .byte (.int (lo8 y)) = true := by
  have h1 := y.toInt8.le_toInt
  have h2 := y.toInt8.toInt_lt
  simp only [lo8, fits, Bool.and_eq_true, decide_eq_true_eq, Int32.le_iff_toInt_le, Int8.toInt_toInt32, show (-128 : Int32).toInt = -128 from by decide, show (127 : Int32).toInt = 127 from by decide]
  omega
/-- A' is A but that each place j of lo .. hi - 1 holds f j -/
def Laid (A A' : Cell) (lo hi : Nat) (f : Nat → Value) : Prop := A'.cls = A.cls ∧ A'.vm = A.vm ∧ A'.slots.size = A.slots.size ∧ ∀ i, A'.slots[i]? = if lo ≤ i ∧ i < hi then some (f i) else A.slots[i]?
theorem Laid.zero (A : Cell) (lo : Nat) (f : Nat → Value) : Laid A A lo (lo + 0) f := ⟨rfl, rfl, rfl, fun i => by rw [if_neg (by omega)]⟩
theorem Laid.step {A Ak : Cell} {lo k : Nat} {f : Nat → Value} {v : Value} (h : Laid A Ak lo k f) (hlo : lo ≤ k) (hk : k < Ak.slots.size) (hv : v = f k) : Laid A (Ak.setSlot k v) lo (k + 1) f := by
  refine ⟨h.1, h.2.1, by simpa [Cell.setSlot] using h.2.2.1, fun i => ?_⟩
  by_cases e : k = i
  · subst e; rw [Cell.slots_setSlot_self v hk, if_pos (by omega), hv]
  · rw [Cell.slots_setSlot_ne v e, h.2.2.2 i]
    by_cases q : lo ≤ i ∧ i < k
    · rw [if_pos q, if_pos (by omega)]
    · rw [if_neg q, if_neg (by omega)]
def U16 : String := "java/lang/StringUTF16"
namespace Cmp5
def yN : MethodName := ⟨"java/lang/StringUTF16", "compress", "([CI[BII)I"⟩
abbrev yB : ByteArray := jdk_52_method_21_code
theorem d0 : decode yB 0 = .ok (.iconst 0, 1) := by decide +kernel
theorem d1 : decode yB 1 = .ok (.istore 5, 2) := by decide +kernel
theorem d3 : decode yB 3 = .ok (.iload 5, 2) := by decide +kernel
theorem d5 : decode yB 5 = .ok (.iload 4, 2) := by decide +kernel
theorem d7 : decode yB 7 = .ok (.if_icmp (.ge) 37, 3) := by decide +kernel
theorem d10 : decode yB 10 = .ok (.aload_n 0, 1) := by decide +kernel
theorem d11 : decode yB 11 = .ok (.iload_n 1, 1) := by decide +kernel
theorem d12 : decode yB 12 = .ok (.caload, 1) := by decide +kernel
theorem d13 : decode yB 13 = .ok (.istore 6, 2) := by decide +kernel
theorem d15 : decode yB 15 = .ok (.iload 6, 2) := by decide +kernel
theorem d17 : decode yB 17 = .ok (.sipush 255, 3) := by decide +kernel
theorem d20 : decode yB 20 = .ok (.if_icmp (.le) 6, 3) := by decide +kernel
theorem d26 : decode yB 26 = .ok (.aload_n 2, 1) := by decide +kernel
theorem d27 : decode yB 27 = .ok (.iload_n 3, 1) := by decide +kernel
theorem d28 : decode yB 28 = .ok (.iload 6, 2) := by decide +kernel
theorem d30 : decode yB 30 = .ok (.i2b, 1) := by decide +kernel
theorem d31 : decode yB 31 = .ok (.bastore, 1) := by decide +kernel
theorem d32 : decode yB 32 = .ok (.iinc 1 1, 3) := by decide +kernel
theorem d35 : decode yB 35 = .ok (.iinc 3 1, 3) := by decide +kernel
theorem d38 : decode yB 38 = .ok (.iinc 5 1, 3) := by decide +kernel
theorem d41 : decode yB 41 = .ok (.goto (-38), 3) := by decide +kernel
theorem d44 : decode yB 44 = .ok (.iload 4, 2) := by decide +kernel
theorem d46 : decode yB 46 = .ok (.ireturn, 1) := by decide +kernel
def site : List Cond := []
def tab : Cond := tabOf yN yB 7 (some .int) site
def P (b : Addr) (A : Cell) (d : Addr) (B : Cell) (o q len : Nat) (args : Array Value) (s : State) : Prop := args = #[.ref b, .int (Int32.ofNat o), .ref d, .int (Int32.ofNat q), .int (Int32.ofNat len)] ∧ Ch b A s ∧ Arr .byte d B s ∧ b ≠ d ∧ o + len ≤ A.slots.size ∧ q + len ≤ B.slots.size ∧ ∀ i, i < len → ¬ 255 < cv A (o + i)
def E (b : Addr) (A : Cell) (d : Addr) (B : Cell) (o q len : Nat) (r : Option Value) (s u : State) : Prop := r = some (.int (Int32.ofNat len)) ∧ ∃ B', Put d B' s u ∧ Laid B B' q (q + len) (fun j => Value.int (lo8 (cv A (o + (j - q)))))
/-- no char of the range above 255: len; the places written hold each char's low byte -/
theorem law (l : Launch) (b : Addr) (A : Cell) (d : Addr) (B : Cell) (o q len : Nat) : Law l yN 5 5 0 0 yB 7 (some .int) site (P b A d B o q len) (E b A d B o q len) (copyLocs d q len) 0 0 := by
  refine Law.of_walk (plainFor_of_name (by decide +kernel)) (by decide +kernel) (by decide +kernel) (by decide) (fun _ _ h => by rw [h.1]; rfl) (fun _ U U' hal hh h => ⟨h.1, h.2.1.mv hal hh, h.2.2.1.mv hal hh, h.2.2.2⟩) (fun r U U' V V' h1 hal h2 h => ⟨h.1, h.2.elim fun B' q => ⟨B', q.1.mv h1 h2, q.2⟩⟩) ?_
  intro p e s m args below meth c s₁ X0 hexec hbytes hml hret hlk hnm hown hh0 W hP
  obtain ⟨rfl, hA, hB, hne, l1, l2, hp⟩ := hP
  have c1 : Steps p.tables e below (s₁.setTop (entryFrame m #[.ref b, .int (Int32.ofNat o), .ref d, .int (Int32.ofNat q), .int (Int32.ofNat len)] 7)) (s₁.setTop (mkF m 0 #[.val (.ref b), .val (.int (Int32.ofNat o)), .val (.ref d), .val (.int (Int32.ofNat q)), .val (.int (Int32.ofNat len)), .unset, .unset] [])) := entry rfl
  have hA0 := hA.1.mv X0.warmed.alike hh0
  have hB0 := hB.mv X0.warmed.alike hh0
  have a31 := hA.1.2.2.2
  have c2 : Steps p.tables e below (s₁.setTop (entryFrame m #[.ref b, .int (Int32.ofNat o), .ref d, .int (Int32.ofNat q), .int (Int32.ofNat len)] 7)) (s₁.setTop (mkF m 3 #[.val (.ref b), .val (.int (Int32.ofNat o)), .val (.ref d), .val (.int (Int32.ofNat q)), .val (.int (Int32.ofNat len)), .val (.int 0), .unset] [])) := c1.trans (by
    refine iconstV X0.here hexec rfl 0 (hb hbytes d0) (by decide) ?_
    refine XS.istore X0.here hexec rfl (hb hbytes d1) rfl rfl ?_
    exact Steps.refl _)
  have loop : ∀ (r i : Nat), i + r = len → ∀ (z : Slot), (z = .unset ∨ ∃ w, z = .val w ∧ w.category = 1) → ∀ (Tl : State) (Bk : Cell), Stand p l e { frames := 0, locals := 0, cells := 0, slots := 0 } s m #[.ref b, .int (Int32.ofNat o), .ref d, .int (Int32.ofNat q), .int (Int32.ofNat len)] below meth c Tl ([] ++ copyLocs d q i) 0 0 → Put d Bk s₁ Tl → Laid B Bk q (q + i) (fun j => Value.int (lo8 (cv A (o + (j - q))))) →
      Steps p.tables e below (s₁.setTop (entryFrame m #[.ref b, .int (Int32.ofNat o), .ref d, .int (Int32.ofNat q), .int (Int32.ofNat len)] 7)) (Tl.setTop (mkF m 3 #[.val (.ref b), .val (.int (Int32.ofNat (o + i))), .val (.ref d), .val (.int (Int32.ofNat (q + i))), .val (.int (Int32.ofNat len)), .val (.int (Int32.ofNat i)), z] [])) → ∃ (T' : State) (B' : Cell) (z' : Slot), Stand p l e { frames := 0, locals := 0, cells := 0, slots := 0 } s m #[.ref b, .int (Int32.ofNat o), .ref d, .int (Int32.ofNat q), .int (Int32.ofNat len)] below meth c T' ([] ++ copyLocs d q len) 0 0 ∧ Put d B' s₁ T' ∧ Laid B B' q (q + len) (fun j => Value.int (lo8 (cv A (o + (j - q))))) ∧
      Steps p.tables e below (s₁.setTop (entryFrame m #[.ref b, .int (Int32.ofNat o), .ref d, .int (Int32.ofNat q), .int (Int32.ofNat len)] 7)) (T'.setTop (mkF m 3 #[.val (.ref b), .val (.int (Int32.ofNat (o + len))), .val (.ref d), .val (.int (Int32.ofNat (q + len))), .val (.int (Int32.ofNat len)), .val (.int (Int32.ofNat len)), z'] [])) := by
    intro r
    induction r with
    | zero =>
      intro i hi z hz Tl Bk Xl pl fl cl
      have hil : i = len := by omega
      rw [hil] at Xl fl cl
      exact ⟨Tl, Bk, z, Xl, pl, fl, cl⟩
    | succ r ih =>
      intro i hi z hz Tl Bk Xl pl fl cl
      have all := X0.warmed.alike.symm.trans Xl.warmed.alike
      have hAl := hA0.keep all (pl.other hne hA0.1)
      have hBk := hB0.like all pl.1 fl.1 fl.2.1 fl.2.2.1
      have hlt : q + i < Bk.slots.size := by rw [fl.2.2.1]; omega
      have c3 : Steps p.tables e below (s₁.setTop (entryFrame m #[.ref b, .int (Int32.ofNat o), .ref d, .int (Int32.ofNat q), .int (Int32.ofNat len)] 7)) (Tl.setTop (mkF m 12 #[.val (.ref b), .val (.int (Int32.ofNat (o + i))), .val (.ref d), .val (.int (Int32.ofNat (q + i))), .val (.int (Int32.ofNat len)), .val (.int (Int32.ofNat i)), z] [.int (Int32.ofNat (o + i)), .ref b])) := cl.trans (by
        refine XS.iload Xl.here hexec rfl (hb hbytes d3) rfl ?_
        refine XS.iload Xl.here hexec rfl (hb hbytes d5) rfl ?_
        refine XS.icmpNo Xl.here hexec rfl (hb hbytes d7) rfl (ii_ge_f (lt32 (by omega) (by omega))) ?_
        refine XS.aloadN Xl.here hexec rfl (hb hbytes d10) rfl rfl ?_
        refine XS.iloadN Xl.here hexec rfl (hb hbytes d11) rfl ?_
        exact Steps.refl _)
      have c4 : Steps p.tables e below (s₁.setTop (entryFrame m #[.ref b, .int (Int32.ofNat o), .ref d, .int (Int32.ofNat q), .int (Int32.ofNat len)] 7)) (Tl.setTop (mkF m 13 #[.val (.ref b), .val (.int (Int32.ofNat (o + i))), .val (.ref d), .val (.int (Int32.ofNat (q + i))), .val (.int (Int32.ofNat len)), .val (.int (Int32.ofNat i)), z] [.int (cv A (o + i))])) := c3.trans (by
        refine Xl.aget hexec hAl rfl (hA.get (i := o + i) (by omega)) rfl rfl (hb hbytes d12) ?_
        exact Steps.refl _)
      have c5 : Steps p.tables e below (s₁.setTop (entryFrame m #[.ref b, .int (Int32.ofNat o), .ref d, .int (Int32.ofNat q), .int (Int32.ofNat len)] 7)) (Tl.setTop (mkF m 15 #[.val (.ref b), .val (.int (Int32.ofNat (o + i))), .val (.ref d), .val (.int (Int32.ofNat (q + i))), .val (.int (Int32.ofNat len)), .val (.int (Int32.ofNat i)), .val (.int (cv A (o + i)))] [])) := c4.trans (by
        refine XS.istoreS Xl.here hexec rfl (hb hbytes d13) rfl rfl hz ?_
        exact Steps.refl _)
      have c6 : Steps p.tables e below (s₁.setTop (entryFrame m #[.ref b, .int (Int32.ofNat o), .ref d, .int (Int32.ofNat q), .int (Int32.ofNat len)] 7)) (Tl.setTop (mkF m 31 #[.val (.ref b), .val (.int (Int32.ofNat (o + i))), .val (.ref d), .val (.int (Int32.ofNat (q + i))), .val (.int (Int32.ofNat len)), .val (.int (Int32.ofNat i)), .val (.int (cv A (o + i)))] [.int (lo8 (cv A (o + i))), .int (Int32.ofNat (q + i)), .ref d])) := c5.trans (by
        refine XS.iload Xl.here hexec rfl (hb hbytes d15) rfl ?_
        refine sipushV Xl.here hexec rfl 255 (hb hbytes d17) (by decide) ?_
        refine XS.icmpYes Xl.here hexec rfl (pc0 := 20) rfl (hb hbytes d20) rfl (ii_le_t (hp i (by omega))) (by decide) rfl ?_
        refine XS.aloadN Xl.here hexec rfl (hb hbytes d26) rfl rfl ?_
        refine XS.iloadN Xl.here hexec rfl (hb hbytes d27) rfl ?_
        refine XS.iload Xl.here hexec rfl (hb hbytes d28) rfl ?_
        refine i2b Xl.here hexec rfl (hb hbytes d30) rfl ?_
        exact Steps.refl _)
      obtain ⟨T7, X7, p7, st7⟩ := Xl.aput hexec hBk rfl hlt rfl (fits_lo8 (cv A (o + i))) (g := (mkF m 31 #[.val (.ref b), .val (.int (Int32.ofNat (o + i))), .val (.ref d), .val (.int (Int32.ofNat (q + i))), .val (.int (Int32.ofNat len)), .val (.int (Int32.ofNat i)), .val (.int (cv A (o + i)))] [.int (lo8 (cv A (o + i))), .int (Int32.ofNat (q + i)), .ref d])) rfl (rest := []) rfl (hb hbytes d31)
      have c8 : Steps p.tables e below (s₁.setTop (entryFrame m #[.ref b, .int (Int32.ofNat o), .ref d, .int (Int32.ofNat q), .int (Int32.ofNat len)] 7)) (T7.setTop (mkF m 32 #[.val (.ref b), .val (.int (Int32.ofNat (o + i))), .val (.ref d), .val (.int (Int32.ofNat (q + i))), .val (.int (Int32.ofNat len)), .val (.int (Int32.ofNat i)), .val (.int (cv A (o + i)))] [])) := c6.trans (st7 _ (Steps.refl _))
      have c9 : Steps p.tables e below (s₁.setTop (entryFrame m #[.ref b, .int (Int32.ofNat o), .ref d, .int (Int32.ofNat q), .int (Int32.ofNat len)] 7)) (T7.setTop (mkF m 3 #[.val (.ref b), .val (.int (Int32.ofNat (o + i) + 1)), .val (.ref d), .val (.int (Int32.ofNat (q + i) + 1)), .val (.int (Int32.ofNat len)), .val (.int (Int32.ofNat i + 1)), .val (.int (cv A (o + i)))] [])) := c8.trans (by
        refine iincV X7.here hexec rfl 1 (hb hbytes d32) (by decide) rfl rfl ?_
        refine iincV X7.here hexec rfl 1 (hb hbytes d35) (by decide) rfl rfl ?_
        refine iincV X7.here hexec rfl 1 (hb hbytes d38) (by decide) rfl rfl ?_
        refine XS.goto X7.here hexec rfl (pc0 := 41) rfl (hb hbytes d41) (by decide) rfl ?_
        exact Steps.refl _)
      have c10 : Steps p.tables e below (s₁.setTop (entryFrame m #[.ref b, .int (Int32.ofNat o), .ref d, .int (Int32.ofNat q), .int (Int32.ofNat len)] 7)) (T7.setTop (mkF m 3 #[.val (.ref b), .val (.int (Int32.ofNat (o + (i + 1)))), .val (.ref d), .val (.int (Int32.ofNat (q + (i + 1)))), .val (.int (Int32.ofNat len)), .val (.int (Int32.ofNat (i + 1))), .val (.int (cv A (o + i)))] [])) := by
        have := c9
        rw [succ32, succ32, succ32] at this
        exact this
      exact ih (i + 1) (by omega) _ (Or.inr ⟨_, rfl, rfl⟩) T7 _ (by rw [copyLocs_step, ← List.append_assoc]; exact X7) (pl.trans p7) (fl.step (by omega) hlt (by simp)) c10
  obtain ⟨T9, B9, z9, X9, p9, f9, g9⟩ := loop len 0 (by omega) .unset (Or.inl rfl) s₁ B (by simpa [copyLocs] using X0) ⟨hB0.1, fun _ _ => rfl, rfl⟩ (Laid.zero _ _ _) c2
  have c11 : Steps p.tables e below (s₁.setTop (entryFrame m #[.ref b, .int (Int32.ofNat o), .ref d, .int (Int32.ofNat q), .int (Int32.ofNat len)] 7)) (T9.setTop (mkF m 46 #[.val (.ref b), .val (.int (Int32.ofNat (o + len))), .val (.ref d), .val (.int (Int32.ofNat (q + len))), .val (.int (Int32.ofNat len)), .val (.int (Int32.ofNat len)), z9] [.int (Int32.ofNat len)])) := g9.trans (by
    refine XS.iload X9.here hexec rfl (hb hbytes d3) rfl ?_
    refine XS.iload X9.here hexec rfl (hb hbytes d5) rfl ?_
    refine XS.icmpYes X9.here hexec rfl (pc0 := 7) rfl (hb hbytes d7) rfl (ii_ge_t (nlt32 (by omega) (Nat.le_refl _))) (by decide) rfl ?_
    refine XS.iload X9.here hexec rfl (hb hbytes d44) rfl ?_
    exact Steps.refl _)
  exact ⟨T9, some (.int (Int32.ofNat len)), _, _, _, X9, by simp, rfl, rfl, (fun h => by cases h), ⟨rfl, B9, p9.from hh0, f9⟩, fun fs hl => c11.trans (X9.ireturnOut hexec hret rfl (Or.inl rfl) (hb hbytes d46) hl)⟩
end Cmp5
namespace Cmp3
def yN : MethodName := ⟨"java/lang/StringUTF16", "compress", "([CII)[B"⟩
abbrev yB : ByteArray := jdk_52_method_16_code
theorem d0 : decode yB 0 = .ok (.iload_n 2, 1) := by decide +kernel
theorem d1 : decode yB 1 = .ok (.newarray .byte, 2) := by decide +kernel
theorem d3 : decode yB 3 = .ok (.astore_n 3, 1) := by decide +kernel
theorem d4 : decode yB 4 = .ok (.aload_n 0, 1) := by decide +kernel
theorem d5 : decode yB 5 = .ok (.iload_n 1, 1) := by decide +kernel
theorem d6 : decode yB 6 = .ok (.aload_n 3, 1) := by decide +kernel
theorem d7 : decode yB 7 = .ok (.iconst 0, 1) := by decide +kernel
theorem d8 : decode yB 8 = .ok (.iload_n 2, 1) := by decide +kernel
theorem d9 : decode yB 9 = .ok (.invokestatic 115, 3) := by decide +kernel
theorem d12 : decode yB 12 = .ok (.istore 4, 2) := by decide +kernel
theorem d14 : decode yB 14 = .ok (.iload 4, 2) := by decide +kernel
theorem d16 : decode yB 16 = .ok (.iload_n 2, 1) := by decide +kernel
theorem d17 : decode yB 17 = .ok (.if_icmp (.eq) 40, 3) := by decide +kernel
theorem d57 : decode yB 57 = .ok (.aload_n 3, 1) := by decide +kernel
theorem d58 : decode yB 58 = .ok (.areturn, 1) := by decide +kernel
def site : List Cond := [.arrayClass .byte, Cmp5.tab] ++ staticW U16 115 Cmp5.yN
def tab : Cond := tabOf yN yB 6 (some (.array .byte)) site
def P (b : Addr) (A : Cell) (o len : Nat) (args : Array Value) (s : State) : Prop := args = #[.ref b, .int (Int32.ofNat o), .int (Int32.ofNat len)] ∧ Ch b A s ∧ o + len ≤ A.slots.size ∧ len ≤ 536870912 ∧ ∀ i, i < len → ¬ 255 < cv A (o + i)
def E (b : Addr) (A : Cell) (o len : Nat) (r : Option Value) (s u : State) : Prop := NewArr .byte "[B" len (fun j => .int (lo8 (cv A (o + j)))) r s u ∧ u.heap.size = s.heap.size + 1
/-- no char of the range above 255: a new byte[] of their low bytes -/
theorem law (l : Launch) (b : Addr) (A : Cell) (o len : Nat) : Law l yN 3 3 1 18 yB 6 (some (.array .byte)) site (P b A o len) (E b A o len) [] 1 len := by
  refine Law.of_walk (plainFor_of_name (by decide +kernel)) (by decide +kernel) (by decide +kernel) (by decide) (fun _ _ h => by rw [h.1]; rfl) (fun _ U U' hal hh h => ⟨h.1, h.2.1.mv hal hh, h.2.2⟩) (fun r U U' V V' h1 hal h2 h => ⟨NewArr.mv r U U' V V' h1 hal h2 h.1, by rw [h1, h2]; exact h.2⟩) ?_
  intro p e s m args below meth c s₁ X0 hexec hbytes hml hret hlk hnm hown hh0 W hP
  obtain ⟨rfl, hA, l1, l2, hp⟩ := hP
  have a31 := hA.1.2.2.2
  have c1 : Steps p.tables e below (s₁.setTop (entryFrame m #[.ref b, .int (Int32.ofNat o), .int (Int32.ofNat len)] 6)) (s₁.setTop (mkF m 0 #[.val (.ref b), .val (.int (Int32.ofNat o)), .val (.int (Int32.ofNat len)), .unset, .unset, .unset] [])) := entry rfl
  have c2 : Steps p.tables e below (s₁.setTop (entryFrame m #[.ref b, .int (Int32.ofNat o), .int (Int32.ofNat len)] 6)) (s₁.setTop (mkF m 1 #[.val (.ref b), .val (.int (Int32.ofNat o)), .val (.int (Int32.ofNat len)), .unset, .unset, .unset] [.int (Int32.ofNat len)])) := c1.trans (by
    refine XS.iloadN X0.here hexec rfl (hb hbytes d0) rfl ?_
    exact Steps.refl _)
  obtain ⟨T3, B3, X3, ba3, bs3, bv3, bh3, bf3, st3⟩ := X0.anew hexec (atype := .byte) (wk W (.arrayClass .byte)) rfl (by show len * 1 ≤ _; omega) (by omega) (g := (mkF m 1 #[.val (.ref b), .val (.int (Int32.ofNat o)), .val (.int (Int32.ofNat len)), .unset, .unset, .unset] [.int (Int32.ofNat len)])) rfl (hb hbytes d1) (rest := []) rfl (Nat.le_refl _) (by show 0 + len ≤ len; omega)
  rw [hh0] at ba3 st3
  have kp3 : XT.Kept s T3 := (XT.Kept.of_eq hh0).push bh3
  have hA3 := hA.keep X3.warmed.alike (kp3 _ _ hA.1.1)
  have hne : b ≠ s.heap.size := hA.1.ne
  have c4 : Steps p.tables e below (s₁.setTop (entryFrame m #[.ref b, .int (Int32.ofNat o), .int (Int32.ofNat len)] 6)) (T3.setTop (mkF m 3 #[.val (.ref b), .val (.int (Int32.ofNat o)), .val (.int (Int32.ofNat len)), .unset, .unset, .unset] [.ref s.heap.size])) := c2.trans (st3 _ (Steps.refl _))
  have c5 : Steps p.tables e below (s₁.setTop (entryFrame m #[.ref b, .int (Int32.ofNat o), .int (Int32.ofNat len)] 6)) (T3.setTop (mkF m 9 #[.val (.ref b), .val (.int (Int32.ofNat o)), .val (.int (Int32.ofNat len)), .val (.ref s.heap.size), .unset, .unset] [.int (Int32.ofNat len), .int 0, .ref s.heap.size, .int (Int32.ofNat o), .ref b])) := c4.trans (by
    refine XS.astoreN X3.here hexec rfl (hb hbytes d3) rfl rfl rfl ?_
    refine XS.aloadN X3.here hexec rfl (hb hbytes d4) rfl rfl ?_
    refine XS.iloadN X3.here hexec rfl (hb hbytes d5) rfl ?_
    refine XS.aloadN X3.here hexec rfl (hb hbytes d6) rfl rfl ?_
    refine iconstV X3.here hexec rfl 0 (hb hbytes d7) (by decide) ?_
    refine XS.iloadN X3.here hexec rfl (hb hbytes d8) rfl ?_
    exact Steps.refl _)
  obtain ⟨v6, T6, X6, E6, g6⟩ := X3.callS hexec (Cmp5.law l b A s.heap.size B3 o 0 len) hown (wks W (staticW U16 115 Cmp5.yN)) (wk W Cmp5.tab) (W := 0) (Nat.le_of_ble_eq_true rfl) (Nat.le_of_ble_eq_true rfl) (Nat.le_refl _) (by show 0 + len + 0 ≤ len; omega) (g := (mkF m 9 #[.val (.ref b), .val (.int (Int32.ofNat o)), .val (.int (Int32.ofNat len)), .val (.ref s.heap.size), .unset, .unset] [.int (Int32.ofNat len), .int (Int32.ofNat 0), .ref s.heap.size, .int (Int32.ofNat o), .ref b])) rfl (by rw [hml]; rfl) c5 (argsL := [.ref b, .int (Int32.ofNat o), .ref s.heap.size, .int (Int32.ofNat 0), .int (Int32.ofNat len)]) (rest := []) rfl rfl (by show 2 * 0 + 0 ≤ _; decide) (hb hbytes d9) (⟨rfl, hA3, ba3, hne, l1, by rw [bs3]; simp, hp⟩)
  obtain ⟨rfl, B6, p6, f6⟩ := E6
  have c7 : Steps p.tables e below (s₁.setTop (entryFrame m #[.ref b, .int (Int32.ofNat o), .int (Int32.ofNat len)] 6)) (T6.setTop (mkF m 12 #[.val (.ref b), .val (.int (Int32.ofNat o)), .val (.int (Int32.ofNat len)), .val (.ref s.heap.size), .unset, .unset] [.int (Int32.ofNat len)])) := g6
  have c8 : Steps p.tables e below (s₁.setTop (entryFrame m #[.ref b, .int (Int32.ofNat o), .int (Int32.ofNat len)] 6)) (T6.setTop (mkF m 58 #[.val (.ref b), .val (.int (Int32.ofNat o)), .val (.int (Int32.ofNat len)), .val (.ref s.heap.size), .val (.int (Int32.ofNat len)), .unset] [.ref s.heap.size])) := c7.trans (by
    refine XS.istore X6.here hexec rfl (hb hbytes d12) rfl rfl ?_
    refine XS.iload X6.here hexec rfl (hb hbytes d14) rfl ?_
    refine XS.iloadN X6.here hexec rfl (hb hbytes d16) rfl ?_
    refine XS.icmpYes X6.here hexec rfl (pc0 := 17) rfl (hb hbytes d17) rfl (ii_eq_t rfl) (by decide) rfl ?_
    refine XS.aloadN X6.here hexec rfl (hb hbytes d57) rfl rfl ?_
    exact Steps.refl _)
  have X8 := X6.wide (L' := []) (cells' := 1) (slots' := len) (fun x hx hlt => by
    simp only [List.nil_append, copyLocs, List.mem_map, List.mem_range] at hx
    obtain ⟨i, -, rfl⟩ := hx
    exact absurd hlt (Nat.lt_irrefl _)) (Nat.le_refl _) (by omega)
  exact ⟨T6, some (.ref s.heap.size), _, _, _, X8, rfl, rfl, rfl, (fun h => by cases h), ⟨⟨rfl, B6, ba3.like (X3.warmed.alike.symm.trans X6.warmed.alike) p6.1 f6.1 f6.2.1 f6.2.2.1, f6.2.1.trans bv3, by rw [X6.warmed.alike.findClass, f6.1]; exact bf3, by rw [f6.2.2.1, bs3]; simp, fun j hj => by rw [f6.2.2.2 j, if_pos (by omega)]; rfl, kp3.put p6 (Nat.le_refl _)⟩, by rw [p6.2.2, bh3, hh0]; simp⟩, fun fs hl => c8.trans (X8.areturnOut hexec rfl hret rfl (hb hbytes d58) hl)⟩
end Cmp3
namespace CodL
def yN : MethodName := ⟨"java/lang/StringUTF16", "coderFromArrayLen", "([BI)B"⟩
abbrev yB : ByteArray := jdk_52_method_15_code
theorem d0 : decode yB 0 = .ok (.iload_n 1, 1) := by decide +kernel
theorem d1 : decode yB 1 = .ok (.aload_n 0, 1) := by decide +kernel
theorem d2 : decode yB 2 = .ok (.arraylength, 1) := by decide +kernel
theorem d3 : decode yB 3 = .ok (.isub, 1) := by decide +kernel
theorem d4 : decode yB 4 = .ok (.bipush 31, 2) := by decide +kernel
theorem d6 : decode yB 6 = .ok (.iushr, 1) := by decide +kernel
theorem d7 : decode yB 7 = .ok (.i2b, 1) := by decide +kernel
theorem d8 : decode yB 8 = .ok (.ireturn, 1) := by decide +kernel
def site : List Cond := []
def tab : Cond := tabOf yN yB 2 (some .byte) site
def P (d : Addr) (B : Cell) (args : Array Value) (s : State) : Prop := args = #[.ref d, .int (Int32.ofNat B.slots.size)] ∧ Arr .byte d B s
def E (r : Option Value) (s u : State) : Prop := XT.PureE (some (.int 0)) r s u
/-- an array as long as the number of chars: LATIN1 -/
theorem law (l : Launch) (d : Addr) (B : Cell) : Law l yN 2 2 0 0 yB 2 (some .byte) site (P d B) E [] 0 0 := by
  refine Law.of_walk (plainFor_of_name (by decide +kernel)) (by decide +kernel) (by decide +kernel) (by decide) (fun _ _ h => by rw [h.1]; rfl) (fun _ U U' hal hh h => ⟨h.1, h.2.mv hal hh⟩) (fun r U U' V V' h1 hal h2 h => XT.PureE.mv r U U' V V' h1 hal h2 h) ?_
  intro p e s m args below meth c s₁ X0 hexec hbytes hml hret hlk hnm hown hh0 W hP
  obtain ⟨rfl, hB⟩ := hP
  have hB0 := hB.mv X0.warmed.alike hh0
  have c1 : Steps p.tables e below (s₁.setTop (entryFrame m #[.ref d, .int (Int32.ofNat B.slots.size)] 2)) (s₁.setTop (mkF m 0 #[.val (.ref d), .val (.int (Int32.ofNat B.slots.size))] [])) := entry rfl
  have c2 : Steps p.tables e below (s₁.setTop (entryFrame m #[.ref d, .int (Int32.ofNat B.slots.size)] 2)) (s₁.setTop (mkF m 2 #[.val (.ref d), .val (.int (Int32.ofNat B.slots.size))] [.ref d, .int (Int32.ofNat B.slots.size)])) := c1.trans (by
    refine XS.iloadN X0.here hexec rfl (hb hbytes d0) rfl ?_
    refine XS.aloadN X0.here hexec rfl (hb hbytes d1) rfl rfl ?_
    exact Steps.refl _)
  have c3 : Steps p.tables e below (s₁.setTop (entryFrame m #[.ref d, .int (Int32.ofNat B.slots.size)] 2)) (s₁.setTop (mkF m 8 #[.val (.ref d), .val (.int (Int32.ofNat B.slots.size))] [.int (lo8 (ushr (Int32.ofNat B.slots.size - Int32.ofNat B.slots.size) 31))])) := c2.trans (by
    refine X0.alen hexec hB0 rfl rfl (hb hbytes d2) ?_
    refine XS.isub X0.here hexec rfl (hb hbytes d3) rfl ?_
    refine bipushV X0.here hexec rfl 31 (hb hbytes d4) (by decide) ?_
    refine iushr X0.here hexec rfl (hb hbytes d6) rfl ?_
    refine i2b X0.here hexec rfl (hb hbytes d7) rfl ?_
    exact Steps.refl _)
  have e0 : lo8 (ushr (Int32.ofNat B.slots.size - Int32.ofNat B.slots.size) 31) = 0 := by rw [Int32.sub_self]; decide
  rw [e0] at c3
  exact ⟨s₁, some (.int 0), _, _, _, X0, rfl, rfl, rfl, (fun h => by cases h), ⟨rfl, hh0⟩, fun fs hl => c3.trans (X0.ireturnOut hexec hret rfl (Or.inr (Or.inr (Or.inl rfl))) (hb hbytes d8) hl)⟩
end CodL
/-- the String at a is Latin-1 over a new byte[] (the heap's one new cell): the low bytes of the len chars of A from o on; every cell but a is kept -/
def Got (a : Addr) (D : Cell) (fV fC : Field) (A : Cell) (o len : Nat) (r : Option Value) (s u : State) : Prop := r = none ∧ ∃ D' V : Cell, Blank "java/lang/String" a D' u ∧ Same D D' [fV.slot, fC.slot] ∧ D'.slots[fV.slot]? = some (.ref s.heap.size) ∧ D'.slots[fC.slot]? = some (.int 0) ∧ Arr .byte s.heap.size V u ∧ V.vm = .none ∧ u.vm.findClass "[B" = some V.cls ∧ V.slots.size = len ∧ (∀ j, j < len → V.slots[j]? = some (.int (lo8 (cv A (o + j))))) ∧ (∀ (y : Addr) (c : Cell), y ≠ a → s.heap[y]? = some c → u.heap[y]? = some c) ∧ u.heap.size = s.heap.size + 1
theorem Got.mv {a : Addr} {D A : Cell} {fV fC : Field} {o len : Nat} : ∀ r (U U' V V' : State), U'.heap = U.heap → V.vm.Alike V'.vm → V'.heap = V.heap → Got a D fV fC A o len r U V → Got a D fV fC A o len r U' V' :=
  fun r U U' V V' h1 hal h2 ⟨e0, D', X, a1, a2, a3, a4, a5, a6, a7, a8, a9, a10, a11⟩ => ⟨e0, D', X, a1.mv hal h2, a2, by rw [h1]; exact a3, a4, by rw [h1]; exact a5.mv hal h2, a6, by rw [hal.findClass]; exact a7, a8, a9, by rw [h1, h2]; exact a10, by rw [h1, h2]; exact a11⟩
namespace New4
def yN : MethodName := ⟨"java/lang/String", "<init>", "([CIILjava/lang/Void;)V"⟩
abbrev yB : ByteArray := jdk_42_method_149_code
theorem d0 : decode yB 0 = .ok (.aload_n 0, 1) := by decide +kernel
theorem d1 : decode yB 1 = .ok (.invokespecial 1, 3) := by decide +kernel
theorem d4 : decode yB 4 = .ok (.iload_n 3, 1) := by decide +kernel
theorem d5 : decode yB 5 = .ok (.ifCond (.ne) 22, 3) := by decide +kernel
theorem d27 : decode yB 27 = .ok (.getstatic 38, 3) := by decide +kernel
theorem d30 : decode yB 30 = .ok (.ifCond (.eq) 28, 3) := by decide +kernel
theorem d33 : decode yB 33 = .ok (.aload_n 1, 1) := by decide +kernel
theorem d34 : decode yB 34 = .ok (.iload_n 2, 1) := by decide +kernel
theorem d35 : decode yB 35 = .ok (.iload_n 3, 1) := by decide +kernel
theorem d36 : decode yB 36 = .ok (.invokestatic 177, 3) := by decide +kernel
theorem d39 : decode yB 39 = .ok (.astore 5, 2) := by decide +kernel
theorem d41 : decode yB 41 = .ok (.aload_n 0, 1) := by decide +kernel
theorem d42 : decode yB 42 = .ok (.aload 5, 2) := by decide +kernel
theorem d44 : decode yB 44 = .ok (.iload_n 3, 1) := by decide +kernel
theorem d45 : decode yB 45 = .ok (.invokestatic 47, 3) := by decide +kernel
theorem d48 : decode yB 48 = .ok (.putfield 15, 3) := by decide +kernel
theorem d51 : decode yB 51 = .ok (.aload_n 0, 1) := by decide +kernel
theorem d52 : decode yB 52 = .ok (.aload 5, 2) := by decide +kernel
theorem d54 : decode yB 54 = .ok (.putfield 9, 3) := by decide +kernel
theorem d57 : decode yB 57 = .ok (.return_, 1) := by decide +kernel
def site : List Cond := [.fieldLink "java/lang/String" 38 "java/lang/String" "COMPACT_STRINGS" "Z", Cmp3.tab, CodL.tab, .laysFinal "java/lang/String" "java/lang/String" "value" "[B", .fieldLink "java/lang/String" 9 "java/lang/String" "value" "[B", .laysFinal "java/lang/String" "java/lang/String" "coder" "B", .fieldLink "java/lang/String" 15 "java/lang/String" "coder" "B"] ++ objW "java/lang/String" 1 ++ staticW "java/lang/String" 177 Cmp3.yN ++ staticW "java/lang/String" 47 CodL.yN
def tab : Cond := tabOf yN yB 6 none site
def P (a : Addr) (D : Cell) (fV fC : Field) (b : Addr) (A : Cell) (z : Int32) (o len : Nat) (args : Array Value) (s : State) : Prop := args = #[.ref a, .ref b, .int (Int32.ofNat o), .int (Int32.ofNat len), .null] ∧ Blank "java/lang/String" a D s ∧ Found "java/lang/String" "value" "[B" fV s ∧ Found "java/lang/String" "coder" "B" fC s ∧ Ch b A s ∧ StaticIs s "java/lang/String" "COMPACT_STRINGS" "Z" (.int z) ∧ ¬ z = 0 ∧ 0 < len ∧ o + len ≤ A.slots.size ∧ len ≤ 536870912 ∧ ∀ i, i < len → ¬ 255 < cv A (o + i)
def E (a : Addr) (D : Cell) (fV fC : Field) (A : Cell) (o len : Nat) (r : Option Value) (s u : State) : Prop := Got a D fV fC A o len r s u
/-- len > 0, no char of the range above 255: a Latin-1 String of their low bytes -/
theorem law (l : Launch) (a : Addr) (D : Cell) (fV fC : Field) (b : Addr) (A : Cell) (z : Int32) (o len : Nat) : Law l yN 5 4 2 35 yB 6 none site (P a D fV fC b A z o len) (E a D fV fC A o len) [⟨a, fC.slot⟩, ⟨a, fV.slot⟩] 1 len := by
  refine Law.of_walk (plainFor_of_name (by decide +kernel)) (by decide +kernel) (by decide +kernel) (by decide) (fun _ _ h => by rw [h.1]; rfl) (fun _ U U' hal hh h => ⟨h.1, h.2.1.mv hal hh, h.2.2.1.al hal, h.2.2.2.1.al hal, h.2.2.2.2.1.mv hal hh, h.2.2.2.2.2.1.there hal hh, h.2.2.2.2.2.2⟩) (fun r U U' V V' h1 hal h2 h => Got.mv r U U' V V' h1 hal h2 h) ?_
  intro p e s m args below meth c s₁ X0 hexec hbytes hml hret hlk hnm hown hh0 W hP
  obtain ⟨rfl, hB, f1, f2, hA, s1, hz, l0, l1, l2, hp⟩ := hP
  have a31 := hA.1.2.2.2
  have c1 : Steps p.tables e below (s₁.setTop (entryFrame m #[.ref a, .ref b, .int (Int32.ofNat o), .int (Int32.ofNat len), .null] 6)) (s₁.setTop (mkF m 0 #[.val (.ref a), .val (.ref b), .val (.int (Int32.ofNat o)), .val (.int (Int32.ofNat len)), .val .null, .unset] [])) := entry rfl
  have c2 : Steps p.tables e below (s₁.setTop (entryFrame m #[.ref a, .ref b, .int (Int32.ofNat o), .int (Int32.ofNat len), .null] 6)) (s₁.setTop (mkF m 1 #[.val (.ref a), .val (.ref b), .val (.int (Int32.ofNat o)), .val (.int (Int32.ofNat len)), .val .null, .unset] [.ref a])) := c1.trans (by
    refine XS.aloadN X0.here hexec rfl (hb hbytes d0) rfl rfl ?_
    exact Steps.refl _)
  obtain ⟨T3, X3, q3, st3⟩ := X0.oinit hexec hown (wks W (objW "java/lang/String" 1)) (g := (mkF m 1 #[.val (.ref a), .val (.ref b), .val (.int (Int32.ofNat o)), .val (.int (Int32.ofNat len)), .val .null, .unset] [.ref a])) rfl (by rw [hml]; rfl) (rest := []) rfl (hb hbytes d1) (W := 0) (by show 2 * 0 + 0 ≤ _; decide) (Nat.le_of_ble_eq_true rfl) (Nat.le_of_ble_eq_true rfl)
  have hh3 := q3.trans hh0
  have c4 : Steps p.tables e below (s₁.setTop (entryFrame m #[.ref a, .ref b, .int (Int32.ofNat o), .int (Int32.ofNat len), .null] 6)) (T3.setTop (mkF m 27 #[.val (.ref a), .val (.ref b), .val (.int (Int32.ofNat o)), .val (.int (Int32.ofNat len)), .val .null, .unset] [])) := (c2.trans (st3 _ (Steps.refl _))).trans (by
    refine XS.iloadN X3.here hexec rfl (hb hbytes d4) rfl ?_
    refine XS.ifYes X3.here hexec rfl (pc0 := 5) rfl (hb hbytes d5) rfl (i0_ne_t (nz32 (by omega) l0)) (by decide) rfl ?_
    exact Steps.refl _)
  obtain ⟨T5, X5, q5, st5⟩ := X3.sget hexec hown (wk W (.fieldLink "java/lang/String" 38 "java/lang/String" "COMPACT_STRINGS" "Z")) s1 (fun _ _ h => by rw [hh3]; exact h) (g := (mkF m 27 #[.val (.ref a), .val (.ref b), .val (.int (Int32.ofNat o)), .val (.int (Int32.ofNat len)), .val .null, .unset] [])) rfl (hb hbytes d27)
  have hh5 := q5.trans hh3
  have c6 : Steps p.tables e below (s₁.setTop (entryFrame m #[.ref a, .ref b, .int (Int32.ofNat o), .int (Int32.ofNat len), .null] 6)) (T5.setTop (mkF m 30 #[.val (.ref a), .val (.ref b), .val (.int (Int32.ofNat o)), .val (.int (Int32.ofNat len)), .val .null, .unset] [.int z])) := c4.trans (st5 _ (Steps.refl _))
  have c7 : Steps p.tables e below (s₁.setTop (entryFrame m #[.ref a, .ref b, .int (Int32.ofNat o), .int (Int32.ofNat len), .null] 6)) (T5.setTop (mkF m 36 #[.val (.ref a), .val (.ref b), .val (.int (Int32.ofNat o)), .val (.int (Int32.ofNat len)), .val .null, .unset] [.int (Int32.ofNat len), .int (Int32.ofNat o), .ref b])) := c6.trans (by
    refine XS.ifNo X5.here hexec rfl (hb hbytes d30) rfl (i0_eq_f hz) ?_
    refine XS.aloadN X5.here hexec rfl (hb hbytes d33) rfl rfl ?_
    refine XS.iloadN X5.here hexec rfl (hb hbytes d34) rfl ?_
    refine XS.iloadN X5.here hexec rfl (hb hbytes d35) rfl ?_
    exact Steps.refl _)
  obtain ⟨v8, T8, X8, E8, g8⟩ := X5.callS hexec (Cmp3.law l b A o len) hown (wks W (staticW "java/lang/String" 177 Cmp3.yN)) (wk W Cmp3.tab) (W := 0) (Nat.le_of_ble_eq_true rfl) (Nat.le_of_ble_eq_true rfl) (Nat.le_refl _) (by show 0 + len ≤ len; omega) (g := (mkF m 36 #[.val (.ref a), .val (.ref b), .val (.int (Int32.ofNat o)), .val (.int (Int32.ofNat len)), .val .null, .unset] [.int (Int32.ofNat len), .int (Int32.ofNat o), .ref b])) rfl (by rw [hml]; rfl) c7 (argsL := [.ref b, .int (Int32.ofNat o), .int (Int32.ofNat len)]) (rest := []) rfl rfl (by show 2 * 0 + 0 ≤ _; decide) (hb hbytes d36) (⟨rfl, hA.mv X5.warmed.alike hh5, l1, l2, hp⟩)
  obtain ⟨e8, z8⟩ := E8
  obtain ⟨rfl, N, n1, n2, n3, n4, n5, n6⟩ := NewArr.mv _ T5 s _ _ hh5.symm (Vm.Alike.refl _) rfl e8
  rw [hh5] at z8
  have hB1 := hB.keep X8.warmed.alike (n6 _ _ hB.1)
  have hne : s.heap.size ≠ a := (Nat.ne_of_lt (Array.getElem?_eq_some_iff.mp hB.1).1).symm
  have c9 : Steps p.tables e below (s₁.setTop (entryFrame m #[.ref a, .ref b, .int (Int32.ofNat o), .int (Int32.ofNat len), .null] 6)) (T8.setTop (mkF m 39 #[.val (.ref a), .val (.ref b), .val (.int (Int32.ofNat o)), .val (.int (Int32.ofNat len)), .val .null, .unset] [.ref s.heap.size])) := g8
  have c10 : Steps p.tables e below (s₁.setTop (entryFrame m #[.ref a, .ref b, .int (Int32.ofNat o), .int (Int32.ofNat len), .null] 6)) (T8.setTop (mkF m 45 #[.val (.ref a), .val (.ref b), .val (.int (Int32.ofNat o)), .val (.int (Int32.ofNat len)), .val .null, .val (.ref s.heap.size)] [.int (Int32.ofNat N.slots.size), .ref s.heap.size, .ref a])) := by
    have hc : Steps p.tables e below (s₁.setTop (entryFrame m #[.ref a, .ref b, .int (Int32.ofNat o), .int (Int32.ofNat len), .null] 6)) (T8.setTop (mkF m 45 #[.val (.ref a), .val (.ref b), .val (.int (Int32.ofNat o)), .val (.int (Int32.ofNat len)), .val .null, .val (.ref s.heap.size)] [.int (Int32.ofNat len), .ref s.heap.size, .ref a])) := c9.trans (by
      refine XS.astore X8.here hexec rfl (hb hbytes d39) rfl rfl rfl ?_
      refine XS.aloadN X8.here hexec rfl (hb hbytes d41) rfl rfl ?_
      refine XS.aload X8.here hexec rfl (hb hbytes d42) rfl rfl ?_
      refine XS.iloadN X8.here hexec rfl (hb hbytes d44) rfl ?_
      exact Steps.refl _)
    rw [n4]; exact hc
  obtain ⟨v11, T11, X11, E11, g11⟩ := X8.callS hexec (CodL.law l s.heap.size N) hown (wks W (staticW "java/lang/String" 47 CodL.yN)) (wk W CodL.tab) (W := 1) (Nat.le_of_ble_eq_true rfl) (Nat.le_of_ble_eq_true rfl) (Nat.le_refl _) (by show 0 + len + 0 ≤ len; omega) (g := (mkF m 45 #[.val (.ref a), .val (.ref b), .val (.int (Int32.ofNat o)), .val (.int (Int32.ofNat len)), .val .null, .val (.ref s.heap.size)] [.int (Int32.ofNat N.slots.size), .ref s.heap.size, .ref a])) rfl (by rw [hml]; rfl) c10 (argsL := [.ref s.heap.size, .int (Int32.ofNat N.slots.size)]) (rest := [.ref a]) rfl rfl (by show 2 * 0 + (1 + 0) ≤ _; decide) (hb hbytes d45) (⟨rfl, n1⟩)
  obtain ⟨rfl, q11⟩ := E11
  have hB11 := hB1.mv (X8.warmed.alike.symm.trans X11.warmed.alike) q11
  have c12 : Steps p.tables e below (s₁.setTop (entryFrame m #[.ref a, .ref b, .int (Int32.ofNat o), .int (Int32.ofNat len), .null] 6)) (T11.setTop (mkF m 48 #[.val (.ref a), .val (.ref b), .val (.int (Int32.ofNat o)), .val (.int (Int32.ofNat len)), .val .null, .val (.ref s.heap.size)] [.int 0, .ref a])) := g11
  obtain ⟨T13, X13, p13, bl13, sl13, st13⟩ := X11.finit hexec hown (wk W (.fieldLink "java/lang/String" 15 "java/lang/String" "coder" "B")) (Or.inr ⟨_, (wk W (.laysFinal "java/lang/String" "java/lang/String" "coder" "B"))⟩) (Or.inl ⟨rfl, hnm⟩) f2 (Or.inl rfl) hB11 (t := .byte) (by decide +kernel) rfl (g := (mkF m 48 #[.val (.ref a), .val (.ref b), .val (.int (Int32.ofNat o)), .val (.int (Int32.ofNat len)), .val .null, .val (.ref s.heap.size)] [.int 0, .ref a])) rfl (rest := []) rfl (hb hbytes d48)
  have c14 : Steps p.tables e below (s₁.setTop (entryFrame m #[.ref a, .ref b, .int (Int32.ofNat o), .int (Int32.ofNat len), .null] 6)) (T13.setTop (mkF m 54 #[.val (.ref a), .val (.ref b), .val (.int (Int32.ofNat o)), .val (.int (Int32.ofNat len)), .val .null, .val (.ref s.heap.size)] [.ref s.heap.size, .ref a])) := (c12.trans (st13 _ (Steps.refl _))).trans (by
    refine XS.aloadN X13.here hexec rfl (hb hbytes d51) rfl rfl ?_
    refine XS.aload X13.here hexec rfl (hb hbytes d52) rfl rfl ?_
    exact Steps.refl _)
  obtain ⟨T15, X15, p15, bl15, sl15, st15⟩ := X13.finit hexec hown (wk W (.fieldLink "java/lang/String" 9 "java/lang/String" "value" "[B")) (Or.inr ⟨_, (wk W (.laysFinal "java/lang/String" "java/lang/String" "value" "[B"))⟩) (Or.inl ⟨rfl, hnm⟩) f1 (Or.inl rfl) bl13 (t := (.array .byte)) (by decide +kernel) rfl (g := (mkF m 54 #[.val (.ref a), .val (.ref b), .val (.int (Int32.ofNat o)), .val (.int (Int32.ofNat len)), .val .null, .val (.ref s.heap.size)] [.ref s.heap.size, .ref a])) rfl (rest := []) rfl (hb hbytes d54)
  have c16 : Steps p.tables e below (s₁.setTop (entryFrame m #[.ref a, .ref b, .int (Int32.ofNat o), .int (Int32.ofNat len), .null] 6)) (T15.setTop (mkF m 57 #[.val (.ref a), .val (.ref b), .val (.int (Int32.ofNat o)), .val (.int (Int32.ofNat len)), .val .null, .val (.ref s.heap.size)] [])) := c14.trans (st15 _ (Steps.refl _))
  have ap := apart (Or.inr ⟨_, (wk W (.laysFinal "java/lang/String" "java/lang/String" "value" "[B"))⟩) (Or.inr ⟨_, (wk W (.laysFinal "java/lang/String" "java/lang/String" "coder" "B"))⟩) f1 f2 (t₁ := .array .byte) (t₂ := .byte) (by decide +kernel) (by decide +kernel) (by decide)
  have al := X8.warmed.alike.symm.trans X15.warmed.alike
  have n7 : T11.heap[s.heap.size]? = some N := by rw [q11]; exact n1.1
  exact ⟨T15, none, _, _, _, X15, by simp, rfl, by omega, (fun _ => rfl), ⟨rfl, _, N, bl15, ((Same.refl D _).set _ (by simp)).set _ (by simp), sl15, (Cell.slots_setSlot_ne _ ap).trans sl13, n1.keep al (p15.other hne (p13.other hne n7)), n2, by rw [al.findClass]; exact n3, n4, n5, fun y c h1 h2 => p15.other h1 (p13.other h1 (by rw [q11]; exact n6 y c h2)), by rw [p15.2.2, p13.2.2, q11]; exact z8⟩, fun fs hl => c16.trans (X15.returnOut hexec hret (hb hbytes d57) hl)⟩
end New4
namespace New1
def yN : MethodName := ⟨"java/lang/String", "<init>", "([C)V"⟩
abbrev yB : ByteArray := jdk_42_method_3_code
theorem d0 : decode yB 0 = .ok (.aload_n 0, 1) := by decide +kernel
theorem d1 : decode yB 1 = .ok (.aload_n 1, 1) := by decide +kernel
theorem d2 : decode yB 2 = .ok (.iconst 0, 1) := by decide +kernel
theorem d3 : decode yB 3 = .ok (.aload_n 1, 1) := by decide +kernel
theorem d4 : decode yB 4 = .ok (.arraylength, 1) := by decide +kernel
theorem d5 : decode yB 5 = .ok (.aconst_null, 1) := by decide +kernel
theorem d6 : decode yB 6 = .ok (.invokespecial 27, 3) := by decide +kernel
theorem d9 : decode yB 9 = .ok (.return_, 1) := by decide +kernel
def site : List Cond := [New4.tab] ++ initW "java/lang/String" 27 New4.yN
def tab : Cond := tabOf yN yB 2 none site
def P (a : Addr) (D : Cell) (fV fC : Field) (b : Addr) (A : Cell) (z : Int32) (args : Array Value) (s : State) : Prop := args = #[.ref a, .ref b] ∧ Blank "java/lang/String" a D s ∧ Found "java/lang/String" "value" "[B" fV s ∧ Found "java/lang/String" "coder" "B" fC s ∧ Ch b A s ∧ StaticIs s "java/lang/String" "COMPACT_STRINGS" "Z" (.int z) ∧ ¬ z = 0 ∧ 0 < A.slots.size ∧ A.slots.size ≤ 536870912 ∧ ∀ i, i < A.slots.size → ¬ 255 < cv A i
def E (a : Addr) (D : Cell) (fV fC : Field) (A : Cell) (r : Option Value) (s u : State) : Prop := Got a D fV fC A 0 A.slots.size r s u
/-- new String(chars), not empty, no char above 255: a Latin-1 String of their low bytes -/
theorem law (l : Launch) (a : Addr) (D : Cell) (fV fC : Field) (b : Addr) (A : Cell) (z : Int32) : Law l yN 2 1 3 52 yB 2 none site (P a D fV fC b A z) (E a D fV fC A) [⟨a, fC.slot⟩, ⟨a, fV.slot⟩] 1 A.slots.size := by
  refine Law.of_walk (plainFor_of_name (by decide +kernel)) (by decide +kernel) (by decide +kernel) (by decide) (fun _ _ h => by rw [h.1]; rfl) (fun _ U U' hal hh h => ⟨h.1, h.2.1.mv hal hh, h.2.2.1.al hal, h.2.2.2.1.al hal, h.2.2.2.2.1.mv hal hh, h.2.2.2.2.2.1.there hal hh, h.2.2.2.2.2.2⟩) (fun r U U' V V' h1 hal h2 h => Got.mv r U U' V V' h1 hal h2 h) ?_
  intro p e s m args below meth c s₁ X0 hexec hbytes hml hret hlk hnm hown hh0 W hP
  obtain ⟨rfl, hB, f1, f2, hA, s1, hz, l0, l2, hp⟩ := hP
  have c1 : Steps p.tables e below (s₁.setTop (entryFrame m #[.ref a, .ref b] 2)) (s₁.setTop (mkF m 0 #[.val (.ref a), .val (.ref b)] [])) := entry rfl
  have c2 : Steps p.tables e below (s₁.setTop (entryFrame m #[.ref a, .ref b] 2)) (s₁.setTop (mkF m 6 #[.val (.ref a), .val (.ref b)] [.null, .int (Int32.ofNat A.slots.size), .int 0, .ref b, .ref a])) := c1.trans (by
    refine XS.aloadN X0.here hexec rfl (hb hbytes d0) rfl rfl ?_
    refine XS.aloadN X0.here hexec rfl (hb hbytes d1) rfl rfl ?_
    refine iconstV X0.here hexec rfl 0 (hb hbytes d2) (by decide) ?_
    refine XS.aloadN X0.here hexec rfl (hb hbytes d3) rfl rfl ?_
    refine X0.alen hexec (hA.1.mv X0.warmed.alike hh0) rfl rfl (hb hbytes d4) ?_
    refine XS.aconstNull X0.here hexec rfl (hb hbytes d5) ?_
    exact Steps.refl _)
  obtain ⟨v3, T3, X3, E3, g3⟩ := X0.callN hexec (New4.law l a D fV fC b A z 0 A.slots.size) rfl hown (wks W (initW "java/lang/String" 27 New4.yN)) (W New4.tab (by simp only [site, List.mem_cons, List.mem_append, true_or, or_true])) (W := 0) (Nat.le_of_ble_eq_true rfl) (Nat.le_of_ble_eq_true rfl) (Nat.le_refl _) (by show 0 + A.slots.size ≤ A.slots.size; omega) (g := (mkF m 6 #[.val (.ref a), .val (.ref b)] [.null, .int (Int32.ofNat A.slots.size), .int (Int32.ofNat 0), .ref b, .ref a])) rfl (by rw [hml]; rfl) c2 (argsL := [.ref b, .int (Int32.ofNat 0), .int (Int32.ofNat A.slots.size), .null]) (rest := []) rfl rfl (by show 2 * 0 + 0 ≤ _; decide) (hb hbytes d6) (⟨rfl, hB.mv X0.warmed.alike hh0, f1.al X0.warmed.alike, f2.al X0.warmed.alike, hA.mv X0.warmed.alike hh0, s1.there X0.warmed.alike hh0, hz, l0, by omega, l2, fun i hi => by rw [Nat.zero_add]; exact hp i hi⟩)
  have e0 := Got.mv _ s₁ s _ _ hh0.symm (Vm.Alike.refl _) rfl E3
  obtain rfl := e0.1
  have c4 : Steps p.tables e below (s₁.setTop (entryFrame m #[.ref a, .ref b] 2)) (T3.setTop (mkF m 9 #[.val (.ref a), .val (.ref b)] [])) := g3
  exact ⟨T3, none, _, _, _, X3, by simp, rfl, by omega, (fun _ => rfl), e0, fun fs hl => c4.trans (X3.returnOut hexec hret (hb hbytes d9) hl)⟩
theorem pays {l : Launch} {R : Room} {p : Program} {e : Env} {below : List Frame} {s : State} {sargs : Array Value} {len W : Nat} (a : Addr) (D : Cell) (fV fC : Field) (b : Addr) (A : Cell) (z : Int32) (htab : tab.before sargs s = true) (hfr : 4 ≤ R.frames) (hlo : W + 65 ≤ R.locals) :
    Back l R p e below s sargs yN len W (fun A₁ a₁ => A₁.cells + 1 ≤ R.cells ∧ A₁.slots + A.slots.size ≤ R.slots ∧ P a D fV fC b A z a₁ A₁.U) (fun A₁ _ v₁ B₁ => E a D fV fC A v₁ A₁.U B₁.U ∧ B₁.locs = A₁.locs ++ [⟨a, fC.slot⟩, ⟨a, fV.slot⟩] ∧ B₁.cells = A₁.cells + 1 ∧ B₁.slots = A₁.slots + A.slots.size) :=
  (law l a D fV fC b A z).pays htab hfr (by omega)
end New1
end StrChars
namespace StrChars.Road
open Jvm Sem ClassFile Op Lib Jvm.Stand Jvm.Free Jvm.Free.XT
open Jvm.Lib.Cold (StaticIs)
abbrev ST : String := "java/lang/String"
/-- every table word that New1's law asks, flat -/
abbrev words : List Jvm.Cond := [.code New1.yN New1.yB 2 none, .initialized ST, .methodLink ST 27 New4.yN, .instanceMethod New4.yN,
  .code New4.yN New4.yB 6 none, .fieldLink ST 38 ST "COMPACT_STRINGS" "Z", .laysFinal ST ST "value" "[B", .fieldLink ST 9 ST "value" "[B", .laysFinal ST ST "coder" "B", .fieldLink ST 15 ST "coder" "B",
  .methodLink ST 1 Lib.objectInit, .instanceMethod Lib.objectInit, .code Lib.objectInit ⟨#[0xb1]⟩ 1 none, .methodLink ST 177 Cmp3.yN, .static Cmp3.yN, .methodLink ST 47 CodL.yN, .static CodL.yN,
  .code Cmp3.yN Cmp3.yB 6 (some (.array .byte)), .initialized U16, .arrayClass .byte, .methodLink U16 115 Cmp5.yN, .static Cmp5.yN, .code Cmp5.yN Cmp5.yB 7 (some .int), .code CodL.yN CodL.yB 2 (some .byte)]
theorem tab_of {a : Array Value} {s : State} (h : ∀ w ∈ words, w.before a s = true) : New1.tab.before a s = true := by
  have h5 : Cmp5.tab.before a s = true := unparts (wk h (.code Cmp5.yN Cmp5.yB 7 (some .int))) (wks h (.initialized Cmp5.yN.cls :: Cmp5.site))
  have hc : CodL.tab.before a s = true := unparts (wk h (.code CodL.yN CodL.yB 2 (some .byte))) (wks h (.initialized CodL.yN.cls :: CodL.site))
  have q5 : ∀ w ∈ Cmp5.tab :: words, w.before a s = true := fun w hw => (List.mem_cons.mp hw).elim (fun e => e ▸ h5) (h w)
  have h3 : Cmp3.tab.before a s = true := unparts (wk q5 (.code Cmp3.yN Cmp3.yB 6 (some (.array .byte)))) (wks q5 (.initialized Cmp3.yN.cls :: Cmp3.site))
  have q3 : ∀ w ∈ Cmp3.tab :: CodL.tab :: words, w.before a s = true := fun w hw => (List.mem_cons.mp hw).elim (fun e => e ▸ h3) fun hw => (List.mem_cons.mp hw).elim (fun e => e ▸ hc) (h w)
  have h4 : New4.tab.before a s = true := unparts (wk q3 (.code New4.yN New4.yB 6 none)) (wks q3 (.initialized New4.yN.cls :: New4.site))
  have q4 : ∀ w ∈ New4.tab :: words, w.before a s = true := fun w hw => (List.mem_cons.mp hw).elim (fun e => e ▸ h4) (h w)
  exact unparts (wk q4 (.code New1.yN New1.yB 2 none)) (wks q4 (.initialized New1.yN.cls :: New1.site))
/-- the words ride from the start Z to the walk's own state -/
theorem moved {Z s : State} {a0 args : Array Value} (hZ : Z.Warmed39 s.vm) (hw : ∀ d ∈ words, d.before a0 Z = true) : ∀ d ∈ words, d.before args s = true := fun d hd => by
  have q := hw d hd
  have t : ∀ d ∈ words, d = .arrayClass .byte ∨ (d.onTables && d.keepsFace) = true := by decide +kernel
  rcases t d hd with rfl | t
  · exact RoadKit.mvA hZ q
  · exact RoadKit.mv hZ q t
/-- WHAT COMES BACK, over the tables of the start Z: h the heap at the call, h' behind it -/
def Q (Z : State) (x : Addr) (A : Cell) (h : Heap) (v : Option Value) (h' : Heap) (L : List Loc) : Prop := v = none ∧ (∀ y ∈ L, y.base = x) ∧ RoadKit.Keep h h' [x] ∧ h'.size = h.size + 1 ∧ RoadKit.Exa Z h' x ST ∧ RoadKit.Fld Z h' x ST "value" "[B" (.ref h.size) ∧ RoadKit.Fld Z h' x ST "coder" "B" (.int 0) ∧
  (∃ V : Cell, RoadKit.Arr Z h' h.size V .byte ∧ V.vm = .none ∧ Z.vm.findClass "[B" = some V.cls ∧ V.slots.size = A.slots.size ∧ ∀ j, j < A.slots.size → V.slots[j]? = some (.int (lo8 (cv A j)))) ∧
  ∀ (O n d : String) (w : Value), RoadKit.Fld Z h x O n d w → RoadKit.slotOf Z O n d ≠ RoadKit.slotOf Z ST "value" "[B" → RoadKit.slotOf Z O n d ≠ RoadKit.slotOf Z ST "coder" "B" → RoadKit.Fld Z h' x O n d w
/-- **new String(chars) AT A CALL, IN THE ROAD'S FORM**: for specialBack behind newO: x the fresh String, b the char[] with the cell A -/
theorem back {p : Program} {l : Launch} {e : Env} {R : Room} {s : State} {args : Array Value} {below : List Frame} {len W : Nat} {Z : State} {a0 : Array Value} {h : Heap} (hZ : Z.Warmed39 s.vm) (hw : ∀ d ∈ words, d.before a0 Z = true) {kI : Nat} (wi : (Jvm.Cond.instantiable ST kI).before a0 Z = true)
    {x b : Addr} {A : Cell} {z : Int32} {v0 c0 : Value} (E : RoadKit.Exa Z h x ST) (V : RoadKit.Fld Z h x ST "value" "[B" v0) (C : RoadKit.Fld Z h x ST "coder" "B" c0) (K : RoadKit.Arr Z h b A .char) (hty : Typed .char A) (S : RoadKit.Sta Z h ST "COMPACT_STRINGS" "Z" (.int z)) (hz : ¬ z = 0)
    (l0 : 0 < A.slots.size) (l2 : A.slots.size ≤ 536870912) (hp : ∀ i, i < A.slots.size → ¬ 255 < cv A i) (hfr : 4 ≤ R.frames) (hlo : W + 65 ≤ R.locals) :
    Back l R p e below s args New1.yN len W (fun P a => a = #[.ref x, .ref b] ∧ P.U.heap = h ∧ P.cells + 1 ≤ R.cells ∧ P.slots + A.slots.size ≤ R.slots)
      (fun P _ v B => ∃ L, Q Z x A h v B.U.heap L ∧ B.locs = P.locs ++ L ∧ B.cells = P.cells + 1 ∧ B.slots = P.slots + A.slots.size) := by
  intro m meth c P g ig mk a X hg hsize hdg hW hn hp'
  obtain ⟨rfl, rfl, r1, r2⟩ := hp'
  have al : Z.vm.Alike P.U.vm := hZ.alike.trans X.warmed.alike
  obtain ⟨D, cfV, kV, iV, fV, hD, gV, stV, knV, obV, asV, slV⟩ := id V
  obtain ⟨D', cfC, kC, iC, fC, hD', gC, stC, -, -, asC, slC⟩ := id C
  cases hD.symm.trans hD'
  obtain ⟨D2, kD, e1, e2, e3, e4, e5⟩ := id E
  cases hD.symm.trans e1
  obtain ⟨c2, k2, i1, i2, i3, -⟩ := Cond.instantiable_spec wi
  cases e2.symm.trans i1
  cases e3.symm.trans i2
  obtain ⟨kU, u1, u2⟩ := al.2.2 _ _ e3
  have hB : Blank ST x D P.U := ⟨hD, ⟨knV, fun q hq => by rw [hq] at obV; cases obV⟩, by rw [al.findClass]; exact e2, kU, u1, by rw [u2]; exact i3, by rw [u2]; exact e5 i3⟩
  have F1 : Found ST "value" "[B" fV P.U := ⟨SBG.found_only al ⟨cfV, kV, iV, gV⟩, stV⟩
  have F2 : Found ST "coder" "B" fC P.U := ⟨SBG.found_only al ⟨cfC, kC, iC, gC⟩, stC⟩
  have hA : Ch b A P.U := ⟨⟨K.1, State.isArrayOf_alike al K.2.1, K.2.2, by omega⟩, hty⟩
  have hS : StaticIs P.U ST "COMPACT_STRINGS" "Z" (.int z) := by
    obtain ⟨cfS, iS, kS, fS, st, cS, t1, t2, t3, t4, t5, t6, t7⟩ := S
    exact StaticIs.there (s := { Z with heap := P.U.heap }) ⟨cfS, iS, kS, fS, st, cS, t1, t2, t3, t4, t5, (fun q => by rw [q] at t6; cases t6), t7⟩ al rfl
  obtain ⟨v, B, X', ⟨⟨hv, E', V', q1, q2, q3, q4, q5, q6, q7, q8, q9, q10, q11⟩, hl, hc, hs⟩, st⟩ := New1.pays x D fV fC b A z (tab_of (moved hZ hw)) hfr hlo m meth c P g ig mk _ X hg hsize hdg hW hn ⟨r1, r2, rfl, hB, F1, F2, hA, hS, hz, l0, l2, hp⟩
  have al' : Z.vm.Alike B.U.vm := hZ.alike.trans X'.warmed.alike
  have hsz : E'.slots.size = D.slots.size := by
    obtain ⟨-, -, -, kB, w1, w2, w3⟩ := q1
    obtain ⟨kB', y1, y2⟩ := al'.2.2 _ _ e3
    rw [q2.2.1] at w1
    cases w1.symm.trans y1
    rw [w3, e5 i3, y2]
  refine ⟨v, B, X', ⟨_, ⟨hv, ?_, ⟨by omega, fun y cy hy hn' => q10 y cy (by simpa using hn') hy, fun y cy hy => ?_⟩, q11, ⟨E', _, q1.1, by rw [q2.2.1]; exact e2, by rw [q2.2.1]; exact e3, by rw [q2.1]; exact obV, fun _ => by rw [hsz]; exact e5 i3⟩,
    ⟨E', cfV, kV, iV, fV, q1.1, gV, stV, by rw [q2.1]; exact knV, by rw [q2.1]; exact obV, by rw [q2.2.1]; exact asV, q3⟩, ⟨E', cfC, kC, iC, fC, q1.1, gC, stC, by rw [q2.1]; exact knV, by rw [q2.1]; exact obV, by rw [q2.2.1]; exact asC, q4⟩,
    ⟨V', ⟨q5.1, State.isArrayOf_alike al'.symm q5.2.1, q5.2.2.1⟩, q6, by rw [← al'.findClass]; exact q7, q8, fun j hj => by have := q9 j hj; rwa [Nat.zero_add] at this⟩, fun O n d w F n1 n2 => ?_⟩, hl, hc, hs⟩, st⟩
  · intro y hy
    simp only [List.mem_cons, List.not_mem_nil, or_false] at hy
    rcases hy with rfl | rfl <;> rfl
  · by_cases q : y = x
    · subst q
      cases hD.symm.trans hy
      exact ⟨E', q1.1, q2.2.1, q2.1, hsz⟩
    · exact ⟨cy, q10 y cy q hy, rfl, rfl, rfl⟩
  · obtain ⟨D3, cf, k, i, f, g1, g2, g3, g4, g5, g6, g7⟩ := F
    cases hD.symm.trans g1
    simp only [RoadKit.slotOf, g2, gV, gC, Option.map_some, Option.getD_some] at n1 n2
    exact ⟨E', cf, k, i, f, q1.1, g2, g3, by rw [q2.1]; exact g4, by rw [q2.1]; exact g5, by rw [q2.2.1]; exact g6, by rw [q2.2.2 f.slot (by simp [n1, n2])]; exact g7⟩
end StrChars.Road
namespace StrChars.Road
open Jvm Sem ClassFile Op Lib Jvm.Stand Jvm.Free Jvm.Free.XT
/-- WHAT COMES BACK, the byte[] as a list of values -/
def QA (Z : State) (x : Addr) (zn : Int32) (cs : List Int32) (h : Heap) (v : Option Value) (h' : Heap) (L : List Loc) : Prop := v = none ∧ (∀ y ∈ L, y.base = x) ∧ RoadKit.Keep h h' [x] ∧ h'.size = h.size + 1 ∧ RoadKit.Exa Z h' x ST ∧ RoadKit.Fld Z h' x ST "value" "[B" (.ref h.size) ∧ RoadKit.Fld Z h' x ST "coder" "B" (.int 0) ∧
  (∃ kb, Z.vm.findClass "[B" = some kb ∧ RoadKit.Arv Z h' h.size kb .byte zn (cs.map fun c => .int (lo8 c)) (.int 0)) ∧
  ∀ (O n d : String) (w : Value), RoadKit.Fld Z h x O n d w → RoadKit.slotOf Z O n d ≠ RoadKit.slotOf Z ST "value" "[B" → RoadKit.slotOf Z O n d ≠ RoadKit.slotOf Z ST "coder" "B" → RoadKit.Fld Z h' x O n d w
/-- **new String(chars) AT A CALL, THE ARRAYS AS LISTS**: the char[] at b holds cs, not empty, no char above 255 -/
theorem backArv {p : Program} {l : Launch} {e : Env} {R : Room} {s : State} {args : Array Value} {below : List Frame} {len W : Nat} {Z : State} {a0 : Array Value} {h : Heap} (hZ : Z.Warmed39 s.vm) (hw : ∀ d ∈ words, d.before a0 Z = true) {kI : Nat} (wi : (Jvm.Cond.instantiable ST kI).before a0 Z = true)
    {x b : Addr} {k : ClassId} {zn z : Int32} {cs : List Int32} {dv v0 c0 : Value} (E : RoadKit.Exa Z h x ST) (V : RoadKit.Fld Z h x ST "value" "[B" v0) (C : RoadKit.Fld Z h x ST "coder" "B" c0) (K : RoadKit.Arv Z h b k .char zn (cs.map Value.int) dv) (S : RoadKit.Sta Z h ST "COMPACT_STRINGS" "Z" (.int z)) (hz : ¬ z = 0)
    (hlen : zn.toNatClampNeg = cs.length) (h0 : 0 < cs.length) (hbig : cs.length ≤ 536870912) (hall : ∀ c ∈ cs, ¬ 255 < c) (hfr : 4 ≤ R.frames) (hlo : W + 65 ≤ R.locals) :
    Back l R p e below s args New1.yN len W (fun P a => a = #[.ref x, .ref b] ∧ P.U.heap = h ∧ P.cells + 1 ≤ R.cells ∧ P.slots + cs.length ≤ R.slots)
      (fun P _ v B => ∃ L, QA Z x zn cs h v B.U.heap L ∧ B.locs = P.locs ++ L ∧ B.cells = P.cells + 1 ∧ B.slots = P.slots + cs.length) := by
  obtain ⟨A, K1, K2, K3, K4, K5, K6⟩ := K
  have e : A.slots.size = cs.length := K3.trans hlen
  have hat : ∀ (i : Nat) (hi : i < cs.length), A.slots[i]? = some (.int cs[i]) := fun i hi => by rw [K5 i (by omega)]; simp [List.getD_eq_getElem?_getD, hi]
  have hcv : ∀ (i : Nat) (hi : i < cs.length), cv A i = cs[i] := fun i hi => by unfold cv; rw [hat i hi]
  have hty : Typed .char A := fun i v hv => by
    have hi : i < A.slots.size := (Array.getElem?_eq_some_iff.mp hv).1
    have q := K5 i hi
    rw [hv] at q
    rw [Option.some.inj q]
    exact K6 i hi
  refine Back.mono (back hZ hw wi E V C K1 hty S hz (by omega) (by omega) (fun i hi => by rw [hcv i (by omega)]; exact hall _ (List.getElem_mem _)) hfr hlo) (fun P a hp => ⟨hp.1, hp.2.1, hp.2.2.1, by rw [e]; exact hp.2.2.2⟩) (fun P a v B hp hq => ?_)
  obtain ⟨L, ⟨q1, q2, q3, q4, q5, q6, q7, ⟨V', v1, v2, v3, v4, v5⟩, q9⟩, hl, hc, hs⟩ := hq
  refine ⟨L, ⟨q1, q2, q3, q4, q5, q6, q7, ⟨V'.cls, v3, V', v1, rfl, by rw [v4, e, hlen], K4, fun i hi => ?_, fun i hi => ?_⟩, q9⟩, hl, hc, by rw [hs, e]⟩
  · have hi' : i < cs.length := by omega
    rw [v5 i (by omega), hcv i hi']; simp [List.getD_eq_getElem?_getD, hi']
  · have hi' : i < cs.length := by omega
    simp only [List.getD_eq_getElem?_getD, List.getElem?_map, List.getElem?_eq_getElem hi', Option.map_some, Option.getD_some]
    exact fits_lo8 _
end StrChars.Road
namespace StrChars.Road
open Jvm Sem ClassFile Op Lib Jvm.Stand Jvm.Free Jvm.Free.XT
/-- WHAT COMES BACK, in the writer's own shape -/
def QV (Z : State) (x : Addr) (N : Int32) (bs : List Int32) (h : Heap) (n0 : Nat) (v : Option Value) (h' : Heap) (L : List Loc) : Prop := v = none ∧ RoadKit.Fr n0 L ∧ RoadKit.Keep h h' [x] ∧ RoadKit.Exa Z h' x ST ∧ RoadKit.Fld Z h' x ST "coder" "B" (.int 0) ∧
  ∃ (t : Addr) (kb : ClassId), n0 ≤ t ∧ h.size ≤ t ∧ ¬ t = x ∧ RoadKit.Fld Z h' x ST "value" "[B" (.ref t) ∧ RoadKit.Arv Z h' t kb .byte N (bs.map Value.int) (.int 0)
/-- **new String(chars) AT A CALL, FOR THE WRITER**: a char[] of n known ints, each 0 to 255 -/
theorem backV {p : Program} {l : Launch} {e : Env} {R : Room} {s : State} {args : Array Value} {below : List Frame} {len W : Nat} {Z : State} {a0 : Array Value} {h : Heap} (hZ : Z.Warmed39 s.vm) (hw : ∀ d ∈ words, d.before a0 Z = true) {kI : Nat} (wi : (Jvm.Cond.instantiable ST kI).before a0 Z = true)
    {x b : Addr} {kC : ClassId} {cs bs : List Int32} {d v0 c0 : Value} {z N : Int32} {n n0 : Nat} (hx0 : n0 ≤ x) (hh0 : n0 ≤ h.size) (E : RoadKit.Exa Z h x ST) (V : RoadKit.Fld Z h x ST "value" "[B" v0) (C : RoadKit.Fld Z h x ST "coder" "B" c0) (K : RoadKit.Arv Z h b kC .char N (cs.map Value.int) d) (S : RoadKit.Sta Z h ST "COMPACT_STRINGS" "Z" (.int z)) (hz : ¬ z = 0)
    (hn : cs.length = n) (hN : N = Int32.ofNat n) (l0 : 0 < n) (l2 : n ≤ 4000) (hp : ∀ c ∈ cs, ¬ c < 0 ∧ ¬ (255 : Int32) < c) (hb : bs = cs.map (fun c => c.toInt8.toInt32)) (hfr : 4 ≤ R.frames) (hlo : W + 65 ≤ R.locals) :
    Back l R p e below s args (⟨"java/lang/String", "<init>", "([C)V"⟩ : MethodName) len W (fun P a => a = #[.ref x, .ref b] ∧ P.U.heap = h ∧ P.cells + 1 ≤ R.cells ∧ P.slots + n ≤ R.slots)
      (fun P _ v B => ∃ L, QV Z x N bs h n0 v B.U.heap L ∧ B.locs = P.locs ++ L ∧ B.cells = P.cells + 1 ∧ B.slots = P.slots + n) := by
  subst hn hN hb
  refine Back.mono (backArv hZ hw wi E V C K S hz (n32 (by omega)) l0 (by omega) (fun c hc => (hp c hc).2) hfr hlo) (fun P a hp => hp) (fun P a v B hp hq => ?_)
  obtain ⟨L, ⟨q1, q2, q3, q4, q5, q6, q7, ⟨kb, v1, v2⟩, q9⟩, hl, hc, hs⟩ := hq
  exact ⟨L, ⟨q1, fun y hy => by rw [q2 y hy]; exact hx0, q3, q5, q7, h.size, kb, hh0, Nat.le_refl _, Nat.ne_of_gt E.lt, q6, by rw [List.map_map]; exact v2⟩, hl, hc, hs⟩
end StrChars.Road
end Jvm.Pilot.@@N@@
namespace Jvm.Pilot.@@N@@
open Jvm Jvm.ClassFile Sem Op Lib Jvm.Free Jvm.Stand Jvm.LawKit Jvm.RoadKit Bundle Jvm.Pilot.@@N@@.Jvm.D
theorem own_words : ∀ d ∈ StrChars.Road.words, d ∈ tables_1 := by decide +kernel
theorem own_255 (x : Int32) : ¬ nar .char ((x &&& (255 : Int32)).toUInt32.toUInt16.toUInt32.toInt32) < 0 ∧ ¬ (255 : Int32) < nar .char ((x &&& (255 : Int32)).toUInt32.toUInt16.toUInt32.toInt32) := by
  have t : ∀ k : Fin 256, ¬ nar .char ((Int32.ofNat k.val).toUInt32.toUInt16.toUInt32.toInt32) < 0 ∧ ¬ (255 : Int32) < nar .char ((Int32.ofNat k.val).toUInt32.toUInt16.toUInt32.toInt32) := by decide +kernel
  have h : (x &&& 255).toBitVec.toNat < 256 := by
    simp only [Int32.toBitVec_and, BitVec.toNat_and]
    exact Nat.lt_succ_of_le Nat.and_le_right
  have e : (x &&& 255) = Int32.ofNat (x &&& 255).toBitVec.toNat := by
    apply Int32.toBitVec_inj.mp
    show _ = BitVec.ofNat 32 _
    rw [BitVec.ofNat_toNat]; simp
  rw [e]
  exact t ⟨_, h⟩
theorem own_bit {z : Int32} (h : z = (0 : Int32) ∨ z = (1 : Int32)) : nar .boolean z = z := by
  rcases h with h | h <;> rw [h] <;> decide
theorem d8_0 : decode jdk_30_method_1_code 0 = .ok (.aload_n 0, 1) := by decide +kernel
theorem d8_1 : decode jdk_30_method_1_code 1 = .ok (.invokespecial 1, 3) := by decide +kernel
theorem wd_41 {Z : State} {a0 : Array Value} (hw : ∀ d ∈ tables_1, d.before a0 Z = true) : ((Jvm.Cond.methodLink "java/lang/Record" (1 : Nat) ({ cls := "java/lang/Object", name := "<init>", desc := "()V" } : Jvm.MethodName))).before a0 Z = true := hw _ (List.mem_of_getElem? (i := 41) rfl)
theorem wd_12 {Z : State} {a0 : Array Value} (hw : ∀ d ∈ tables_1, d.before a0 Z = true) : ((Jvm.Cond.instanceMethod ({ cls := "java/lang/Object", name := "<init>", desc := "()V" } : Jvm.MethodName))).before a0 Z = true := hw _ (List.mem_of_getElem? (i := 12) rfl)
theorem wd_13 {Z : State} {a0 : Array Value} (hw : ∀ d ∈ tables_1, d.before a0 Z = true) : ((Jvm.Cond.code ({ cls := "java/lang/Object", name := "<init>", desc := "()V" } : Jvm.MethodName) object_method_1_code (1 : Nat) (Option.none : Option Jvm.ClassFile.FieldType))).before a0 Z = true := hw _ (List.mem_of_getElem? (i := 13) rfl)
theorem d8_4 : decode jdk_30_method_1_code 4 = .ok (.return_, 1) := by decide +kernel
theorem pn_java_lang_Record : plainName "java/lang/Record" = true := by first | (simp [plainName, overriddenIn]; done) | decide +kernel
theorem ef_8 (m : MethodId) (x0 : Addr) : entryFrame m #[(.ref x0)] 1 = mkF m 0 #[.val (.ref x0)] [] := by first | (simp [entryFrame, mkF, argsToLocals, Value.category]; done) | rfl
def Q8 (Z : State) (vr0 : Addr) (h0 : Heap) (n0 : Nat) (v : Option Value) (h : Heap) (L : List Loc) : Prop := v = none ∧ Fr n0 L ∧ h = h0
set_option maxRecDepth 65536 in
set_option maxHeartbeats 40000000 in
theorem rm8 (l : Launch) (Z : State) (a0 : Array Value) (hw : ∀ d ∈ tables_1, d.before a0 Z = true) (ws : List Jvm.Cond) (vr0 : Addr) (h0 : Heap) (n0 : Nat) (Z0 : n0 ≤ h0.size) :
    MetFree l (⟨"java/lang/Record", "<init>", "()V"⟩ : MethodName) (head1 (Jvm.Cond.code (⟨"java/lang/Record", "<init>", "()V"⟩ : MethodName) jdk_30_method_1_code 1 none :: ws) ({ frames := 1, cells := 0, slots := 0, locals := 12 } : Room)) (fun a U => a = #[(.ref vr0)] ∧ Z.Warmed39 U.vm ∧ U.heap = h0) (fun _ _ _ _ _ => True) (fun _ U o U' => ∃ v L, o = .returned v ∧ Q8 Z vr0 h0 n0 v U'.heap L ∧ FrameEnd U o U' L ({ frames := 1, cells := 0, slots := 0, locals := 12 } : Room).cells ({ frames := 1, cells := 0, slots := 0, locals := 12 } : Room).slots) := by
  refine MetFree.of_bodySF (plainFor_of_name pn_java_lang_Record) hisR ?_
  intro p e s m args below meth c s₁ Bd hml0 hP hK
  obtain ⟨rfl, hZ, hh⟩ := hP
  have hx := Bd.exec
  have hby := Bd.bytes
  have hml : c.maxLocals = 1 := hml0
  have hown : s.vm.findClass "java/lang/Record" = some m.cls := findClass_of_methodNamed Bd.named
  have hnm := (name_of_methodNamed Bd.named Bd.method).1
  have X0 : Stand p l e ({ frames := 1, cells := 0, slots := 0, locals := 12 } : Room) s m #[(.ref vr0)] below meth c s₁ [] 0 0 := Stand.of_body Bd
  have e0 : s₁.heap = h0 := by rw [← hh, Bd.state]; rfl
  have N0 := Fr.nil n0
  have pre0 : ∀ t, Steps p.tables e below (s₁.setTop (mkF m 0 #[.val (.ref vr0)] [])) t → Steps p.tables e below (s₁.setTop (entryFrame m #[(.ref vr0)] 1)) t := fun t k => castTop (ef_8 m vr0) k
  obtain ⟨T1, X1, e1, st1⟩ := initO X0 hx hZ hown (wd_41 hw) (wd_12 hw) (wd_13 hw) e0 (g := (mkF m 1 #[.val (.ref vr0)] [(.ref vr0)])) rfl (by rw [hml]; rfl) rfl (hb hby d8_1) (by decide) (W := 0) (by show 2 * 0 + _ ≤ _; exact Nat.le_of_eq rfl) (by decide)
  obtain ⟨fs, hr, hrun, hended, hW, hsame⟩ := X1.leave (v := none) (fun _ => rfl)
  refine ⟨_, _, pre0 _ ?_, hrun, hended, _, _, rfl, ?_, ⟨_, rfl⟩, hW, hsame.mono (by decide) (by decide)⟩
  · show Steps p.tables e below (s₁.setTop (mkF m 0 #[.val (.ref vr0)] [])) _
    refine XS.aloadN X0.here hx rfl (hb hby d8_0) rfl rfl ?_
    show Steps p.tables e below (s₁.setTop (mkF m 1 #[.val (.ref vr0)] [(.ref vr0)])) _
    refine st1 _ ?_
    show Steps p.tables e below (T1.setTop (mkF m 4 #[.val (.ref vr0)] [])) _
    exact X1.returnOut hx Bd.returns (hb hby d8_4) hr
  · show Q8 Z vr0 h0 n0 _ T1.heap _
    rw [e1]
    exact ⟨rfl, N0, rfl⟩
theorem d7_0 : decode prog_96_method_1_code 0 = .ok (.aload_n 0, 1) := by decide +kernel
theorem d7_1 : decode prog_96_method_1_code 1 = .ok (.invokespecial 1, 3) := by decide +kernel
theorem wd_36 {Z : State} {a0 : Array Value} (hw : ∀ d ∈ tables_1, d.before a0 Z = true) : ((Jvm.Cond.methodLink "com/example/vernacular/vernacular/Table$Column" (1 : Nat) ({ cls := "java/lang/Record", name := "<init>", desc := "()V" } : Jvm.MethodName))).before a0 Z = true := hw _ (List.mem_of_getElem? (i := 36) rfl)
theorem wd_40 {Z : State} {a0 : Array Value} (hw : ∀ d ∈ tables_1, d.before a0 Z = true) : ((Jvm.Cond.code ({ cls := "java/lang/Record", name := "<init>", desc := "()V" } : Jvm.MethodName) jdk_30_method_1_code (1 : Nat) (Option.none : Option Jvm.ClassFile.FieldType))).before a0 Z = true := hw _ (List.mem_of_getElem? (i := 40) rfl)
theorem wd_39 {Z : State} {a0 : Array Value} (hw : ∀ d ∈ tables_1, d.before a0 Z = true) : ((Jvm.Cond.initialized "java/lang/Record")).before a0 Z = true := hw _ (List.mem_of_getElem? (i := 39) rfl)
theorem pd_2 : parseMethodDescriptor "()V" = some ⟨[], none⟩ := by decide +kernel
theorem wd_37 {Z : State} {a0 : Array Value} (hw : ∀ d ∈ tables_1, d.before a0 Z = true) : ((Jvm.Cond.instanceMethod ({ cls := "java/lang/Record", name := "<init>", desc := "()V" } : Jvm.MethodName))).before a0 Z = true := hw _ (List.mem_of_getElem? (i := 37) rfl)
theorem d7_4 : decode prog_96_method_1_code 4 = .ok (.aload_n 0, 1) := by decide +kernel
theorem d7_5 : decode prog_96_method_1_code 5 = .ok (.aload_n 1, 1) := by decide +kernel
theorem d7_6 : decode prog_96_method_1_code 6 = .ok (.putfield 7, 3) := by decide +kernel
theorem wd_42 {Z : State} {a0 : Array Value} (hw : ∀ d ∈ tables_1, d.before a0 Z = true) : ((Jvm.Cond.fieldLink "com/example/vernacular/vernacular/Table$Column" (7 : Nat) "com/example/vernacular/vernacular/Table$Column" "name" "Ljava/lang/String;")).before a0 Z = true := hw _ (List.mem_of_getElem? (i := 42) rfl)
theorem wd_43 {Z : State} {a0 : Array Value} (hw : ∀ d ∈ tables_1, d.before a0 Z = true) : ((Jvm.Cond.laysFinal "com/example/vernacular/vernacular/Table$Column" "com/example/vernacular/vernacular/Table$Column" "name" "Ljava/lang/String;")).before a0 Z = true := hw _ (List.mem_of_getElem? (i := 43) rfl)
theorem wd_31 {Z : State} {a0 : Array Value} (hw : ∀ d ∈ tables_1, d.before a0 Z = true) : ((Jvm.Cond.instantiable "com/example/vernacular/vernacular/Table$Column" (5 : Nat))).before a0 Z = true := hw _ (List.mem_of_getElem? (i := 31) rfl)
theorem d7_9 : decode prog_96_method_1_code 9 = .ok (.aload_n 0, 1) := by decide +kernel
theorem d7_10 : decode prog_96_method_1_code 10 = .ok (.iload_n 2, 1) := by decide +kernel
theorem d7_11 : decode prog_96_method_1_code 11 = .ok (.putfield 13, 3) := by decide +kernel
theorem wd_44 {Z : State} {a0 : Array Value} (hw : ∀ d ∈ tables_1, d.before a0 Z = true) : ((Jvm.Cond.fieldLink "com/example/vernacular/vernacular/Table$Column" (13 : Nat) "com/example/vernacular/vernacular/Table$Column" "position" "I")).before a0 Z = true := hw _ (List.mem_of_getElem? (i := 44) rfl)
theorem wd_45 {Z : State} {a0 : Array Value} (hw : ∀ d ∈ tables_1, d.before a0 Z = true) : ((Jvm.Cond.laysFinal "com/example/vernacular/vernacular/Table$Column" "com/example/vernacular/vernacular/Table$Column" "position" "I")).before a0 Z = true := hw _ (List.mem_of_getElem? (i := 45) rfl)
theorem sl_0 {Z : State} {a0 : Array Value} (hw : ∀ d ∈ tables_1, d.before a0 Z = true) : RoadKit.slotOf Z "com/example/vernacular/vernacular/Table$Column" "position" "I" ≠ RoadKit.slotOf Z "com/example/vernacular/vernacular/Table$Column" "name" "Ljava/lang/String;" := slot_ne (Or.inr (wd_45 hw)) (Or.inr (wd_43 hw)) (by decide) (t := .int) (t' := (.object "java/lang/String")) (by decide) (by decide)
theorem d7_14 : decode prog_96_method_1_code 14 = .ok (.aload_n 0, 1) := by decide +kernel
theorem d7_15 : decode prog_96_method_1_code 15 = .ok (.aload_n 3, 1) := by decide +kernel
theorem d7_16 : decode prog_96_method_1_code 16 = .ok (.putfield 17, 3) := by decide +kernel
theorem wd_46 {Z : State} {a0 : Array Value} (hw : ∀ d ∈ tables_1, d.before a0 Z = true) : ((Jvm.Cond.fieldLink "com/example/vernacular/vernacular/Table$Column" (17 : Nat) "com/example/vernacular/vernacular/Table$Column" "lineage" "Lcom/example/vernacular/vernacular/Lineage;")).before a0 Z = true := hw _ (List.mem_of_getElem? (i := 46) rfl)
theorem wd_47 {Z : State} {a0 : Array Value} (hw : ∀ d ∈ tables_1, d.before a0 Z = true) : ((Jvm.Cond.laysFinal "com/example/vernacular/vernacular/Table$Column" "com/example/vernacular/vernacular/Table$Column" "lineage" "Lcom/example/vernacular/vernacular/Lineage;")).before a0 Z = true := hw _ (List.mem_of_getElem? (i := 47) rfl)
theorem sl_1 {Z : State} {a0 : Array Value} (hw : ∀ d ∈ tables_1, d.before a0 Z = true) : RoadKit.slotOf Z "com/example/vernacular/vernacular/Table$Column" "lineage" "Lcom/example/vernacular/vernacular/Lineage;" ≠ RoadKit.slotOf Z "com/example/vernacular/vernacular/Table$Column" "name" "Ljava/lang/String;" := slot_ne (Or.inr (wd_47 hw)) (Or.inr (wd_43 hw)) (by decide) (t := (.object "com/example/vernacular/vernacular/Lineage")) (t' := (.object "java/lang/String")) (by decide) (by decide)
theorem sl_2 {Z : State} {a0 : Array Value} (hw : ∀ d ∈ tables_1, d.before a0 Z = true) : RoadKit.slotOf Z "com/example/vernacular/vernacular/Table$Column" "lineage" "Lcom/example/vernacular/vernacular/Lineage;" ≠ RoadKit.slotOf Z "com/example/vernacular/vernacular/Table$Column" "position" "I" := slot_ne (Or.inr (wd_47 hw)) (Or.inr (wd_45 hw)) (by decide) (t := (.object "com/example/vernacular/vernacular/Lineage")) (t' := .int) (by decide) (by decide)
theorem d7_19 : decode prog_96_method_1_code 19 = .ok (.aload_n 0, 1) := by decide +kernel
theorem d7_20 : decode prog_96_method_1_code 20 = .ok (.iload 4, 2) := by decide +kernel
theorem d7_22 : decode prog_96_method_1_code 22 = .ok (.putfield 21, 3) := by decide +kernel
theorem wd_48 {Z : State} {a0 : Array Value} (hw : ∀ d ∈ tables_1, d.before a0 Z = true) : ((Jvm.Cond.fieldLink "com/example/vernacular/vernacular/Table$Column" (21 : Nat) "com/example/vernacular/vernacular/Table$Column" "inherited" "I")).before a0 Z = true := hw _ (List.mem_of_getElem? (i := 48) rfl)
theorem wd_49 {Z : State} {a0 : Array Value} (hw : ∀ d ∈ tables_1, d.before a0 Z = true) : ((Jvm.Cond.laysFinal "com/example/vernacular/vernacular/Table$Column" "com/example/vernacular/vernacular/Table$Column" "inherited" "I")).before a0 Z = true := hw _ (List.mem_of_getElem? (i := 49) rfl)
theorem sl_3 {Z : State} {a0 : Array Value} (hw : ∀ d ∈ tables_1, d.before a0 Z = true) : RoadKit.slotOf Z "com/example/vernacular/vernacular/Table$Column" "inherited" "I" ≠ RoadKit.slotOf Z "com/example/vernacular/vernacular/Table$Column" "name" "Ljava/lang/String;" := slot_ne (Or.inr (wd_49 hw)) (Or.inr (wd_43 hw)) (by decide) (t := .int) (t' := (.object "java/lang/String")) (by decide) (by decide)
theorem sl_4 {Z : State} {a0 : Array Value} (hw : ∀ d ∈ tables_1, d.before a0 Z = true) : RoadKit.slotOf Z "com/example/vernacular/vernacular/Table$Column" "inherited" "I" ≠ RoadKit.slotOf Z "com/example/vernacular/vernacular/Table$Column" "position" "I" := slot_ne (Or.inr (wd_49 hw)) (Or.inr (wd_45 hw)) (by decide) (t := .int) (t' := .int) (by decide) (by decide)
theorem sl_5 {Z : State} {a0 : Array Value} (hw : ∀ d ∈ tables_1, d.before a0 Z = true) : RoadKit.slotOf Z "com/example/vernacular/vernacular/Table$Column" "inherited" "I" ≠ RoadKit.slotOf Z "com/example/vernacular/vernacular/Table$Column" "lineage" "Lcom/example/vernacular/vernacular/Lineage;" := slot_ne (Or.inr (wd_49 hw)) (Or.inr (wd_47 hw)) (by decide) (t := .int) (t' := (.object "com/example/vernacular/vernacular/Lineage")) (by decide) (by decide)
theorem d7_25 : decode prog_96_method_1_code 25 = .ok (.aload_n 0, 1) := by decide +kernel
theorem d7_26 : decode prog_96_method_1_code 26 = .ok (.iload 5, 2) := by decide +kernel
theorem d7_28 : decode prog_96_method_1_code 28 = .ok (.putfield 24, 3) := by decide +kernel
theorem wd_50 {Z : State} {a0 : Array Value} (hw : ∀ d ∈ tables_1, d.before a0 Z = true) : ((Jvm.Cond.fieldLink "com/example/vernacular/vernacular/Table$Column" (24 : Nat) "com/example/vernacular/vernacular/Table$Column" "local" "Z")).before a0 Z = true := hw _ (List.mem_of_getElem? (i := 50) rfl)
theorem wd_51 {Z : State} {a0 : Array Value} (hw : ∀ d ∈ tables_1, d.before a0 Z = true) : ((Jvm.Cond.laysFinal "com/example/vernacular/vernacular/Table$Column" "com/example/vernacular/vernacular/Table$Column" "local" "Z")).before a0 Z = true := hw _ (List.mem_of_getElem? (i := 51) rfl)
theorem sl_6 {Z : State} {a0 : Array Value} (hw : ∀ d ∈ tables_1, d.before a0 Z = true) : RoadKit.slotOf Z "com/example/vernacular/vernacular/Table$Column" "local" "Z" ≠ RoadKit.slotOf Z "com/example/vernacular/vernacular/Table$Column" "name" "Ljava/lang/String;" := slot_ne (Or.inr (wd_51 hw)) (Or.inr (wd_43 hw)) (by decide) (t := .boolean) (t' := (.object "java/lang/String")) (by decide) (by decide)
theorem sl_7 {Z : State} {a0 : Array Value} (hw : ∀ d ∈ tables_1, d.before a0 Z = true) : RoadKit.slotOf Z "com/example/vernacular/vernacular/Table$Column" "local" "Z" ≠ RoadKit.slotOf Z "com/example/vernacular/vernacular/Table$Column" "position" "I" := slot_ne (Or.inr (wd_51 hw)) (Or.inr (wd_45 hw)) (by decide) (t := .boolean) (t' := .int) (by decide) (by decide)
theorem sl_8 {Z : State} {a0 : Array Value} (hw : ∀ d ∈ tables_1, d.before a0 Z = true) : RoadKit.slotOf Z "com/example/vernacular/vernacular/Table$Column" "local" "Z" ≠ RoadKit.slotOf Z "com/example/vernacular/vernacular/Table$Column" "lineage" "Lcom/example/vernacular/vernacular/Lineage;" := slot_ne (Or.inr (wd_51 hw)) (Or.inr (wd_47 hw)) (by decide) (t := .boolean) (t' := (.object "com/example/vernacular/vernacular/Lineage")) (by decide) (by decide)
theorem sl_9 {Z : State} {a0 : Array Value} (hw : ∀ d ∈ tables_1, d.before a0 Z = true) : RoadKit.slotOf Z "com/example/vernacular/vernacular/Table$Column" "local" "Z" ≠ RoadKit.slotOf Z "com/example/vernacular/vernacular/Table$Column" "inherited" "I" := slot_ne (Or.inr (wd_51 hw)) (Or.inr (wd_49 hw)) (by decide) (t := .boolean) (t' := .int) (by decide) (by decide)
theorem d7_31 : decode prog_96_method_1_code 31 = .ok (.return_, 1) := by decide +kernel
theorem sl_10 {Z : State} {a0 : Array Value} (hw : ∀ d ∈ tables_1, d.before a0 Z = true) : RoadKit.slotOf Z "com/example/vernacular/vernacular/Table$Column" "name" "Ljava/lang/String;" ≠ RoadKit.slotOf Z "com/example/vernacular/vernacular/Table$Column" "position" "I" := slot_ne (Or.inr (wd_43 hw)) (Or.inr (wd_45 hw)) (by decide) (t := (.object "java/lang/String")) (t' := .int) (by decide) (by decide)
theorem sl_11 {Z : State} {a0 : Array Value} (hw : ∀ d ∈ tables_1, d.before a0 Z = true) : RoadKit.slotOf Z "com/example/vernacular/vernacular/Table$Column" "name" "Ljava/lang/String;" ≠ RoadKit.slotOf Z "com/example/vernacular/vernacular/Table$Column" "lineage" "Lcom/example/vernacular/vernacular/Lineage;" := slot_ne (Or.inr (wd_43 hw)) (Or.inr (wd_47 hw)) (by decide) (t := (.object "java/lang/String")) (t' := (.object "com/example/vernacular/vernacular/Lineage")) (by decide) (by decide)
theorem sl_12 {Z : State} {a0 : Array Value} (hw : ∀ d ∈ tables_1, d.before a0 Z = true) : RoadKit.slotOf Z "com/example/vernacular/vernacular/Table$Column" "name" "Ljava/lang/String;" ≠ RoadKit.slotOf Z "com/example/vernacular/vernacular/Table$Column" "inherited" "I" := slot_ne (Or.inr (wd_43 hw)) (Or.inr (wd_49 hw)) (by decide) (t := (.object "java/lang/String")) (t' := .int) (by decide) (by decide)
theorem sl_13 {Z : State} {a0 : Array Value} (hw : ∀ d ∈ tables_1, d.before a0 Z = true) : RoadKit.slotOf Z "com/example/vernacular/vernacular/Table$Column" "name" "Ljava/lang/String;" ≠ RoadKit.slotOf Z "com/example/vernacular/vernacular/Table$Column" "local" "Z" := slot_ne (Or.inr (wd_43 hw)) (Or.inr (wd_51 hw)) (by decide) (t := (.object "java/lang/String")) (t' := .boolean) (by decide) (by decide)
theorem sl_14 {Z : State} {a0 : Array Value} (hw : ∀ d ∈ tables_1, d.before a0 Z = true) : RoadKit.slotOf Z "com/example/vernacular/vernacular/Table$Column" "position" "I" ≠ RoadKit.slotOf Z "com/example/vernacular/vernacular/Table$Column" "lineage" "Lcom/example/vernacular/vernacular/Lineage;" := slot_ne (Or.inr (wd_45 hw)) (Or.inr (wd_47 hw)) (by decide) (t := .int) (t' := (.object "com/example/vernacular/vernacular/Lineage")) (by decide) (by decide)
theorem sl_15 {Z : State} {a0 : Array Value} (hw : ∀ d ∈ tables_1, d.before a0 Z = true) : RoadKit.slotOf Z "com/example/vernacular/vernacular/Table$Column" "position" "I" ≠ RoadKit.slotOf Z "com/example/vernacular/vernacular/Table$Column" "inherited" "I" := slot_ne (Or.inr (wd_45 hw)) (Or.inr (wd_49 hw)) (by decide) (t := .int) (t' := .int) (by decide) (by decide)
theorem sl_16 {Z : State} {a0 : Array Value} (hw : ∀ d ∈ tables_1, d.before a0 Z = true) : RoadKit.slotOf Z "com/example/vernacular/vernacular/Table$Column" "position" "I" ≠ RoadKit.slotOf Z "com/example/vernacular/vernacular/Table$Column" "local" "Z" := slot_ne (Or.inr (wd_45 hw)) (Or.inr (wd_51 hw)) (by decide) (t := .int) (t' := .boolean) (by decide) (by decide)
theorem sl_17 {Z : State} {a0 : Array Value} (hw : ∀ d ∈ tables_1, d.before a0 Z = true) : RoadKit.slotOf Z "com/example/vernacular/vernacular/Table$Column" "lineage" "Lcom/example/vernacular/vernacular/Lineage;" ≠ RoadKit.slotOf Z "com/example/vernacular/vernacular/Table$Column" "inherited" "I" := slot_ne (Or.inr (wd_47 hw)) (Or.inr (wd_49 hw)) (by decide) (t := (.object "com/example/vernacular/vernacular/Lineage")) (t' := .int) (by decide) (by decide)
theorem sl_18 {Z : State} {a0 : Array Value} (hw : ∀ d ∈ tables_1, d.before a0 Z = true) : RoadKit.slotOf Z "com/example/vernacular/vernacular/Table$Column" "lineage" "Lcom/example/vernacular/vernacular/Lineage;" ≠ RoadKit.slotOf Z "com/example/vernacular/vernacular/Table$Column" "local" "Z" := slot_ne (Or.inr (wd_47 hw)) (Or.inr (wd_51 hw)) (by decide) (t := (.object "com/example/vernacular/vernacular/Lineage")) (t' := .boolean) (by decide) (by decide)
theorem sl_19 {Z : State} {a0 : Array Value} (hw : ∀ d ∈ tables_1, d.before a0 Z = true) : RoadKit.slotOf Z "com/example/vernacular/vernacular/Table$Column" "inherited" "I" ≠ RoadKit.slotOf Z "com/example/vernacular/vernacular/Table$Column" "local" "Z" := slot_ne (Or.inr (wd_49 hw)) (Or.inr (wd_51 hw)) (by decide) (t := .int) (t' := .boolean) (by decide) (by decide)
theorem pn_com_example_vernacular_vernacular_Table_Column : plainName "com/example/vernacular/vernacular/Table$Column" = true := by first | (simp [plainName, overriddenIn]; done) | decide +kernel
theorem ef_7_R (m : MethodId) (x0 : Addr) (x1 : Addr) (x2 : Int32) (x3 : Addr) (x4 : Int32) (x5 : Int32) : entryFrame m #[(.ref x0), (.ref x1), (.int x2), (.ref x3), (.int x4), (.int x5)] 6 = mkF m 0 #[.val (.ref x0), .val (.ref x1), .val (.int x2), .val (.ref x3), .val (.int x4), .val (.int x5)] [] := by first | (simp [entryFrame, mkF, argsToLocals, Value.category]; done) | rfl
def Q7_R (Z : State) (vr0 : Addr) (vr1 : Addr) (vi2 : Int32) (vr3 : Addr) (vi4 : Int32) (vi5 : Int32) (u_name_vr0 : Value) (u_position_vr0 : Value) (u_lineage_vr0 : Value) (u_inherited_vr0 : Value) (u_local_vr0 : Value) (h0 : Heap) (n0 : Nat) (v : Option Value) (h : Heap) (L : List Loc) : Prop := v = none ∧ Fr n0 L ∧ Keep h0 h [vr0] ∧ Fld Z h vr0 "com/example/vernacular/vernacular/Table$Column" "name" "Ljava/lang/String;" (.ref vr1) ∧ Fld Z h vr0 "com/example/vernacular/vernacular/Table$Column" "position" "I" (.int vi2) ∧ Fld Z h vr0 "com/example/vernacular/vernacular/Table$Column" "lineage" "Lcom/example/vernacular/vernacular/Lineage;" (.ref vr3) ∧ Fld Z h vr0 "com/example/vernacular/vernacular/Table$Column" "inherited" "I" (.int vi4) ∧ Fld Z h vr0 "com/example/vernacular/vernacular/Table$Column" "local" "Z" (.int vi5)
set_option maxRecDepth 65536 in
set_option maxHeartbeats 40000000 in
theorem rm7_R (l : Launch) (Z : State) (a0 : Array Value) (hw : ∀ d ∈ tables_1, d.before a0 Z = true) (ws : List Jvm.Cond) (vr0 : Addr) (vr1 : Addr) (vi2 : Int32) (vr3 : Addr) (vi4 : Int32) (vi5 : Int32) (u_name_vr0 : Value) (u_position_vr0 : Value) (u_lineage_vr0 : Value) (u_inherited_vr0 : Value) (u_local_vr0 : Value) (h0 : Heap) (n0 : Nat) (Z0 : n0 ≤ h0.size) (hz : nar .boolean vi5 = vi5) (E_vr0 : Exa Z h0 vr0 "com/example/vernacular/vernacular/Table$Column") (F_name_vr0 : Fld Z h0 vr0 "com/example/vernacular/vernacular/Table$Column" "name" "Ljava/lang/String;" u_name_vr0) (g_vr0 : n0 ≤ vr0) (F_position_vr0 : Fld Z h0 vr0 "com/example/vernacular/vernacular/Table$Column" "position" "I" u_position_vr0) (F_lineage_vr0 : Fld Z h0 vr0 "com/example/vernacular/vernacular/Table$Column" "lineage" "Lcom/example/vernacular/vernacular/Lineage;" u_lineage_vr0) (F_inherited_vr0 : Fld Z h0 vr0 "com/example/vernacular/vernacular/Table$Column" "inherited" "I" u_inherited_vr0) (F_local_vr0 : Fld Z h0 vr0 "com/example/vernacular/vernacular/Table$Column" "local" "Z" u_local_vr0) :
    MetFree l (⟨"com/example/vernacular/vernacular/Table$Column", "<init>", "(Ljava/lang/String;ILcom/example/vernacular/vernacular/Lineage;IZ)V"⟩ : MethodName) (head1 (Jvm.Cond.code (⟨"com/example/vernacular/vernacular/Table$Column", "<init>", "(Ljava/lang/String;ILcom/example/vernacular/vernacular/Lineage;IZ)V"⟩ : MethodName) prog_96_method_1_code 6 none :: ws) ({ frames := 2, cells := 0, slots := 0, locals := 24 } : Room)) (fun a U => a = #[(.ref vr0), (.ref vr1), (.int vi2), (.ref vr3), (.int vi4), (.int vi5)] ∧ Z.Warmed39 U.vm ∧ U.heap = h0) (fun _ _ _ _ _ => True) (fun _ U o U' => ∃ v L, o = .returned v ∧ Q7_R Z vr0 vr1 vi2 vr3 vi4 vi5 u_name_vr0 u_position_vr0 u_lineage_vr0 u_inherited_vr0 u_local_vr0 h0 n0 v U'.heap L ∧ FrameEnd U o U' L ({ frames := 2, cells := 0, slots := 0, locals := 24 } : Room).cells ({ frames := 2, cells := 0, slots := 0, locals := 24 } : Room).slots) := by
  refine MetFree.of_bodySF (plainFor_of_name pn_com_example_vernacular_vernacular_Table_Column) hisR ?_
  intro p e s m args below meth c s₁ Bd hml0 hP hK
  obtain ⟨rfl, hZ, hh⟩ := hP
  have hx := Bd.exec
  have hby := Bd.bytes
  have hml : c.maxLocals = 6 := hml0
  have hown : s.vm.findClass "com/example/vernacular/vernacular/Table$Column" = some m.cls := findClass_of_methodNamed Bd.named
  have hnm := (name_of_methodNamed Bd.named Bd.method).1
  have X0 : Stand p l e ({ frames := 2, cells := 0, slots := 0, locals := 24 } : Room) s m #[(.ref vr0), (.ref vr1), (.int vi2), (.ref vr3), (.int vi4), (.int vi5)] below meth c s₁ [] 0 0 := Stand.of_body Bd
  have e0 : s₁.heap = h0 := by rw [← hh, Bd.state]; rfl
  have N0 := Fr.nil n0
  have pre0 : ∀ t, Steps p.tables e below (s₁.setTop (mkF m 0 #[.val (.ref vr0), .val (.ref vr1), .val (.int vi2), .val (.ref vr3), .val (.int vi4), .val (.int vi5)] [])) t → Steps p.tables e below (s₁.setTop (entryFrame m #[(.ref vr0), (.ref vr1), (.int vi2), (.ref vr3), (.int vi4), (.int vi5)] 6)) t := fun t k => castTop (ef_7_R m vr0 vr1 vi2 vr3 vi4 vi5) k
  obtain ⟨_, _, ⟨T1, L1, k1, n1⟩, -, X1, ⟨Lc1, hQ1, l1, y1, z1⟩, st1⟩ := X0.specialBack hx (y := (⟨"java/lang/Record", "<init>", "()V"⟩ : MethodName)) rfl hown (mvT hZ (wd_36 hw)) (mvT hZ (wd_37 hw)) (mvT hZ (wd_40 hw)) (by decide) (backOf (W := 0) (rm8 l Z a0 hw [] vr0 h0 n0 Z0 ) hZ (wd_40 hw) (wd_39 hw) (by decide) (by decide)) (g := (mkF m 1 #[.val (.ref vr0), .val (.ref vr1), .val (.int vi2), .val (.ref vr3), .val (.int vi4), .val (.int vi5)] [(.ref vr0)])) rfl (by rw [hml]; rfl) (Steps.refl _) (a := vr0) (argsL := []) (rest := []) (lenOf pd_2 rfl) rfl (by show 2 * 0 + _ ≤ _; exact Nat.le_of_eq rfl) (hb hby d7_1) (fun _ _ => ⟨rfl, e0, (by decide : 0 + 0 ≤ _), (by decide : 0 + 0 ≤ _)⟩)
  dsimp only [Pt.U, Pt.locs, Pt.cells, Pt.slots] at X1 l1 y1 z1 st1 hQ1
  subst l1 y1 z1
  obtain ⟨rfl, N1q, p1_0⟩ := hQ1
  have N1 := Fr.app N0 N1q
  have e1 : T1.heap = h0 := p1_0
  obtain ⟨T2, h2, X2, e2, W2, st2⟩ := putF X1 hx hZ hown (host := "") (Or.inl (wd_42 hw)) Via.refl e1 F_name_vr0 E_vr0 (Or.inr ⟨(wd_43 hw), rfl, hnm⟩) (wd_31 hw) (ty := (.object "java/lang/String")) (by decide) rfl rfl (g := (mkF m 6 #[.val (.ref vr0), .val (.ref vr1), .val (.int vi2), .val (.ref vr3), .val (.int vi4), .val (.int vi5)] [(.ref vr1), (.ref vr0)])) rfl rfl (hb hby d7_6)
  have Fw2 := F_name_vr0.same W2
  have N2 := Fr.snoc X2 N1 g_vr0
  have K2 : Keep h0 h2 [vr0] := (Keep.refl h0 [vr0]).wr W2 (Or.inl (List.mem_of_getElem? (i := 0) rfl))
  obtain ⟨T3, h3, X3, e3, W3, st3⟩ := putF X2 hx hZ hown (host := "") (Or.inl (wd_44 hw)) Via.refl e2 (F_position_vr0.other W2 (Or.inr (sl_0 hw))) (E_vr0.wr W2) (Or.inr ⟨(wd_45 hw), rfl, hnm⟩) (wd_31 hw) (ty := .int) (by decide) rfl rfl (g := (mkF m 11 #[.val (.ref vr0), .val (.ref vr1), .val (.int vi2), .val (.ref vr3), .val (.int vi4), .val (.int vi5)] [(.int vi2), (.ref vr0)])) rfl rfl (hb hby d7_11)
  have Fw3 := (F_position_vr0.other W2 (Or.inr (sl_0 hw))).same W3
  have N3 := Fr.snoc X3 N2 g_vr0
  have K3 : Keep h0 h3 [vr0] := K2.wr W3 (Or.inl (List.mem_of_getElem? (i := 0) rfl))
  obtain ⟨T4, h4, X4, e4, W4, st4⟩ := putF X3 hx hZ hown (host := "") (Or.inl (wd_46 hw)) Via.refl e3 ((F_lineage_vr0.other W2 (Or.inr (sl_1 hw))).other W3 (Or.inr (sl_2 hw))) ((E_vr0.wr W2).wr W3) (Or.inr ⟨(wd_47 hw), rfl, hnm⟩) (wd_31 hw) (ty := (.object "com/example/vernacular/vernacular/Lineage")) (by decide) rfl rfl (g := (mkF m 16 #[.val (.ref vr0), .val (.ref vr1), .val (.int vi2), .val (.ref vr3), .val (.int vi4), .val (.int vi5)] [(.ref vr3), (.ref vr0)])) rfl rfl (hb hby d7_16)
  have Fw4 := ((F_lineage_vr0.other W2 (Or.inr (sl_1 hw))).other W3 (Or.inr (sl_2 hw))).same W4
  have N4 := Fr.snoc X4 N3 g_vr0
  have K4 : Keep h0 h4 [vr0] := K3.wr W4 (Or.inl (List.mem_of_getElem? (i := 0) rfl))
  obtain ⟨T5, h5, X5, e5, W5, st5⟩ := putF X4 hx hZ hown (host := "") (Or.inl (wd_48 hw)) Via.refl e4 (((F_inherited_vr0.other W2 (Or.inr (sl_3 hw))).other W3 (Or.inr (sl_4 hw))).other W4 (Or.inr (sl_5 hw))) (((E_vr0.wr W2).wr W3).wr W4) (Or.inr ⟨(wd_49 hw), rfl, hnm⟩) (wd_31 hw) (ty := .int) (by decide) rfl rfl (g := (mkF m 22 #[.val (.ref vr0), .val (.ref vr1), .val (.int vi2), .val (.ref vr3), .val (.int vi4), .val (.int vi5)] [(.int vi4), (.ref vr0)])) rfl rfl (hb hby d7_22)
  have Fw5 := (((F_inherited_vr0.other W2 (Or.inr (sl_3 hw))).other W3 (Or.inr (sl_4 hw))).other W4 (Or.inr (sl_5 hw))).same W5
  have N5 := Fr.snoc X5 N4 g_vr0
  have K5 : Keep h0 h5 [vr0] := K4.wr W5 (Or.inl (List.mem_of_getElem? (i := 0) rfl))
  obtain ⟨T6, h6, X6, e6, W6, st6⟩ := putFN X5 hx hZ hown (wd_50 hw) Via.refl e5 ((((F_local_vr0.other W2 (Or.inr (sl_6 hw))).other W3 (Or.inr (sl_7 hw))).other W4 (Or.inr (sl_8 hw))).other W5 (Or.inr (sl_9 hw))) ((((E_vr0.wr W2).wr W3).wr W4).wr W5) (Or.inr ⟨(wd_51 hw), rfl, hnm⟩) (wd_31 hw) (ty := .boolean) (v := (.int vi5)) (v' := (.int vi5)) (by decide) (congrArg Value.int hz) (by have hq := fits_nar_bool vi5; rwa [hz] at hq) (g := (mkF m 28 #[.val (.ref vr0), .val (.ref vr1), .val (.int vi2), .val (.ref vr3), .val (.int vi4), .val (.int vi5)] [(.int vi5), (.ref vr0)])) rfl rfl (hb hby d7_28)
  have Fw6 := ((((F_local_vr0.other W2 (Or.inr (sl_6 hw))).other W3 (Or.inr (sl_7 hw))).other W4 (Or.inr (sl_8 hw))).other W5 (Or.inr (sl_9 hw))).same W6
  have N6 := Fr.snoc X6 N5 g_vr0
  have K6 : Keep h0 h6 [vr0] := K5.wr W6 (Or.inl (List.mem_of_getElem? (i := 0) rfl))
  obtain ⟨fs, hr, hrun, hended, hW, hsame⟩ := X6.leave (v := none) (fun _ => rfl)
  refine ⟨_, _, pre0 _ ?_, hrun, hended, _, _, rfl, ?_, ⟨_, rfl⟩, hW, hsame.mono (by decide) (by decide)⟩
  · show Steps p.tables e below (s₁.setTop (mkF m 0 #[.val (.ref vr0), .val (.ref vr1), .val (.int vi2), .val (.ref vr3), .val (.int vi4), .val (.int vi5)] [])) _
    refine XS.aloadN X0.here hx rfl (hb hby d7_0) rfl rfl ?_
    show Steps p.tables e below (s₁.setTop (mkF m 1 #[.val (.ref vr0), .val (.ref vr1), .val (.int vi2), .val (.ref vr3), .val (.int vi4), .val (.int vi5)] [(.ref vr0)])) _
    refine st1.trans ?_
    show Steps p.tables e below (T1.setTop (mkF m 4 #[.val (.ref vr0), .val (.ref vr1), .val (.int vi2), .val (.ref vr3), .val (.int vi4), .val (.int vi5)] [])) _
    refine XS.aloadN X1.here hx rfl (hb hby d7_4) rfl rfl ?_
    show Steps p.tables e below (T1.setTop (mkF m 5 #[.val (.ref vr0), .val (.ref vr1), .val (.int vi2), .val (.ref vr3), .val (.int vi4), .val (.int vi5)] [(.ref vr0)])) _
    refine XS.aloadN X1.here hx rfl (hb hby d7_5) rfl rfl ?_
    show Steps p.tables e below (T1.setTop (mkF m 6 #[.val (.ref vr0), .val (.ref vr1), .val (.int vi2), .val (.ref vr3), .val (.int vi4), .val (.int vi5)] [(.ref vr1), (.ref vr0)])) _
    refine st2 _ ?_
    show Steps p.tables e below (T2.setTop (mkF m 9 #[.val (.ref vr0), .val (.ref vr1), .val (.int vi2), .val (.ref vr3), .val (.int vi4), .val (.int vi5)] [])) _
    refine XS.aloadN X2.here hx rfl (hb hby d7_9) rfl rfl ?_
    show Steps p.tables e below (T2.setTop (mkF m 10 #[.val (.ref vr0), .val (.ref vr1), .val (.int vi2), .val (.ref vr3), .val (.int vi4), .val (.int vi5)] [(.ref vr0)])) _
    refine XS.iloadN X2.here hx rfl (hb hby d7_10) rfl ?_
    show Steps p.tables e below (T2.setTop (mkF m 11 #[.val (.ref vr0), .val (.ref vr1), .val (.int vi2), .val (.ref vr3), .val (.int vi4), .val (.int vi5)] [(.int vi2), (.ref vr0)])) _
    refine st3 _ ?_
    show Steps p.tables e below (T3.setTop (mkF m 14 #[.val (.ref vr0), .val (.ref vr1), .val (.int vi2), .val (.ref vr3), .val (.int vi4), .val (.int vi5)] [])) _
    refine XS.aloadN X3.here hx rfl (hb hby d7_14) rfl rfl ?_
    show Steps p.tables e below (T3.setTop (mkF m 15 #[.val (.ref vr0), .val (.ref vr1), .val (.int vi2), .val (.ref vr3), .val (.int vi4), .val (.int vi5)] [(.ref vr0)])) _
    refine XS.aloadN X3.here hx rfl (hb hby d7_15) rfl rfl ?_
    show Steps p.tables e below (T3.setTop (mkF m 16 #[.val (.ref vr0), .val (.ref vr1), .val (.int vi2), .val (.ref vr3), .val (.int vi4), .val (.int vi5)] [(.ref vr3), (.ref vr0)])) _
    refine st4 _ ?_
    show Steps p.tables e below (T4.setTop (mkF m 19 #[.val (.ref vr0), .val (.ref vr1), .val (.int vi2), .val (.ref vr3), .val (.int vi4), .val (.int vi5)] [])) _
    refine XS.aloadN X4.here hx rfl (hb hby d7_19) rfl rfl ?_
    show Steps p.tables e below (T4.setTop (mkF m 20 #[.val (.ref vr0), .val (.ref vr1), .val (.int vi2), .val (.ref vr3), .val (.int vi4), .val (.int vi5)] [(.ref vr0)])) _
    refine XS.iload X4.here hx rfl (hb hby d7_20) rfl ?_
    show Steps p.tables e below (T4.setTop (mkF m 22 #[.val (.ref vr0), .val (.ref vr1), .val (.int vi2), .val (.ref vr3), .val (.int vi4), .val (.int vi5)] [(.int vi4), (.ref vr0)])) _
    refine st5 _ ?_
    show Steps p.tables e below (T5.setTop (mkF m 25 #[.val (.ref vr0), .val (.ref vr1), .val (.int vi2), .val (.ref vr3), .val (.int vi4), .val (.int vi5)] [])) _
    refine XS.aloadN X5.here hx rfl (hb hby d7_25) rfl rfl ?_
    show Steps p.tables e below (T5.setTop (mkF m 26 #[.val (.ref vr0), .val (.ref vr1), .val (.int vi2), .val (.ref vr3), .val (.int vi4), .val (.int vi5)] [(.ref vr0)])) _
    refine XS.iload X5.here hx rfl (hb hby d7_26) rfl ?_
    show Steps p.tables e below (T5.setTop (mkF m 28 #[.val (.ref vr0), .val (.ref vr1), .val (.int vi2), .val (.ref vr3), .val (.int vi4), .val (.int vi5)] [(.int vi5), (.ref vr0)])) _
    refine st6 _ ?_
    show Steps p.tables e below (T6.setTop (mkF m 31 #[.val (.ref vr0), .val (.ref vr1), .val (.int vi2), .val (.ref vr3), .val (.int vi4), .val (.int vi5)] [])) _
    exact X6.returnOut hx Bd.returns (hb hby d7_31) hr
  · show Q7_R Z vr0 vr1 vi2 vr3 vi4 vi5 u_name_vr0 u_position_vr0 u_lineage_vr0 u_inherited_vr0 u_local_vr0 h0 n0 _ T6.heap _
    rw [e6]
    exact ⟨rfl, N6, K6, ((((Fw2.other W3 (Or.inr (sl_10 hw))).other W4 (Or.inr (sl_11 hw))).other W5 (Or.inr (sl_12 hw))).other W6 (Or.inr (sl_13 hw))), (((Fw3.other W4 (Or.inr (sl_14 hw))).other W5 (Or.inr (sl_15 hw))).other W6 (Or.inr (sl_16 hw))), ((Fw4.other W5 (Or.inr (sl_17 hw))).other W6 (Or.inr (sl_18 hw))), (Fw5.other W6 (Or.inr (sl_19 hw))), Fw6⟩
theorem d9_0 : decode prog_96_method_3_code 0 = .ok (.new 8, 3) := by decide +kernel
theorem wd_57 {Z : State} {a0 : Array Value} (hw : ∀ d ∈ tables_1, d.before a0 Z = true) : ((Jvm.Cond.classLink "com/example/vernacular/vernacular/Table$Column" (8 : Nat) "com/example/vernacular/vernacular/Table$Column")).before a0 Z = true := hw _ (List.mem_of_getElem? (i := 57) rfl)
theorem wd_32 {Z : State} {a0 : Array Value} (hw : ∀ d ∈ tables_1, d.before a0 Z = true) : ((Jvm.Cond.initialized "com/example/vernacular/vernacular/Table$Column")).before a0 Z = true := hw _ (List.mem_of_getElem? (i := 32) rfl)
theorem d9_3 : decode prog_96_method_3_code 3 = .ok (.dup, 1) := by decide +kernel
theorem d9_4 : decode prog_96_method_3_code 4 = .ok (.aload_n 0, 1) := by decide +kernel
theorem d9_5 : decode prog_96_method_3_code 5 = .ok (.getfield 7, 3) := by decide +kernel
theorem d9_8 : decode prog_96_method_3_code 8 = .ok (.aload_n 0, 1) := by decide +kernel
theorem d9_9 : decode prog_96_method_3_code 9 = .ok (.getfield 13, 3) := by decide +kernel
theorem d9_12 : decode prog_96_method_3_code 12 = .ok (.aload_n 0, 1) := by decide +kernel
theorem d9_13 : decode prog_96_method_3_code 13 = .ok (.getfield 17, 3) := by decide +kernel
theorem d9_16 : decode prog_96_method_3_code 16 = .ok (.aload_n 0, 1) := by decide +kernel
theorem d9_17 : decode prog_96_method_3_code 17 = .ok (.getfield 21, 3) := by decide +kernel
theorem d9_20 : decode prog_96_method_3_code 20 = .ok (.iload_n 1, 1) := by decide +kernel
theorem d9_21 : decode prog_96_method_3_code 21 = .ok (.iadd, 1) := by decide +kernel
theorem d9_22 : decode prog_96_method_3_code 22 = .ok (.iload_n 2, 1) := by decide +kernel
theorem d9_23 : decode prog_96_method_3_code 23 = .ok (.invokespecial 39, 3) := by decide +kernel
theorem wd_58 {Z : State} {a0 : Array Value} (hw : ∀ d ∈ tables_1, d.before a0 Z = true) : ((Jvm.Cond.methodLink "com/example/vernacular/vernacular/Table$Column" (39 : Nat) ({ cls := "com/example/vernacular/vernacular/Table$Column", name := "<init>", desc := "(Ljava/lang/String;ILcom/example/vernacular/vernacular/Lineage;IZ)V" } : Jvm.MethodName))).before a0 Z = true := hw _ (List.mem_of_getElem? (i := 58) rfl)
theorem wd_35 {Z : State} {a0 : Array Value} (hw : ∀ d ∈ tables_1, d.before a0 Z = true) : ((Jvm.Cond.code ({ cls := "com/example/vernacular/vernacular/Table$Column", name := "<init>", desc := "(Ljava/lang/String;ILcom/example/vernacular/vernacular/Lineage;IZ)V" } : Jvm.MethodName) prog_96_method_1_code (6 : Nat) (Option.none : Option Jvm.ClassFile.FieldType))).before a0 Z = true := hw _ (List.mem_of_getElem? (i := 35) rfl)
theorem pd_6 : parseMethodDescriptor "(Ljava/lang/String;ILcom/example/vernacular/vernacular/Lineage;IZ)V" = some ⟨[(.object "java/lang/String"), .int, (.object "com/example/vernacular/vernacular/Lineage"), .int, .boolean], none⟩ := by decide +kernel
theorem wd_34 {Z : State} {a0 : Array Value} (hw : ∀ d ∈ tables_1, d.before a0 Z = true) : ((Jvm.Cond.instanceMethod ({ cls := "com/example/vernacular/vernacular/Table$Column", name := "<init>", desc := "(Ljava/lang/String;ILcom/example/vernacular/vernacular/Lineage;IZ)V" } : Jvm.MethodName))).before a0 Z = true := hw _ (List.mem_of_getElem? (i := 34) rfl)
theorem d9_26 : decode prog_96_method_3_code 26 = .ok (.areturn, 1) := by decide +kernel
theorem ef_9_R (m : MethodId) (x0 : Addr) (x1 : Int32) (x2 : Int32) : entryFrame m #[(.ref x0), (.int x1), (.int x2)] 3 = mkF m 0 #[.val (.ref x0), .val (.int x1), .val (.int x2)] [] := by first | (simp [entryFrame, mkF, argsToLocals, Value.category]; done) | rfl
def Q9_R (Z : State) (vr0 : Addr) (vi1 : Int32) (vi2 : Int32) (w_name_vr0 : Addr) (w_position_vr0 : Int32) (w_lineage_vr0 : Addr) (w_inherited_vr0 : Int32) (h0 : Heap) (n0 : Nat) (v : Option Value) (h : Heap) (L : List Loc) : Prop := ∃ r : Addr, v = some (.ref r) ∧ Fr n0 L ∧ Keep h0 h [] ∧ h0.size ≤ r ∧ Exa Z h r "com/example/vernacular/vernacular/Table$Column" ∧ Fld Z h r "com/example/vernacular/vernacular/Table$Column" "name" "Ljava/lang/String;" (.ref w_name_vr0) ∧ Fld Z h r "com/example/vernacular/vernacular/Table$Column" "position" "I" (.int w_position_vr0) ∧ Fld Z h r "com/example/vernacular/vernacular/Table$Column" "lineage" "Lcom/example/vernacular/vernacular/Lineage;" (.ref w_lineage_vr0) ∧ Fld Z h r "com/example/vernacular/vernacular/Table$Column" "inherited" "I" (.int (w_inherited_vr0 + vi1)) ∧ Fld Z h r "com/example/vernacular/vernacular/Table$Column" "local" "Z" (.int vi2)
set_option maxRecDepth 65536 in
set_option maxHeartbeats 40000000 in
theorem rm9_R (l : Launch) (Z : State) (a0 : Array Value) (hw : ∀ d ∈ tables_1, d.before a0 Z = true) (ws : List Jvm.Cond) (vr0 : Addr) (vi1 : Int32) (vi2 : Int32) (w_name_vr0 : Addr) (w_position_vr0 : Int32) (w_lineage_vr0 : Addr) (w_inherited_vr0 : Int32) (h0 : Heap) (n0 : Nat) (Z0 : n0 ≤ h0.size) (F_name_vr0 : Fld Z h0 vr0 "com/example/vernacular/vernacular/Table$Column" "name" "Ljava/lang/String;" (.ref w_name_vr0)) (F_position_vr0 : Fld Z h0 vr0 "com/example/vernacular/vernacular/Table$Column" "position" "I" (.int w_position_vr0)) (F_lineage_vr0 : Fld Z h0 vr0 "com/example/vernacular/vernacular/Table$Column" "lineage" "Lcom/example/vernacular/vernacular/Lineage;" (.ref w_lineage_vr0)) (F_inherited_vr0 : Fld Z h0 vr0 "com/example/vernacular/vernacular/Table$Column" "inherited" "I" (.int w_inherited_vr0)) (hz : nar .boolean vi2 = vi2) :
    MetFree l (⟨"com/example/vernacular/vernacular/Table$Column", "inheriting", "(IZ)Lcom/example/vernacular/vernacular/Table$Column;"⟩ : MethodName) (head1 (Jvm.Cond.code (⟨"com/example/vernacular/vernacular/Table$Column", "inheriting", "(IZ)Lcom/example/vernacular/vernacular/Table$Column;"⟩ : MethodName) prog_96_method_3_code 3 (some (.object "com/example/vernacular/vernacular/Table$Column")) :: ws) ({ frames := 3, cells := 1, slots := 5, locals := 42 } : Room)) (fun a U => a = #[(.ref vr0), (.int vi1), (.int vi2)] ∧ Z.Warmed39 U.vm ∧ U.heap = h0) (fun _ _ _ _ _ => True) (fun _ U o U' => ∃ v L, o = .returned v ∧ Q9_R Z vr0 vi1 vi2 w_name_vr0 w_position_vr0 w_lineage_vr0 w_inherited_vr0 h0 n0 v U'.heap L ∧ FrameEnd U o U' L ({ frames := 3, cells := 1, slots := 5, locals := 42 } : Room).cells ({ frames := 3, cells := 1, slots := 5, locals := 42 } : Room).slots) := by
  refine MetFree.of_bodySF (plainFor_of_name pn_com_example_vernacular_vernacular_Table_Column) hisR ?_
  intro p e s m args below meth c s₁ Bd hml0 hP hK
  obtain ⟨rfl, hZ, hh⟩ := hP
  have hx := Bd.exec
  have hby := Bd.bytes
  have hml : c.maxLocals = 3 := hml0
  have hown : s.vm.findClass "com/example/vernacular/vernacular/Table$Column" = some m.cls := findClass_of_methodNamed Bd.named
  have hnm := (name_of_methodNamed Bd.named Bd.method).1
  have X0 : Stand p l e ({ frames := 3, cells := 1, slots := 5, locals := 42 } : Room) s m #[(.ref vr0), (.int vi1), (.int vi2)] below meth c s₁ [] 0 0 := Stand.of_body Bd
  have e0 : s₁.heap = h0 := by rw [← hh, Bd.state]; rfl
  have N0 := Fr.nil n0
  have pre0 : ∀ t, Steps p.tables e below (s₁.setTop (mkF m 0 #[.val (.ref vr0), .val (.int vi1), .val (.int vi2)] [])) t → Steps p.tables e below (s₁.setTop (entryFrame m #[(.ref vr0), (.int vi1), (.int vi2)] 3)) t := fun t k => castTop (ef_9_R m vr0 vi1 vi2) k
  obtain ⟨T1, h1, X1, e1, E1, A1, D1, -, st1⟩ := newO X0 hx hZ hown (wd_57 hw) (wd_31 hw) (wd_32 hw) e0 (g := (mkF m 0 #[.val (.ref vr0), .val (.int vi1), .val (.int vi2)] [])) rfl (hb hby d9_0) (by decide) (by decide)
  obtain ⟨b1, g1⟩ : ∃ z, z = h0.size := ⟨_, rfl⟩
  rw [← g1] at A1 D1 st1
  have g_b1 : n0 ≤ b1 := Nat.le_trans Z0 (Nat.le_of_eq g1.symm)
  have sz_b1 : h0.size ≤ b1 := Nat.le_trans (Keep.refl h0 []).1 (Nat.le_of_eq g1.symm)
  have K1 : Keep h0 h1 [] := (Keep.refl h0 []).ext E1
  have F_name_b1 : Fld Z h1 b1 "com/example/vernacular/vernacular/Table$Column" "name" "Ljava/lang/String;" .null := D1 (Or.inr (wd_43 hw)) (ty := (.object "java/lang/String")) (by decide)
  have F_position_b1 : Fld Z h1 b1 "com/example/vernacular/vernacular/Table$Column" "position" "I" (.int (0 : Int32)) := D1 (Or.inr (wd_45 hw)) (ty := .int) (by decide)
  have F_lineage_b1 : Fld Z h1 b1 "com/example/vernacular/vernacular/Table$Column" "lineage" "Lcom/example/vernacular/vernacular/Lineage;" .null := D1 (Or.inr (wd_47 hw)) (ty := (.object "com/example/vernacular/vernacular/Lineage")) (by decide)
  have F_inherited_b1 : Fld Z h1 b1 "com/example/vernacular/vernacular/Table$Column" "inherited" "I" (.int (0 : Int32)) := D1 (Or.inr (wd_49 hw)) (ty := .int) (by decide)
  have F_local_b1 : Fld Z h1 b1 "com/example/vernacular/vernacular/Table$Column" "local" "Z" (.int (0 : Int32)) := D1 (Or.inr (wd_51 hw)) (ty := .boolean) (by decide)
  obtain ⟨T2, X2, e2, st2⟩ := getF X1 hx hZ hown (host := "") (Or.inl (wd_42 hw)) Via.refl e1 (F_name_vr0.ext E1) (g := (mkF m 5 #[.val (.ref vr0), .val (.int vi1), .val (.int vi2)] [(.ref vr0), (.ref b1), (.ref b1)])) rfl rfl (hb hby d9_5)
  obtain ⟨T3, X3, e3, st3⟩ := getF X2 hx hZ hown (host := "") (Or.inl (wd_44 hw)) Via.refl e2 (F_position_vr0.ext E1) (g := (mkF m 9 #[.val (.ref vr0), .val (.int vi1), .val (.int vi2)] [(.ref vr0), (.ref w_name_vr0), (.ref b1), (.ref b1)])) rfl rfl (hb hby d9_9)
  obtain ⟨T4, X4, e4, st4⟩ := getF X3 hx hZ hown (host := "") (Or.inl (wd_46 hw)) Via.refl e3 (F_lineage_vr0.ext E1) (g := (mkF m 13 #[.val (.ref vr0), .val (.int vi1), .val (.int vi2)] [(.ref vr0), (.int w_position_vr0), (.ref w_name_vr0), (.ref b1), (.ref b1)])) rfl rfl (hb hby d9_13)
  obtain ⟨T5, X5, e5, st5⟩ := getF X4 hx hZ hown (host := "") (Or.inl (wd_48 hw)) Via.refl e4 (F_inherited_vr0.ext E1) (g := (mkF m 17 #[.val (.ref vr0), .val (.int vi1), .val (.int vi2)] [(.ref vr0), (.ref w_lineage_vr0), (.int w_position_vr0), (.ref w_name_vr0), (.ref b1), (.ref b1)])) rfl rfl (hb hby d9_17)
  obtain ⟨_, _, ⟨T6, L6, k6, n6⟩, -, X6, ⟨Lc6, hQ6, l6, y6, z6⟩, st6⟩ := X5.specialBack hx (y := (⟨"com/example/vernacular/vernacular/Table$Column", "<init>", "(Ljava/lang/String;ILcom/example/vernacular/vernacular/Lineage;IZ)V"⟩ : MethodName)) rfl hown (mvT hZ (wd_58 hw)) (mvT hZ (wd_34 hw)) (mvT hZ (wd_35 hw)) (by decide) (backOf (W := 1) (rm7_R l Z a0 hw [] b1 w_name_vr0 w_position_vr0 w_lineage_vr0 (w_inherited_vr0 + vi1) vi2 .null (.int (0 : Int32)) .null (.int (0 : Int32)) (.int (0 : Int32)) h1 n0 (Nat.le_trans Z0 E1.1) hz A1 F_name_b1 g_b1 F_position_b1 F_lineage_b1 F_inherited_b1 F_local_b1) hZ (wd_35 hw) (wd_32 hw) (by decide) (by decide)) (g := (mkF m 23 #[.val (.ref vr0), .val (.int vi1), .val (.int vi2)] [(.int vi2), (.int (w_inherited_vr0 + vi1)), (.ref w_lineage_vr0), (.int w_position_vr0), (.ref w_name_vr0), (.ref b1), (.ref b1)])) rfl (by rw [hml]; rfl) (Steps.refl _) (a := b1) (argsL := [(.ref w_name_vr0), (.int w_position_vr0), (.ref w_lineage_vr0), (.int (w_inherited_vr0 + vi1)), (.int vi2)]) (rest := [(.ref b1)]) (lenOf pd_6 rfl) rfl (by show 2 * 0 + _ ≤ _; exact Nat.le_of_eq rfl) (hb hby d9_23) (fun _ _ => ⟨rfl, e5, (by decide : 1 + 0 ≤ _), (by decide : 5 + 0 ≤ _)⟩)
  dsimp only [Pt.U, Pt.locs, Pt.cells, Pt.slots] at X6 l6 y6 z6 st6 hQ6
  subst l6 y6 z6
  obtain ⟨rfl, N6q, p6_0, p6_1, p6_2, p6_3, p6_4, p6_5⟩ := hQ6
  have N6 := Fr.app N0 N6q
  have K6 : Keep h0 T6.heap [] := K1.trans p6_0 (allS (Or.inr sz_b1) all0)
  obtain ⟨fs, hr, hrun, hended, hW, hsame⟩ := X6.leave (v := some (.ref b1)) (fun h => by rw [Bd.returns] at h; cases h)
  refine ⟨_, _, pre0 _ ?_, hrun, hended, _, _, rfl, ?_, ⟨_, rfl⟩, hW, hsame.mono (by decide) (by decide)⟩
  · show Steps p.tables e below (s₁.setTop (mkF m 0 #[.val (.ref vr0), .val (.int vi1), .val (.int vi2)] [])) _
    refine st1 _ ?_
    show Steps p.tables e below (T1.setTop (mkF m 3 #[.val (.ref vr0), .val (.int vi1), .val (.int vi2)] [(.ref b1)])) _
    refine XS.dup X1.here hx rfl (hb hby d9_3) rfl rfl ?_
    show Steps p.tables e below (T1.setTop (mkF m 4 #[.val (.ref vr0), .val (.int vi1), .val (.int vi2)] [(.ref b1), (.ref b1)])) _
    refine XS.aloadN X1.here hx rfl (hb hby d9_4) rfl rfl ?_
    show Steps p.tables e below (T1.setTop (mkF m 5 #[.val (.ref vr0), .val (.int vi1), .val (.int vi2)] [(.ref vr0), (.ref b1), (.ref b1)])) _
    refine st2 _ ?_
    show Steps p.tables e below (T2.setTop (mkF m 8 #[.val (.ref vr0), .val (.int vi1), .val (.int vi2)] [(.ref w_name_vr0), (.ref b1), (.ref b1)])) _
    refine XS.aloadN X2.here hx rfl (hb hby d9_8) rfl rfl ?_
    show Steps p.tables e below (T2.setTop (mkF m 9 #[.val (.ref vr0), .val (.int vi1), .val (.int vi2)] [(.ref vr0), (.ref w_name_vr0), (.ref b1), (.ref b1)])) _
    refine st3 _ ?_
    show Steps p.tables e below (T3.setTop (mkF m 12 #[.val (.ref vr0), .val (.int vi1), .val (.int vi2)] [(.int w_position_vr0), (.ref w_name_vr0), (.ref b1), (.ref b1)])) _
    refine XS.aloadN X3.here hx rfl (hb hby d9_12) rfl rfl ?_
    show Steps p.tables e below (T3.setTop (mkF m 13 #[.val (.ref vr0), .val (.int vi1), .val (.int vi2)] [(.ref vr0), (.int w_position_vr0), (.ref w_name_vr0), (.ref b1), (.ref b1)])) _
    refine st4 _ ?_
    show Steps p.tables e below (T4.setTop (mkF m 16 #[.val (.ref vr0), .val (.int vi1), .val (.int vi2)] [(.ref w_lineage_vr0), (.int w_position_vr0), (.ref w_name_vr0), (.ref b1), (.ref b1)])) _
    refine XS.aloadN X4.here hx rfl (hb hby d9_16) rfl rfl ?_
    show Steps p.tables e below (T4.setTop (mkF m 17 #[.val (.ref vr0), .val (.int vi1), .val (.int vi2)] [(.ref vr0), (.ref w_lineage_vr0), (.int w_position_vr0), (.ref w_name_vr0), (.ref b1), (.ref b1)])) _
    refine st5 _ ?_
    show Steps p.tables e below (T5.setTop (mkF m 20 #[.val (.ref vr0), .val (.int vi1), .val (.int vi2)] [(.int w_inherited_vr0), (.ref w_lineage_vr0), (.int w_position_vr0), (.ref w_name_vr0), (.ref b1), (.ref b1)])) _
    refine XS.iloadN X5.here hx rfl (hb hby d9_20) rfl ?_
    show Steps p.tables e below (T5.setTop (mkF m 21 #[.val (.ref vr0), .val (.int vi1), .val (.int vi2)] [(.int vi1), (.int w_inherited_vr0), (.ref w_lineage_vr0), (.int w_position_vr0), (.ref w_name_vr0), (.ref b1), (.ref b1)])) _
    refine XS.iadd X5.here hx rfl (hb hby d9_21) rfl ?_
    show Steps p.tables e below (T5.setTop (mkF m 22 #[.val (.ref vr0), .val (.int vi1), .val (.int vi2)] [(.int (w_inherited_vr0 + vi1)), (.ref w_lineage_vr0), (.int w_position_vr0), (.ref w_name_vr0), (.ref b1), (.ref b1)])) _
    refine XS.iloadN X5.here hx rfl (hb hby d9_22) rfl ?_
    show Steps p.tables e below (T5.setTop (mkF m 23 #[.val (.ref vr0), .val (.int vi1), .val (.int vi2)] [(.int vi2), (.int (w_inherited_vr0 + vi1)), (.ref w_lineage_vr0), (.int w_position_vr0), (.ref w_name_vr0), (.ref b1), (.ref b1)])) _
    refine st6.trans ?_
    show Steps p.tables e below (T6.setTop (mkF m 26 #[.val (.ref vr0), .val (.int vi1), .val (.int vi2)] [(.ref b1)])) _
    jvm_step X6.here [X6.here.top, hx, (hb hby d9_26), X6.method', Bd.returns, Value.isRef, FieldType.isReference]
    first | (intro acts; rw [hr _ acts rfl rfl rfl]) | rw [hr _ _ rfl rfl rfl]
    exact Steps.refl _
  · show Q9_R Z vr0 vi1 vi2 w_name_vr0 w_position_vr0 w_lineage_vr0 w_inherited_vr0 h0 n0 _ T6.heap _
    exact ⟨b1, rfl, N6, K6, sz_b1, (A1.keep p6_0), p6_1, p6_2, p6_3, p6_4, p6_5⟩
theorem d13_0 : decode prog_96_method_9_code 0 = .ok (.aload_n 0, 1) := by decide +kernel
theorem d13_1 : decode prog_96_method_9_code 1 = .ok (.getfield 17, 3) := by decide +kernel
theorem d13_4 : decode prog_96_method_9_code 4 = .ok (.areturn, 1) := by decide +kernel
theorem ef_13_R (m : MethodId) (x0 : Addr) : entryFrame m #[(.ref x0)] 1 = mkF m 0 #[.val (.ref x0)] [] := by first | (simp [entryFrame, mkF, argsToLocals, Value.category]; done) | rfl
def Q13_R (Z : State) (vr0 : Addr) (w_lineage_vr0 : Addr) (h0 : Heap) (n0 : Nat) (v : Option Value) (h : Heap) (L : List Loc) : Prop := v = some (.ref w_lineage_vr0) ∧ Fr n0 L ∧ h = h0
set_option maxRecDepth 65536 in
set_option maxHeartbeats 40000000 in
theorem rm13_R (l : Launch) (Z : State) (a0 : Array Value) (hw : ∀ d ∈ tables_1, d.before a0 Z = true) (ws : List Jvm.Cond) (vr0 : Addr) (w_lineage_vr0 : Addr) (h0 : Heap) (n0 : Nat) (Z0 : n0 ≤ h0.size) (F_lineage_vr0 : Fld Z h0 vr0 "com/example/vernacular/vernacular/Table$Column" "lineage" "Lcom/example/vernacular/vernacular/Lineage;" (.ref w_lineage_vr0)) :
    MetFree l (⟨"com/example/vernacular/vernacular/Table$Column", "lineage", "()Lcom/example/vernacular/vernacular/Lineage;"⟩ : MethodName) (head1 (Jvm.Cond.code (⟨"com/example/vernacular/vernacular/Table$Column", "lineage", "()Lcom/example/vernacular/vernacular/Lineage;"⟩ : MethodName) prog_96_method_9_code 1 (some (.object "com/example/vernacular/vernacular/Lineage")) :: ws) ({ frames := 0, cells := 0, slots := 0, locals := 0 } : Room)) (fun a U => a = #[(.ref vr0)] ∧ Z.Warmed39 U.vm ∧ U.heap = h0) (fun _ _ _ _ _ => True) (fun _ U o U' => ∃ v L, o = .returned v ∧ Q13_R Z vr0 w_lineage_vr0 h0 n0 v U'.heap L ∧ FrameEnd U o U' L ({ frames := 0, cells := 0, slots := 0, locals := 0 } : Room).cells ({ frames := 0, cells := 0, slots := 0, locals := 0 } : Room).slots) := by
  refine MetFree.of_bodySF (plainFor_of_name pn_com_example_vernacular_vernacular_Table_Column) hisR ?_
  intro p e s m args below meth c s₁ Bd hml0 hP hK
  obtain ⟨rfl, hZ, hh⟩ := hP
  have hx := Bd.exec
  have hby := Bd.bytes
  have hml : c.maxLocals = 1 := hml0
  have hown : s.vm.findClass "com/example/vernacular/vernacular/Table$Column" = some m.cls := findClass_of_methodNamed Bd.named
  have hnm := (name_of_methodNamed Bd.named Bd.method).1
  have X0 : Stand p l e ({ frames := 0, cells := 0, slots := 0, locals := 0 } : Room) s m #[(.ref vr0)] below meth c s₁ [] 0 0 := Stand.of_body Bd
  have e0 : s₁.heap = h0 := by rw [← hh, Bd.state]; rfl
  have N0 := Fr.nil n0
  have pre0 : ∀ t, Steps p.tables e below (s₁.setTop (mkF m 0 #[.val (.ref vr0)] [])) t → Steps p.tables e below (s₁.setTop (entryFrame m #[(.ref vr0)] 1)) t := fun t k => castTop (ef_13_R m vr0) k
  obtain ⟨T1, X1, e1, st1⟩ := getF X0 hx hZ hown (host := "") (Or.inl (wd_46 hw)) Via.refl e0 F_lineage_vr0 (g := (mkF m 1 #[.val (.ref vr0)] [(.ref vr0)])) rfl rfl (hb hby d13_1)
  obtain ⟨fs, hr, hrun, hended, hW, hsame⟩ := X1.leave (v := some (.ref w_lineage_vr0)) (fun h => by rw [Bd.returns] at h; cases h)
  refine ⟨_, _, pre0 _ ?_, hrun, hended, _, _, rfl, ?_, ⟨_, rfl⟩, hW, hsame.mono (by decide) (by decide)⟩
  · show Steps p.tables e below (s₁.setTop (mkF m 0 #[.val (.ref vr0)] [])) _
    refine XS.aloadN X0.here hx rfl (hb hby d13_0) rfl rfl ?_
    show Steps p.tables e below (s₁.setTop (mkF m 1 #[.val (.ref vr0)] [(.ref vr0)])) _
    refine st1 _ ?_
    show Steps p.tables e below (T1.setTop (mkF m 4 #[.val (.ref vr0)] [(.ref w_lineage_vr0)])) _
    jvm_step X1.here [X1.here.top, hx, (hb hby d13_4), X1.method', Bd.returns, Value.isRef, FieldType.isReference]
    first | (intro acts; rw [hr _ acts rfl rfl rfl]) | rw [hr _ _ rfl rfl rfl]
    exact Steps.refl _
  · show Q13_R Z vr0 w_lineage_vr0 h0 n0 _ T1.heap _
    rw [e1]
    exact ⟨rfl, N0, rfl⟩
theorem ef_7_N (m : MethodId) (x0 : Addr) (x1 : Addr) (x2 : Int32) (x4 : Int32) (x5 : Int32) : entryFrame m #[(.ref x0), (.ref x1), (.int x2), .null, (.int x4), (.int x5)] 6 = mkF m 0 #[.val (.ref x0), .val (.ref x1), .val (.int x2), .val .null, .val (.int x4), .val (.int x5)] [] := by first | (simp [entryFrame, mkF, argsToLocals, Value.category]; done) | rfl
def Q7_N (Z : State) (vr0 : Addr) (vr1 : Addr) (vi2 : Int32) (vi4 : Int32) (vi5 : Int32) (u_name_vr0 : Value) (u_position_vr0 : Value) (u_lineage_vr0 : Value) (u_inherited_vr0 : Value) (u_local_vr0 : Value) (h0 : Heap) (n0 : Nat) (v : Option Value) (h : Heap) (L : List Loc) : Prop := v = none ∧ Fr n0 L ∧ Keep h0 h [vr0] ∧ Fld Z h vr0 "com/example/vernacular/vernacular/Table$Column" "name" "Ljava/lang/String;" (.ref vr1) ∧ Fld Z h vr0 "com/example/vernacular/vernacular/Table$Column" "position" "I" (.int vi2) ∧ Fld Z h vr0 "com/example/vernacular/vernacular/Table$Column" "lineage" "Lcom/example/vernacular/vernacular/Lineage;" .null ∧ Fld Z h vr0 "com/example/vernacular/vernacular/Table$Column" "inherited" "I" (.int vi4) ∧ Fld Z h vr0 "com/example/vernacular/vernacular/Table$Column" "local" "Z" (.int vi5)
set_option maxRecDepth 65536 in
set_option maxHeartbeats 40000000 in
theorem rm7_N (l : Launch) (Z : State) (a0 : Array Value) (hw : ∀ d ∈ tables_1, d.before a0 Z = true) (ws : List Jvm.Cond) (vr0 : Addr) (vr1 : Addr) (vi2 : Int32) (vi4 : Int32) (vi5 : Int32) (u_name_vr0 : Value) (u_position_vr0 : Value) (u_lineage_vr0 : Value) (u_inherited_vr0 : Value) (u_local_vr0 : Value) (h0 : Heap) (n0 : Nat) (Z0 : n0 ≤ h0.size) (hz : nar .boolean vi5 = vi5) (E_vr0 : Exa Z h0 vr0 "com/example/vernacular/vernacular/Table$Column") (F_name_vr0 : Fld Z h0 vr0 "com/example/vernacular/vernacular/Table$Column" "name" "Ljava/lang/String;" u_name_vr0) (g_vr0 : n0 ≤ vr0) (F_position_vr0 : Fld Z h0 vr0 "com/example/vernacular/vernacular/Table$Column" "position" "I" u_position_vr0) (F_lineage_vr0 : Fld Z h0 vr0 "com/example/vernacular/vernacular/Table$Column" "lineage" "Lcom/example/vernacular/vernacular/Lineage;" u_lineage_vr0) (F_inherited_vr0 : Fld Z h0 vr0 "com/example/vernacular/vernacular/Table$Column" "inherited" "I" u_inherited_vr0) (F_local_vr0 : Fld Z h0 vr0 "com/example/vernacular/vernacular/Table$Column" "local" "Z" u_local_vr0) :
    MetFree l (⟨"com/example/vernacular/vernacular/Table$Column", "<init>", "(Ljava/lang/String;ILcom/example/vernacular/vernacular/Lineage;IZ)V"⟩ : MethodName) (head1 (Jvm.Cond.code (⟨"com/example/vernacular/vernacular/Table$Column", "<init>", "(Ljava/lang/String;ILcom/example/vernacular/vernacular/Lineage;IZ)V"⟩ : MethodName) prog_96_method_1_code 6 none :: ws) ({ frames := 2, cells := 0, slots := 0, locals := 24 } : Room)) (fun a U => a = #[(.ref vr0), (.ref vr1), (.int vi2), .null, (.int vi4), (.int vi5)] ∧ Z.Warmed39 U.vm ∧ U.heap = h0) (fun _ _ _ _ _ => True) (fun _ U o U' => ∃ v L, o = .returned v ∧ Q7_N Z vr0 vr1 vi2 vi4 vi5 u_name_vr0 u_position_vr0 u_lineage_vr0 u_inherited_vr0 u_local_vr0 h0 n0 v U'.heap L ∧ FrameEnd U o U' L ({ frames := 2, cells := 0, slots := 0, locals := 24 } : Room).cells ({ frames := 2, cells := 0, slots := 0, locals := 24 } : Room).slots) := by
  refine MetFree.of_bodySF (plainFor_of_name pn_com_example_vernacular_vernacular_Table_Column) hisR ?_
  intro p e s m args below meth c s₁ Bd hml0 hP hK
  obtain ⟨rfl, hZ, hh⟩ := hP
  have hx := Bd.exec
  have hby := Bd.bytes
  have hml : c.maxLocals = 6 := hml0
  have hown : s.vm.findClass "com/example/vernacular/vernacular/Table$Column" = some m.cls := findClass_of_methodNamed Bd.named
  have hnm := (name_of_methodNamed Bd.named Bd.method).1
  have X0 : Stand p l e ({ frames := 2, cells := 0, slots := 0, locals := 24 } : Room) s m #[(.ref vr0), (.ref vr1), (.int vi2), .null, (.int vi4), (.int vi5)] below meth c s₁ [] 0 0 := Stand.of_body Bd
  have e0 : s₁.heap = h0 := by rw [← hh, Bd.state]; rfl
  have N0 := Fr.nil n0
  have pre0 : ∀ t, Steps p.tables e below (s₁.setTop (mkF m 0 #[.val (.ref vr0), .val (.ref vr1), .val (.int vi2), .val .null, .val (.int vi4), .val (.int vi5)] [])) t → Steps p.tables e below (s₁.setTop (entryFrame m #[(.ref vr0), (.ref vr1), (.int vi2), .null, (.int vi4), (.int vi5)] 6)) t := fun t k => castTop (ef_7_N m vr0 vr1 vi2 vi4 vi5) k
  obtain ⟨_, _, ⟨T1, L1, k1, n1⟩, -, X1, ⟨Lc1, hQ1, l1, y1, z1⟩, st1⟩ := X0.specialBack hx (y := (⟨"java/lang/Record", "<init>", "()V"⟩ : MethodName)) rfl hown (mvT hZ (wd_36 hw)) (mvT hZ (wd_37 hw)) (mvT hZ (wd_40 hw)) (by decide) (backOf (W := 0) (rm8 l Z a0 hw [] vr0 h0 n0 Z0 ) hZ (wd_40 hw) (wd_39 hw) (by decide) (by decide)) (g := (mkF m 1 #[.val (.ref vr0), .val (.ref vr1), .val (.int vi2), .val .null, .val (.int vi4), .val (.int vi5)] [(.ref vr0)])) rfl (by rw [hml]; rfl) (Steps.refl _) (a := vr0) (argsL := []) (rest := []) (lenOf pd_2 rfl) rfl (by show 2 * 0 + _ ≤ _; exact Nat.le_of_eq rfl) (hb hby d7_1) (fun _ _ => ⟨rfl, e0, (by decide : 0 + 0 ≤ _), (by decide : 0 + 0 ≤ _)⟩)
  dsimp only [Pt.U, Pt.locs, Pt.cells, Pt.slots] at X1 l1 y1 z1 st1 hQ1
  subst l1 y1 z1
  obtain ⟨rfl, N1q, p1_0⟩ := hQ1
  have N1 := Fr.app N0 N1q
  have e1 : T1.heap = h0 := p1_0
  obtain ⟨T2, h2, X2, e2, W2, st2⟩ := putF X1 hx hZ hown (host := "") (Or.inl (wd_42 hw)) Via.refl e1 F_name_vr0 E_vr0 (Or.inr ⟨(wd_43 hw), rfl, hnm⟩) (wd_31 hw) (ty := (.object "java/lang/String")) (by decide) rfl rfl (g := (mkF m 6 #[.val (.ref vr0), .val (.ref vr1), .val (.int vi2), .val .null, .val (.int vi4), .val (.int vi5)] [(.ref vr1), (.ref vr0)])) rfl rfl (hb hby d7_6)
  have Fw2 := F_name_vr0.same W2
  have N2 := Fr.snoc X2 N1 g_vr0
  have K2 : Keep h0 h2 [vr0] := (Keep.refl h0 [vr0]).wr W2 (Or.inl (List.mem_of_getElem? (i := 0) rfl))
  obtain ⟨T3, h3, X3, e3, W3, st3⟩ := putF X2 hx hZ hown (host := "") (Or.inl (wd_44 hw)) Via.refl e2 (F_position_vr0.other W2 (Or.inr (sl_0 hw))) (E_vr0.wr W2) (Or.inr ⟨(wd_45 hw), rfl, hnm⟩) (wd_31 hw) (ty := .int) (by decide) rfl rfl (g := (mkF m 11 #[.val (.ref vr0), .val (.ref vr1), .val (.int vi2), .val .null, .val (.int vi4), .val (.int vi5)] [(.int vi2), (.ref vr0)])) rfl rfl (hb hby d7_11)
  have Fw3 := (F_position_vr0.other W2 (Or.inr (sl_0 hw))).same W3
  have N3 := Fr.snoc X3 N2 g_vr0
  have K3 : Keep h0 h3 [vr0] := K2.wr W3 (Or.inl (List.mem_of_getElem? (i := 0) rfl))
  obtain ⟨T4, h4, X4, e4, W4, st4⟩ := putF X3 hx hZ hown (host := "") (Or.inl (wd_46 hw)) Via.refl e3 ((F_lineage_vr0.other W2 (Or.inr (sl_1 hw))).other W3 (Or.inr (sl_2 hw))) ((E_vr0.wr W2).wr W3) (Or.inr ⟨(wd_47 hw), rfl, hnm⟩) (wd_31 hw) (ty := (.object "com/example/vernacular/vernacular/Lineage")) (by decide) rfl rfl (g := (mkF m 16 #[.val (.ref vr0), .val (.ref vr1), .val (.int vi2), .val .null, .val (.int vi4), .val (.int vi5)] [.null, (.ref vr0)])) rfl rfl (hb hby d7_16)
  have Fw4 := ((F_lineage_vr0.other W2 (Or.inr (sl_1 hw))).other W3 (Or.inr (sl_2 hw))).same W4
  have N4 := Fr.snoc X4 N3 g_vr0
  have K4 : Keep h0 h4 [vr0] := K3.wr W4 (Or.inl (List.mem_of_getElem? (i := 0) rfl))
  obtain ⟨T5, h5, X5, e5, W5, st5⟩ := putF X4 hx hZ hown (host := "") (Or.inl (wd_48 hw)) Via.refl e4 (((F_inherited_vr0.other W2 (Or.inr (sl_3 hw))).other W3 (Or.inr (sl_4 hw))).other W4 (Or.inr (sl_5 hw))) (((E_vr0.wr W2).wr W3).wr W4) (Or.inr ⟨(wd_49 hw), rfl, hnm⟩) (wd_31 hw) (ty := .int) (by decide) rfl rfl (g := (mkF m 22 #[.val (.ref vr0), .val (.ref vr1), .val (.int vi2), .val .null, .val (.int vi4), .val (.int vi5)] [(.int vi4), (.ref vr0)])) rfl rfl (hb hby d7_22)
  have Fw5 := (((F_inherited_vr0.other W2 (Or.inr (sl_3 hw))).other W3 (Or.inr (sl_4 hw))).other W4 (Or.inr (sl_5 hw))).same W5
  have N5 := Fr.snoc X5 N4 g_vr0
  have K5 : Keep h0 h5 [vr0] := K4.wr W5 (Or.inl (List.mem_of_getElem? (i := 0) rfl))
  obtain ⟨T6, h6, X6, e6, W6, st6⟩ := putFN X5 hx hZ hown (wd_50 hw) Via.refl e5 ((((F_local_vr0.other W2 (Or.inr (sl_6 hw))).other W3 (Or.inr (sl_7 hw))).other W4 (Or.inr (sl_8 hw))).other W5 (Or.inr (sl_9 hw))) ((((E_vr0.wr W2).wr W3).wr W4).wr W5) (Or.inr ⟨(wd_51 hw), rfl, hnm⟩) (wd_31 hw) (ty := .boolean) (v := (.int vi5)) (v' := (.int vi5)) (by decide) (congrArg Value.int hz) (by have hq := fits_nar_bool vi5; rwa [hz] at hq) (g := (mkF m 28 #[.val (.ref vr0), .val (.ref vr1), .val (.int vi2), .val .null, .val (.int vi4), .val (.int vi5)] [(.int vi5), (.ref vr0)])) rfl rfl (hb hby d7_28)
  have Fw6 := ((((F_local_vr0.other W2 (Or.inr (sl_6 hw))).other W3 (Or.inr (sl_7 hw))).other W4 (Or.inr (sl_8 hw))).other W5 (Or.inr (sl_9 hw))).same W6
  have N6 := Fr.snoc X6 N5 g_vr0
  have K6 : Keep h0 h6 [vr0] := K5.wr W6 (Or.inl (List.mem_of_getElem? (i := 0) rfl))
  obtain ⟨fs, hr, hrun, hended, hW, hsame⟩ := X6.leave (v := none) (fun _ => rfl)
  refine ⟨_, _, pre0 _ ?_, hrun, hended, _, _, rfl, ?_, ⟨_, rfl⟩, hW, hsame.mono (by decide) (by decide)⟩
  · show Steps p.tables e below (s₁.setTop (mkF m 0 #[.val (.ref vr0), .val (.ref vr1), .val (.int vi2), .val .null, .val (.int vi4), .val (.int vi5)] [])) _
    refine XS.aloadN X0.here hx rfl (hb hby d7_0) rfl rfl ?_
    show Steps p.tables e below (s₁.setTop (mkF m 1 #[.val (.ref vr0), .val (.ref vr1), .val (.int vi2), .val .null, .val (.int vi4), .val (.int vi5)] [(.ref vr0)])) _
    refine st1.trans ?_
    show Steps p.tables e below (T1.setTop (mkF m 4 #[.val (.ref vr0), .val (.ref vr1), .val (.int vi2), .val .null, .val (.int vi4), .val (.int vi5)] [])) _
    refine XS.aloadN X1.here hx rfl (hb hby d7_4) rfl rfl ?_
    show Steps p.tables e below (T1.setTop (mkF m 5 #[.val (.ref vr0), .val (.ref vr1), .val (.int vi2), .val .null, .val (.int vi4), .val (.int vi5)] [(.ref vr0)])) _
    refine XS.aloadN X1.here hx rfl (hb hby d7_5) rfl rfl ?_
    show Steps p.tables e below (T1.setTop (mkF m 6 #[.val (.ref vr0), .val (.ref vr1), .val (.int vi2), .val .null, .val (.int vi4), .val (.int vi5)] [(.ref vr1), (.ref vr0)])) _
    refine st2 _ ?_
    show Steps p.tables e below (T2.setTop (mkF m 9 #[.val (.ref vr0), .val (.ref vr1), .val (.int vi2), .val .null, .val (.int vi4), .val (.int vi5)] [])) _
    refine XS.aloadN X2.here hx rfl (hb hby d7_9) rfl rfl ?_
    show Steps p.tables e below (T2.setTop (mkF m 10 #[.val (.ref vr0), .val (.ref vr1), .val (.int vi2), .val .null, .val (.int vi4), .val (.int vi5)] [(.ref vr0)])) _
    refine XS.iloadN X2.here hx rfl (hb hby d7_10) rfl ?_
    show Steps p.tables e below (T2.setTop (mkF m 11 #[.val (.ref vr0), .val (.ref vr1), .val (.int vi2), .val .null, .val (.int vi4), .val (.int vi5)] [(.int vi2), (.ref vr0)])) _
    refine st3 _ ?_
    show Steps p.tables e below (T3.setTop (mkF m 14 #[.val (.ref vr0), .val (.ref vr1), .val (.int vi2), .val .null, .val (.int vi4), .val (.int vi5)] [])) _
    refine XS.aloadN X3.here hx rfl (hb hby d7_14) rfl rfl ?_
    show Steps p.tables e below (T3.setTop (mkF m 15 #[.val (.ref vr0), .val (.ref vr1), .val (.int vi2), .val .null, .val (.int vi4), .val (.int vi5)] [(.ref vr0)])) _
    refine XS.aloadN X3.here hx rfl (hb hby d7_15) rfl rfl ?_
    show Steps p.tables e below (T3.setTop (mkF m 16 #[.val (.ref vr0), .val (.ref vr1), .val (.int vi2), .val .null, .val (.int vi4), .val (.int vi5)] [.null, (.ref vr0)])) _
    refine st4 _ ?_
    show Steps p.tables e below (T4.setTop (mkF m 19 #[.val (.ref vr0), .val (.ref vr1), .val (.int vi2), .val .null, .val (.int vi4), .val (.int vi5)] [])) _
    refine XS.aloadN X4.here hx rfl (hb hby d7_19) rfl rfl ?_
    show Steps p.tables e below (T4.setTop (mkF m 20 #[.val (.ref vr0), .val (.ref vr1), .val (.int vi2), .val .null, .val (.int vi4), .val (.int vi5)] [(.ref vr0)])) _
    refine XS.iload X4.here hx rfl (hb hby d7_20) rfl ?_
    show Steps p.tables e below (T4.setTop (mkF m 22 #[.val (.ref vr0), .val (.ref vr1), .val (.int vi2), .val .null, .val (.int vi4), .val (.int vi5)] [(.int vi4), (.ref vr0)])) _
    refine st5 _ ?_
    show Steps p.tables e below (T5.setTop (mkF m 25 #[.val (.ref vr0), .val (.ref vr1), .val (.int vi2), .val .null, .val (.int vi4), .val (.int vi5)] [])) _
    refine XS.aloadN X5.here hx rfl (hb hby d7_25) rfl rfl ?_
    show Steps p.tables e below (T5.setTop (mkF m 26 #[.val (.ref vr0), .val (.ref vr1), .val (.int vi2), .val .null, .val (.int vi4), .val (.int vi5)] [(.ref vr0)])) _
    refine XS.iload X5.here hx rfl (hb hby d7_26) rfl ?_
    show Steps p.tables e below (T5.setTop (mkF m 28 #[.val (.ref vr0), .val (.ref vr1), .val (.int vi2), .val .null, .val (.int vi4), .val (.int vi5)] [(.int vi5), (.ref vr0)])) _
    refine st6 _ ?_
    show Steps p.tables e below (T6.setTop (mkF m 31 #[.val (.ref vr0), .val (.ref vr1), .val (.int vi2), .val .null, .val (.int vi4), .val (.int vi5)] [])) _
    exact X6.returnOut hx Bd.returns (hb hby d7_31) hr
  · show Q7_N Z vr0 vr1 vi2 vi4 vi5 u_name_vr0 u_position_vr0 u_lineage_vr0 u_inherited_vr0 u_local_vr0 h0 n0 _ T6.heap _
    rw [e6]
    exact ⟨rfl, N6, K6, ((((Fw2.other W3 (Or.inr (sl_10 hw))).other W4 (Or.inr (sl_11 hw))).other W5 (Or.inr (sl_12 hw))).other W6 (Or.inr (sl_13 hw))), (((Fw3.other W4 (Or.inr (sl_14 hw))).other W5 (Or.inr (sl_15 hw))).other W6 (Or.inr (sl_16 hw))), ((Fw4.other W5 (Or.inr (sl_17 hw))).other W6 (Or.inr (sl_18 hw))), (Fw5.other W6 (Or.inr (sl_19 hw))), Fw6⟩
theorem ef_9_N (m : MethodId) (x0 : Addr) (x1 : Int32) (x2 : Int32) : entryFrame m #[(.ref x0), (.int x1), (.int x2)] 3 = mkF m 0 #[.val (.ref x0), .val (.int x1), .val (.int x2)] [] := by first | (simp [entryFrame, mkF, argsToLocals, Value.category]; done) | rfl
def Q9_N (Z : State) (vr0 : Addr) (vi1 : Int32) (vi2 : Int32) (w_name_vr0 : Addr) (w_position_vr0 : Int32) (w_inherited_vr0 : Int32) (h0 : Heap) (n0 : Nat) (v : Option Value) (h : Heap) (L : List Loc) : Prop := ∃ r : Addr, v = some (.ref r) ∧ Fr n0 L ∧ Keep h0 h [] ∧ h0.size ≤ r ∧ Exa Z h r "com/example/vernacular/vernacular/Table$Column" ∧ Fld Z h r "com/example/vernacular/vernacular/Table$Column" "name" "Ljava/lang/String;" (.ref w_name_vr0) ∧ Fld Z h r "com/example/vernacular/vernacular/Table$Column" "position" "I" (.int w_position_vr0) ∧ Fld Z h r "com/example/vernacular/vernacular/Table$Column" "lineage" "Lcom/example/vernacular/vernacular/Lineage;" .null ∧ Fld Z h r "com/example/vernacular/vernacular/Table$Column" "inherited" "I" (.int (w_inherited_vr0 + vi1)) ∧ Fld Z h r "com/example/vernacular/vernacular/Table$Column" "local" "Z" (.int vi2)
set_option maxRecDepth 65536 in
set_option maxHeartbeats 40000000 in
theorem rm9_N (l : Launch) (Z : State) (a0 : Array Value) (hw : ∀ d ∈ tables_1, d.before a0 Z = true) (ws : List Jvm.Cond) (vr0 : Addr) (vi1 : Int32) (vi2 : Int32) (w_name_vr0 : Addr) (w_position_vr0 : Int32) (w_inherited_vr0 : Int32) (h0 : Heap) (n0 : Nat) (Z0 : n0 ≤ h0.size) (F_name_vr0 : Fld Z h0 vr0 "com/example/vernacular/vernacular/Table$Column" "name" "Ljava/lang/String;" (.ref w_name_vr0)) (F_position_vr0 : Fld Z h0 vr0 "com/example/vernacular/vernacular/Table$Column" "position" "I" (.int w_position_vr0)) (F_lineage_vr0 : Fld Z h0 vr0 "com/example/vernacular/vernacular/Table$Column" "lineage" "Lcom/example/vernacular/vernacular/Lineage;" .null) (F_inherited_vr0 : Fld Z h0 vr0 "com/example/vernacular/vernacular/Table$Column" "inherited" "I" (.int w_inherited_vr0)) (hz : nar .boolean vi2 = vi2) :
    MetFree l (⟨"com/example/vernacular/vernacular/Table$Column", "inheriting", "(IZ)Lcom/example/vernacular/vernacular/Table$Column;"⟩ : MethodName) (head1 (Jvm.Cond.code (⟨"com/example/vernacular/vernacular/Table$Column", "inheriting", "(IZ)Lcom/example/vernacular/vernacular/Table$Column;"⟩ : MethodName) prog_96_method_3_code 3 (some (.object "com/example/vernacular/vernacular/Table$Column")) :: ws) ({ frames := 3, cells := 1, slots := 5, locals := 42 } : Room)) (fun a U => a = #[(.ref vr0), (.int vi1), (.int vi2)] ∧ Z.Warmed39 U.vm ∧ U.heap = h0) (fun _ _ _ _ _ => True) (fun _ U o U' => ∃ v L, o = .returned v ∧ Q9_N Z vr0 vi1 vi2 w_name_vr0 w_position_vr0 w_inherited_vr0 h0 n0 v U'.heap L ∧ FrameEnd U o U' L ({ frames := 3, cells := 1, slots := 5, locals := 42 } : Room).cells ({ frames := 3, cells := 1, slots := 5, locals := 42 } : Room).slots) := by
  refine MetFree.of_bodySF (plainFor_of_name pn_com_example_vernacular_vernacular_Table_Column) hisR ?_
  intro p e s m args below meth c s₁ Bd hml0 hP hK
  obtain ⟨rfl, hZ, hh⟩ := hP
  have hx := Bd.exec
  have hby := Bd.bytes
  have hml : c.maxLocals = 3 := hml0
  have hown : s.vm.findClass "com/example/vernacular/vernacular/Table$Column" = some m.cls := findClass_of_methodNamed Bd.named
  have hnm := (name_of_methodNamed Bd.named Bd.method).1
  have X0 : Stand p l e ({ frames := 3, cells := 1, slots := 5, locals := 42 } : Room) s m #[(.ref vr0), (.int vi1), (.int vi2)] below meth c s₁ [] 0 0 := Stand.of_body Bd
  have e0 : s₁.heap = h0 := by rw [← hh, Bd.state]; rfl
  have N0 := Fr.nil n0
  have pre0 : ∀ t, Steps p.tables e below (s₁.setTop (mkF m 0 #[.val (.ref vr0), .val (.int vi1), .val (.int vi2)] [])) t → Steps p.tables e below (s₁.setTop (entryFrame m #[(.ref vr0), (.int vi1), (.int vi2)] 3)) t := fun t k => castTop (ef_9_N m vr0 vi1 vi2) k
  obtain ⟨T1, h1, X1, e1, E1, A1, D1, -, st1⟩ := newO X0 hx hZ hown (wd_57 hw) (wd_31 hw) (wd_32 hw) e0 (g := (mkF m 0 #[.val (.ref vr0), .val (.int vi1), .val (.int vi2)] [])) rfl (hb hby d9_0) (by decide) (by decide)
  obtain ⟨b1, g1⟩ : ∃ z, z = h0.size := ⟨_, rfl⟩
  rw [← g1] at A1 D1 st1
  have g_b1 : n0 ≤ b1 := Nat.le_trans Z0 (Nat.le_of_eq g1.symm)
  have sz_b1 : h0.size ≤ b1 := Nat.le_trans (Keep.refl h0 []).1 (Nat.le_of_eq g1.symm)
  have K1 : Keep h0 h1 [] := (Keep.refl h0 []).ext E1
  have F_name_b1 : Fld Z h1 b1 "com/example/vernacular/vernacular/Table$Column" "name" "Ljava/lang/String;" .null := D1 (Or.inr (wd_43 hw)) (ty := (.object "java/lang/String")) (by decide)
  have F_position_b1 : Fld Z h1 b1 "com/example/vernacular/vernacular/Table$Column" "position" "I" (.int (0 : Int32)) := D1 (Or.inr (wd_45 hw)) (ty := .int) (by decide)
  have F_lineage_b1 : Fld Z h1 b1 "com/example/vernacular/vernacular/Table$Column" "lineage" "Lcom/example/vernacular/vernacular/Lineage;" .null := D1 (Or.inr (wd_47 hw)) (ty := (.object "com/example/vernacular/vernacular/Lineage")) (by decide)
  have F_inherited_b1 : Fld Z h1 b1 "com/example/vernacular/vernacular/Table$Column" "inherited" "I" (.int (0 : Int32)) := D1 (Or.inr (wd_49 hw)) (ty := .int) (by decide)
  have F_local_b1 : Fld Z h1 b1 "com/example/vernacular/vernacular/Table$Column" "local" "Z" (.int (0 : Int32)) := D1 (Or.inr (wd_51 hw)) (ty := .boolean) (by decide)
  obtain ⟨T2, X2, e2, st2⟩ := getF X1 hx hZ hown (host := "") (Or.inl (wd_42 hw)) Via.refl e1 (F_name_vr0.ext E1) (g := (mkF m 5 #[.val (.ref vr0), .val (.int vi1), .val (.int vi2)] [(.ref vr0), (.ref b1), (.ref b1)])) rfl rfl (hb hby d9_5)
  obtain ⟨T3, X3, e3, st3⟩ := getF X2 hx hZ hown (host := "") (Or.inl (wd_44 hw)) Via.refl e2 (F_position_vr0.ext E1) (g := (mkF m 9 #[.val (.ref vr0), .val (.int vi1), .val (.int vi2)] [(.ref vr0), (.ref w_name_vr0), (.ref b1), (.ref b1)])) rfl rfl (hb hby d9_9)
  obtain ⟨T4, X4, e4, st4⟩ := getF X3 hx hZ hown (host := "") (Or.inl (wd_46 hw)) Via.refl e3 (F_lineage_vr0.ext E1) (g := (mkF m 13 #[.val (.ref vr0), .val (.int vi1), .val (.int vi2)] [(.ref vr0), (.int w_position_vr0), (.ref w_name_vr0), (.ref b1), (.ref b1)])) rfl rfl (hb hby d9_13)
  obtain ⟨T5, X5, e5, st5⟩ := getF X4 hx hZ hown (host := "") (Or.inl (wd_48 hw)) Via.refl e4 (F_inherited_vr0.ext E1) (g := (mkF m 17 #[.val (.ref vr0), .val (.int vi1), .val (.int vi2)] [(.ref vr0), .null, (.int w_position_vr0), (.ref w_name_vr0), (.ref b1), (.ref b1)])) rfl rfl (hb hby d9_17)
  obtain ⟨_, _, ⟨T6, L6, k6, n6⟩, -, X6, ⟨Lc6, hQ6, l6, y6, z6⟩, st6⟩ := X5.specialBack hx (y := (⟨"com/example/vernacular/vernacular/Table$Column", "<init>", "(Ljava/lang/String;ILcom/example/vernacular/vernacular/Lineage;IZ)V"⟩ : MethodName)) rfl hown (mvT hZ (wd_58 hw)) (mvT hZ (wd_34 hw)) (mvT hZ (wd_35 hw)) (by decide) (backOf (W := 1) (rm7_N l Z a0 hw [] b1 w_name_vr0 w_position_vr0 (w_inherited_vr0 + vi1) vi2 .null (.int (0 : Int32)) .null (.int (0 : Int32)) (.int (0 : Int32)) h1 n0 (Nat.le_trans Z0 E1.1) hz A1 F_name_b1 g_b1 F_position_b1 F_lineage_b1 F_inherited_b1 F_local_b1) hZ (wd_35 hw) (wd_32 hw) (by decide) (by decide)) (g := (mkF m 23 #[.val (.ref vr0), .val (.int vi1), .val (.int vi2)] [(.int vi2), (.int (w_inherited_vr0 + vi1)), .null, (.int w_position_vr0), (.ref w_name_vr0), (.ref b1), (.ref b1)])) rfl (by rw [hml]; rfl) (Steps.refl _) (a := b1) (argsL := [(.ref w_name_vr0), (.int w_position_vr0), .null, (.int (w_inherited_vr0 + vi1)), (.int vi2)]) (rest := [(.ref b1)]) (lenOf pd_6 rfl) rfl (by show 2 * 0 + _ ≤ _; exact Nat.le_of_eq rfl) (hb hby d9_23) (fun _ _ => ⟨rfl, e5, (by decide : 1 + 0 ≤ _), (by decide : 5 + 0 ≤ _)⟩)
  dsimp only [Pt.U, Pt.locs, Pt.cells, Pt.slots] at X6 l6 y6 z6 st6 hQ6
  subst l6 y6 z6
  obtain ⟨rfl, N6q, p6_0, p6_1, p6_2, p6_3, p6_4, p6_5⟩ := hQ6
  have N6 := Fr.app N0 N6q
  have K6 : Keep h0 T6.heap [] := K1.trans p6_0 (allS (Or.inr sz_b1) all0)
  obtain ⟨fs, hr, hrun, hended, hW, hsame⟩ := X6.leave (v := some (.ref b1)) (fun h => by rw [Bd.returns] at h; cases h)
  refine ⟨_, _, pre0 _ ?_, hrun, hended, _, _, rfl, ?_, ⟨_, rfl⟩, hW, hsame.mono (by decide) (by decide)⟩
  · show Steps p.tables e below (s₁.setTop (mkF m 0 #[.val (.ref vr0), .val (.int vi1), .val (.int vi2)] [])) _
    refine st1 _ ?_
    show Steps p.tables e below (T1.setTop (mkF m 3 #[.val (.ref vr0), .val (.int vi1), .val (.int vi2)] [(.ref b1)])) _
    refine XS.dup X1.here hx rfl (hb hby d9_3) rfl rfl ?_
    show Steps p.tables e below (T1.setTop (mkF m 4 #[.val (.ref vr0), .val (.int vi1), .val (.int vi2)] [(.ref b1), (.ref b1)])) _
    refine XS.aloadN X1.here hx rfl (hb hby d9_4) rfl rfl ?_
    show Steps p.tables e below (T1.setTop (mkF m 5 #[.val (.ref vr0), .val (.int vi1), .val (.int vi2)] [(.ref vr0), (.ref b1), (.ref b1)])) _
    refine st2 _ ?_
    show Steps p.tables e below (T2.setTop (mkF m 8 #[.val (.ref vr0), .val (.int vi1), .val (.int vi2)] [(.ref w_name_vr0), (.ref b1), (.ref b1)])) _
    refine XS.aloadN X2.here hx rfl (hb hby d9_8) rfl rfl ?_
    show Steps p.tables e below (T2.setTop (mkF m 9 #[.val (.ref vr0), .val (.int vi1), .val (.int vi2)] [(.ref vr0), (.ref w_name_vr0), (.ref b1), (.ref b1)])) _
    refine st3 _ ?_
    show Steps p.tables e below (T3.setTop (mkF m 12 #[.val (.ref vr0), .val (.int vi1), .val (.int vi2)] [(.int w_position_vr0), (.ref w_name_vr0), (.ref b1), (.ref b1)])) _
    refine XS.aloadN X3.here hx rfl (hb hby d9_12) rfl rfl ?_
    show Steps p.tables e below (T3.setTop (mkF m 13 #[.val (.ref vr0), .val (.int vi1), .val (.int vi2)] [(.ref vr0), (.int w_position_vr0), (.ref w_name_vr0), (.ref b1), (.ref b1)])) _
    refine st4 _ ?_
    show Steps p.tables e below (T4.setTop (mkF m 16 #[.val (.ref vr0), .val (.int vi1), .val (.int vi2)] [.null, (.int w_position_vr0), (.ref w_name_vr0), (.ref b1), (.ref b1)])) _
    refine XS.aloadN X4.here hx rfl (hb hby d9_16) rfl rfl ?_
    show Steps p.tables e below (T4.setTop (mkF m 17 #[.val (.ref vr0), .val (.int vi1), .val (.int vi2)] [(.ref vr0), .null, (.int w_position_vr0), (.ref w_name_vr0), (.ref b1), (.ref b1)])) _
    refine st5 _ ?_
    show Steps p.tables e below (T5.setTop (mkF m 20 #[.val (.ref vr0), .val (.int vi1), .val (.int vi2)] [(.int w_inherited_vr0), .null, (.int w_position_vr0), (.ref w_name_vr0), (.ref b1), (.ref b1)])) _
    refine XS.iloadN X5.here hx rfl (hb hby d9_20) rfl ?_
    show Steps p.tables e below (T5.setTop (mkF m 21 #[.val (.ref vr0), .val (.int vi1), .val (.int vi2)] [(.int vi1), (.int w_inherited_vr0), .null, (.int w_position_vr0), (.ref w_name_vr0), (.ref b1), (.ref b1)])) _
    refine XS.iadd X5.here hx rfl (hb hby d9_21) rfl ?_
    show Steps p.tables e below (T5.setTop (mkF m 22 #[.val (.ref vr0), .val (.int vi1), .val (.int vi2)] [(.int (w_inherited_vr0 + vi1)), .null, (.int w_position_vr0), (.ref w_name_vr0), (.ref b1), (.ref b1)])) _
    refine XS.iloadN X5.here hx rfl (hb hby d9_22) rfl ?_
    show Steps p.tables e below (T5.setTop (mkF m 23 #[.val (.ref vr0), .val (.int vi1), .val (.int vi2)] [(.int vi2), (.int (w_inherited_vr0 + vi1)), .null, (.int w_position_vr0), (.ref w_name_vr0), (.ref b1), (.ref b1)])) _
    refine st6.trans ?_
    show Steps p.tables e below (T6.setTop (mkF m 26 #[.val (.ref vr0), .val (.int vi1), .val (.int vi2)] [(.ref b1)])) _
    jvm_step X6.here [X6.here.top, hx, (hb hby d9_26), X6.method', Bd.returns, Value.isRef, FieldType.isReference]
    first | (intro acts; rw [hr _ acts rfl rfl rfl]) | rw [hr _ _ rfl rfl rfl]
    exact Steps.refl _
  · show Q9_N Z vr0 vi1 vi2 w_name_vr0 w_position_vr0 w_inherited_vr0 h0 n0 _ T6.heap _
    exact ⟨b1, rfl, N6, K6, sz_b1, (A1.keep p6_0), p6_1, p6_2, p6_3, p6_4, p6_5⟩
theorem ef_13_N (m : MethodId) (x0 : Addr) : entryFrame m #[(.ref x0)] 1 = mkF m 0 #[.val (.ref x0)] [] := by first | (simp [entryFrame, mkF, argsToLocals, Value.category]; done) | rfl
def Q13_N (Z : State) (vr0 : Addr) (h0 : Heap) (n0 : Nat) (v : Option Value) (h : Heap) (L : List Loc) : Prop := v = some .null ∧ Fr n0 L ∧ h = h0
set_option maxRecDepth 65536 in
set_option maxHeartbeats 40000000 in
theorem rm13_N (l : Launch) (Z : State) (a0 : Array Value) (hw : ∀ d ∈ tables_1, d.before a0 Z = true) (ws : List Jvm.Cond) (vr0 : Addr) (h0 : Heap) (n0 : Nat) (Z0 : n0 ≤ h0.size) (F_lineage_vr0 : Fld Z h0 vr0 "com/example/vernacular/vernacular/Table$Column" "lineage" "Lcom/example/vernacular/vernacular/Lineage;" .null) :
    MetFree l (⟨"com/example/vernacular/vernacular/Table$Column", "lineage", "()Lcom/example/vernacular/vernacular/Lineage;"⟩ : MethodName) (head1 (Jvm.Cond.code (⟨"com/example/vernacular/vernacular/Table$Column", "lineage", "()Lcom/example/vernacular/vernacular/Lineage;"⟩ : MethodName) prog_96_method_9_code 1 (some (.object "com/example/vernacular/vernacular/Lineage")) :: ws) ({ frames := 0, cells := 0, slots := 0, locals := 0 } : Room)) (fun a U => a = #[(.ref vr0)] ∧ Z.Warmed39 U.vm ∧ U.heap = h0) (fun _ _ _ _ _ => True) (fun _ U o U' => ∃ v L, o = .returned v ∧ Q13_N Z vr0 h0 n0 v U'.heap L ∧ FrameEnd U o U' L ({ frames := 0, cells := 0, slots := 0, locals := 0 } : Room).cells ({ frames := 0, cells := 0, slots := 0, locals := 0 } : Room).slots) := by
  refine MetFree.of_bodySF (plainFor_of_name pn_com_example_vernacular_vernacular_Table_Column) hisR ?_
  intro p e s m args below meth c s₁ Bd hml0 hP hK
  obtain ⟨rfl, hZ, hh⟩ := hP
  have hx := Bd.exec
  have hby := Bd.bytes
  have hml : c.maxLocals = 1 := hml0
  have hown : s.vm.findClass "com/example/vernacular/vernacular/Table$Column" = some m.cls := findClass_of_methodNamed Bd.named
  have hnm := (name_of_methodNamed Bd.named Bd.method).1
  have X0 : Stand p l e ({ frames := 0, cells := 0, slots := 0, locals := 0 } : Room) s m #[(.ref vr0)] below meth c s₁ [] 0 0 := Stand.of_body Bd
  have e0 : s₁.heap = h0 := by rw [← hh, Bd.state]; rfl
  have N0 := Fr.nil n0
  have pre0 : ∀ t, Steps p.tables e below (s₁.setTop (mkF m 0 #[.val (.ref vr0)] [])) t → Steps p.tables e below (s₁.setTop (entryFrame m #[(.ref vr0)] 1)) t := fun t k => castTop (ef_13_N m vr0) k
  obtain ⟨T1, X1, e1, st1⟩ := getF X0 hx hZ hown (host := "") (Or.inl (wd_46 hw)) Via.refl e0 F_lineage_vr0 (g := (mkF m 1 #[.val (.ref vr0)] [(.ref vr0)])) rfl rfl (hb hby d13_1)
  obtain ⟨fs, hr, hrun, hended, hW, hsame⟩ := X1.leave (v := some .null) (fun h => by rw [Bd.returns] at h; cases h)
  refine ⟨_, _, pre0 _ ?_, hrun, hended, _, _, rfl, ?_, ⟨_, rfl⟩, hW, hsame.mono (by decide) (by decide)⟩
  · show Steps p.tables e below (s₁.setTop (mkF m 0 #[.val (.ref vr0)] [])) _
    refine XS.aloadN X0.here hx rfl (hb hby d13_0) rfl rfl ?_
    show Steps p.tables e below (s₁.setTop (mkF m 1 #[.val (.ref vr0)] [(.ref vr0)])) _
    refine st1 _ ?_
    show Steps p.tables e below (T1.setTop (mkF m 4 #[.val (.ref vr0)] [.null])) _
    jvm_step X1.here [X1.here.top, hx, (hb hby d13_4), X1.method', Bd.returns, Value.isRef, FieldType.isReference]
    first | (intro acts; rw [hr _ acts rfl rfl rfl]) | rw [hr _ _ rfl rfl rfl]
    exact Steps.refl _
  · show Q13_N Z vr0 h0 n0 _ T1.heap _
    rw [e1]
    exact ⟨rfl, N0, rfl⟩
theorem d10_0 : decode prog_96_method_7_code 0 = .ok (.aload_n 0, 1) := by decide +kernel
theorem d10_1 : decode prog_96_method_7_code 1 = .ok (.getfield 7, 3) := by decide +kernel
theorem d10_4 : decode prog_96_method_7_code 4 = .ok (.areturn, 1) := by decide +kernel
theorem ef_10 (m : MethodId) (x0 : Addr) : entryFrame m #[(.ref x0)] 1 = mkF m 0 #[.val (.ref x0)] [] := by first | (simp [entryFrame, mkF, argsToLocals, Value.category]; done) | rfl
def Q10 (Z : State) (vr0 : Addr) (w_name_vr0 : Addr) (h0 : Heap) (n0 : Nat) (v : Option Value) (h : Heap) (L : List Loc) : Prop := v = some (.ref w_name_vr0) ∧ Fr n0 L ∧ h = h0
set_option maxRecDepth 65536 in
set_option maxHeartbeats 40000000 in
theorem rm10 (l : Launch) (Z : State) (a0 : Array Value) (hw : ∀ d ∈ tables_1, d.before a0 Z = true) (ws : List Jvm.Cond) (vr0 : Addr) (w_name_vr0 : Addr) (h0 : Heap) (n0 : Nat) (Z0 : n0 ≤ h0.size) (F_name_vr0 : Fld Z h0 vr0 "com/example/vernacular/vernacular/Table$Column" "name" "Ljava/lang/String;" (.ref w_name_vr0)) :
    MetFree l (⟨"com/example/vernacular/vernacular/Table$Column", "name", "()Ljava/lang/String;"⟩ : MethodName) (head1 (Jvm.Cond.code (⟨"com/example/vernacular/vernacular/Table$Column", "name", "()Ljava/lang/String;"⟩ : MethodName) prog_96_method_7_code 1 (some (.object "java/lang/String")) :: ws) ({ frames := 0, cells := 0, slots := 0, locals := 0 } : Room)) (fun a U => a = #[(.ref vr0)] ∧ Z.Warmed39 U.vm ∧ U.heap = h0) (fun _ _ _ _ _ => True) (fun _ U o U' => ∃ v L, o = .returned v ∧ Q10 Z vr0 w_name_vr0 h0 n0 v U'.heap L ∧ FrameEnd U o U' L ({ frames := 0, cells := 0, slots := 0, locals := 0 } : Room).cells ({ frames := 0, cells := 0, slots := 0, locals := 0 } : Room).slots) := by
  refine MetFree.of_bodySF (plainFor_of_name pn_com_example_vernacular_vernacular_Table_Column) hisR ?_
  intro p e s m args below meth c s₁ Bd hml0 hP hK
  obtain ⟨rfl, hZ, hh⟩ := hP
  have hx := Bd.exec
  have hby := Bd.bytes
  have hml : c.maxLocals = 1 := hml0
  have hown : s.vm.findClass "com/example/vernacular/vernacular/Table$Column" = some m.cls := findClass_of_methodNamed Bd.named
  have hnm := (name_of_methodNamed Bd.named Bd.method).1
  have X0 : Stand p l e ({ frames := 0, cells := 0, slots := 0, locals := 0 } : Room) s m #[(.ref vr0)] below meth c s₁ [] 0 0 := Stand.of_body Bd
  have e0 : s₁.heap = h0 := by rw [← hh, Bd.state]; rfl
  have N0 := Fr.nil n0
  have pre0 : ∀ t, Steps p.tables e below (s₁.setTop (mkF m 0 #[.val (.ref vr0)] [])) t → Steps p.tables e below (s₁.setTop (entryFrame m #[(.ref vr0)] 1)) t := fun t k => castTop (ef_10 m vr0) k
  obtain ⟨T1, X1, e1, st1⟩ := getF X0 hx hZ hown (host := "") (Or.inl (wd_42 hw)) Via.refl e0 F_name_vr0 (g := (mkF m 1 #[.val (.ref vr0)] [(.ref vr0)])) rfl rfl (hb hby d10_1)
  obtain ⟨fs, hr, hrun, hended, hW, hsame⟩ := X1.leave (v := some (.ref w_name_vr0)) (fun h => by rw [Bd.returns] at h; cases h)
  refine ⟨_, _, pre0 _ ?_, hrun, hended, _, _, rfl, ?_, ⟨_, rfl⟩, hW, hsame.mono (by decide) (by decide)⟩
  · show Steps p.tables e below (s₁.setTop (mkF m 0 #[.val (.ref vr0)] [])) _
    refine XS.aloadN X0.here hx rfl (hb hby d10_0) rfl rfl ?_
    show Steps p.tables e below (s₁.setTop (mkF m 1 #[.val (.ref vr0)] [(.ref vr0)])) _
    refine st1 _ ?_
    show Steps p.tables e below (T1.setTop (mkF m 4 #[.val (.ref vr0)] [(.ref w_name_vr0)])) _
    jvm_step X1.here [X1.here.top, hx, (hb hby d10_4), X1.method', Bd.returns, Value.isRef, FieldType.isReference]
    first | (intro acts; rw [hr _ acts rfl rfl rfl]) | rw [hr _ _ rfl rfl rfl]
    exact Steps.refl _
  · show Q10 Z vr0 w_name_vr0 h0 n0 _ T1.heap _
    rw [e1]
    exact ⟨rfl, N0, rfl⟩
theorem d12_0 : decode prog_96_method_8_code 0 = .ok (.aload_n 0, 1) := by decide +kernel
theorem d12_1 : decode prog_96_method_8_code 1 = .ok (.getfield 13, 3) := by decide +kernel
theorem d12_4 : decode prog_96_method_8_code 4 = .ok (.ireturn, 1) := by decide +kernel
theorem ef_12 (m : MethodId) (x0 : Addr) : entryFrame m #[(.ref x0)] 1 = mkF m 0 #[.val (.ref x0)] [] := by first | (simp [entryFrame, mkF, argsToLocals, Value.category]; done) | rfl
def Q12 (Z : State) (vr0 : Addr) (w_position_vr0 : Int32) (h0 : Heap) (n0 : Nat) (v : Option Value) (h : Heap) (L : List Loc) : Prop := v = some (.int w_position_vr0) ∧ Fr n0 L ∧ h = h0
set_option maxRecDepth 65536 in
set_option maxHeartbeats 40000000 in
theorem rm12 (l : Launch) (Z : State) (a0 : Array Value) (hw : ∀ d ∈ tables_1, d.before a0 Z = true) (ws : List Jvm.Cond) (vr0 : Addr) (w_position_vr0 : Int32) (h0 : Heap) (n0 : Nat) (Z0 : n0 ≤ h0.size) (F_position_vr0 : Fld Z h0 vr0 "com/example/vernacular/vernacular/Table$Column" "position" "I" (.int w_position_vr0)) :
    MetFree l (⟨"com/example/vernacular/vernacular/Table$Column", "position", "()I"⟩ : MethodName) (head1 (Jvm.Cond.code (⟨"com/example/vernacular/vernacular/Table$Column", "position", "()I"⟩ : MethodName) prog_96_method_8_code 1 (some .int) :: ws) ({ frames := 0, cells := 0, slots := 0, locals := 0 } : Room)) (fun a U => a = #[(.ref vr0)] ∧ Z.Warmed39 U.vm ∧ U.heap = h0) (fun _ _ _ _ _ => True) (fun _ U o U' => ∃ v L, o = .returned v ∧ Q12 Z vr0 w_position_vr0 h0 n0 v U'.heap L ∧ FrameEnd U o U' L ({ frames := 0, cells := 0, slots := 0, locals := 0 } : Room).cells ({ frames := 0, cells := 0, slots := 0, locals := 0 } : Room).slots) := by
  refine MetFree.of_bodySF (plainFor_of_name pn_com_example_vernacular_vernacular_Table_Column) hisR ?_
  intro p e s m args below meth c s₁ Bd hml0 hP hK
  obtain ⟨rfl, hZ, hh⟩ := hP
  have hx := Bd.exec
  have hby := Bd.bytes
  have hml : c.maxLocals = 1 := hml0
  have hown : s.vm.findClass "com/example/vernacular/vernacular/Table$Column" = some m.cls := findClass_of_methodNamed Bd.named
  have hnm := (name_of_methodNamed Bd.named Bd.method).1
  have X0 : Stand p l e ({ frames := 0, cells := 0, slots := 0, locals := 0 } : Room) s m #[(.ref vr0)] below meth c s₁ [] 0 0 := Stand.of_body Bd
  have e0 : s₁.heap = h0 := by rw [← hh, Bd.state]; rfl
  have N0 := Fr.nil n0
  have pre0 : ∀ t, Steps p.tables e below (s₁.setTop (mkF m 0 #[.val (.ref vr0)] [])) t → Steps p.tables e below (s₁.setTop (entryFrame m #[(.ref vr0)] 1)) t := fun t k => castTop (ef_12 m vr0) k
  obtain ⟨T1, X1, e1, st1⟩ := getF X0 hx hZ hown (host := "") (Or.inl (wd_44 hw)) Via.refl e0 F_position_vr0 (g := (mkF m 1 #[.val (.ref vr0)] [(.ref vr0)])) rfl rfl (hb hby d12_1)
  obtain ⟨fs, hr, hrun, hended, hW, hsame⟩ := X1.leave (v := some (.int w_position_vr0)) (fun h => by rw [Bd.returns] at h; cases h)
  refine ⟨_, _, pre0 _ ?_, hrun, hended, _, _, rfl, ?_, ⟨_, rfl⟩, hW, hsame.mono (by decide) (by decide)⟩
  · show Steps p.tables e below (s₁.setTop (mkF m 0 #[.val (.ref vr0)] [])) _
    refine XS.aloadN X0.here hx rfl (hb hby d12_0) rfl rfl ?_
    show Steps p.tables e below (s₁.setTop (mkF m 1 #[.val (.ref vr0)] [(.ref vr0)])) _
    refine st1 _ ?_
    show Steps p.tables e below (T1.setTop (mkF m 4 #[.val (.ref vr0)] [(.int w_position_vr0)])) _
    exact retI X1 hx Bd.returns (hb hby d12_4) hr
  · show Q12 Z vr0 w_position_vr0 h0 n0 _ T1.heap _
    rw [e1]
    exact ⟨rfl, N0, rfl⟩
theorem d14_0 : decode prog_96_method_10_code 0 = .ok (.aload_n 0, 1) := by decide +kernel
theorem d14_1 : decode prog_96_method_10_code 1 = .ok (.getfield 21, 3) := by decide +kernel
theorem d14_4 : decode prog_96_method_10_code 4 = .ok (.ireturn, 1) := by decide +kernel
theorem ef_14 (m : MethodId) (x0 : Addr) : entryFrame m #[(.ref x0)] 1 = mkF m 0 #[.val (.ref x0)] [] := by first | (simp [entryFrame, mkF, argsToLocals, Value.category]; done) | rfl
def Q14 (Z : State) (vr0 : Addr) (w_inherited_vr0 : Int32) (h0 : Heap) (n0 : Nat) (v : Option Value) (h : Heap) (L : List Loc) : Prop := v = some (.int w_inherited_vr0) ∧ Fr n0 L ∧ h = h0
set_option maxRecDepth 65536 in
set_option maxHeartbeats 40000000 in
theorem rm14 (l : Launch) (Z : State) (a0 : Array Value) (hw : ∀ d ∈ tables_1, d.before a0 Z = true) (ws : List Jvm.Cond) (vr0 : Addr) (w_inherited_vr0 : Int32) (h0 : Heap) (n0 : Nat) (Z0 : n0 ≤ h0.size) (F_inherited_vr0 : Fld Z h0 vr0 "com/example/vernacular/vernacular/Table$Column" "inherited" "I" (.int w_inherited_vr0)) :
    MetFree l (⟨"com/example/vernacular/vernacular/Table$Column", "inherited", "()I"⟩ : MethodName) (head1 (Jvm.Cond.code (⟨"com/example/vernacular/vernacular/Table$Column", "inherited", "()I"⟩ : MethodName) prog_96_method_10_code 1 (some .int) :: ws) ({ frames := 0, cells := 0, slots := 0, locals := 0 } : Room)) (fun a U => a = #[(.ref vr0)] ∧ Z.Warmed39 U.vm ∧ U.heap = h0) (fun _ _ _ _ _ => True) (fun _ U o U' => ∃ v L, o = .returned v ∧ Q14 Z vr0 w_inherited_vr0 h0 n0 v U'.heap L ∧ FrameEnd U o U' L ({ frames := 0, cells := 0, slots := 0, locals := 0 } : Room).cells ({ frames := 0, cells := 0, slots := 0, locals := 0 } : Room).slots) := by
  refine MetFree.of_bodySF (plainFor_of_name pn_com_example_vernacular_vernacular_Table_Column) hisR ?_
  intro p e s m args below meth c s₁ Bd hml0 hP hK
  obtain ⟨rfl, hZ, hh⟩ := hP
  have hx := Bd.exec
  have hby := Bd.bytes
  have hml : c.maxLocals = 1 := hml0
  have hown : s.vm.findClass "com/example/vernacular/vernacular/Table$Column" = some m.cls := findClass_of_methodNamed Bd.named
  have hnm := (name_of_methodNamed Bd.named Bd.method).1
  have X0 : Stand p l e ({ frames := 0, cells := 0, slots := 0, locals := 0 } : Room) s m #[(.ref vr0)] below meth c s₁ [] 0 0 := Stand.of_body Bd
  have e0 : s₁.heap = h0 := by rw [← hh, Bd.state]; rfl
  have N0 := Fr.nil n0
  have pre0 : ∀ t, Steps p.tables e below (s₁.setTop (mkF m 0 #[.val (.ref vr0)] [])) t → Steps p.tables e below (s₁.setTop (entryFrame m #[(.ref vr0)] 1)) t := fun t k => castTop (ef_14 m vr0) k
  obtain ⟨T1, X1, e1, st1⟩ := getF X0 hx hZ hown (host := "") (Or.inl (wd_48 hw)) Via.refl e0 F_inherited_vr0 (g := (mkF m 1 #[.val (.ref vr0)] [(.ref vr0)])) rfl rfl (hb hby d14_1)
  obtain ⟨fs, hr, hrun, hended, hW, hsame⟩ := X1.leave (v := some (.int w_inherited_vr0)) (fun h => by rw [Bd.returns] at h; cases h)
  refine ⟨_, _, pre0 _ ?_, hrun, hended, _, _, rfl, ?_, ⟨_, rfl⟩, hW, hsame.mono (by decide) (by decide)⟩
  · show Steps p.tables e below (s₁.setTop (mkF m 0 #[.val (.ref vr0)] [])) _
    refine XS.aloadN X0.here hx rfl (hb hby d14_0) rfl rfl ?_
    show Steps p.tables e below (s₁.setTop (mkF m 1 #[.val (.ref vr0)] [(.ref vr0)])) _
    refine st1 _ ?_
    show Steps p.tables e below (T1.setTop (mkF m 4 #[.val (.ref vr0)] [(.int w_inherited_vr0)])) _
    exact retI X1 hx Bd.returns (hb hby d14_4) hr
  · show Q14 Z vr0 w_inherited_vr0 h0 n0 _ T1.heap _
    rw [e1]
    exact ⟨rfl, N0, rfl⟩
theorem d15_0 : decode prog_96_method_11_code 0 = .ok (.aload_n 0, 1) := by decide +kernel
theorem d15_1 : decode prog_96_method_11_code 1 = .ok (.getfield 24, 3) := by decide +kernel
theorem d15_4 : decode prog_96_method_11_code 4 = .ok (.ireturn, 1) := by decide +kernel
theorem ef_15 (m : MethodId) (x0 : Addr) : entryFrame m #[(.ref x0)] 1 = mkF m 0 #[.val (.ref x0)] [] := by first | (simp [entryFrame, mkF, argsToLocals, Value.category]; done) | rfl
def Q15 (Z : State) (vr0 : Addr) (w_local_vr0 : Int32) (h0 : Heap) (n0 : Nat) (v : Option Value) (h : Heap) (L : List Loc) : Prop := v = some (.int w_local_vr0) ∧ Fr n0 L ∧ h = h0
set_option maxRecDepth 65536 in
set_option maxHeartbeats 40000000 in
theorem rm15 (l : Launch) (Z : State) (a0 : Array Value) (hw : ∀ d ∈ tables_1, d.before a0 Z = true) (ws : List Jvm.Cond) (vr0 : Addr) (w_local_vr0 : Int32) (h0 : Heap) (n0 : Nat) (Z0 : n0 ≤ h0.size) (hz : nar .boolean w_local_vr0 = w_local_vr0) (F_local_vr0 : Fld Z h0 vr0 "com/example/vernacular/vernacular/Table$Column" "local" "Z" (.int w_local_vr0)) :
    MetFree l (⟨"com/example/vernacular/vernacular/Table$Column", "local", "()Z"⟩ : MethodName) (head1 (Jvm.Cond.code (⟨"com/example/vernacular/vernacular/Table$Column", "local", "()Z"⟩ : MethodName) prog_96_method_11_code 1 (some .boolean) :: ws) ({ frames := 0, cells := 0, slots := 0, locals := 0 } : Room)) (fun a U => a = #[(.ref vr0)] ∧ Z.Warmed39 U.vm ∧ U.heap = h0) (fun _ _ _ _ _ => True) (fun _ U o U' => ∃ v L, o = .returned v ∧ Q15 Z vr0 w_local_vr0 h0 n0 v U'.heap L ∧ FrameEnd U o U' L ({ frames := 0, cells := 0, slots := 0, locals := 0 } : Room).cells ({ frames := 0, cells := 0, slots := 0, locals := 0 } : Room).slots) := by
  refine MetFree.of_bodySF (plainFor_of_name pn_com_example_vernacular_vernacular_Table_Column) hisR ?_
  intro p e s m args below meth c s₁ Bd hml0 hP hK
  obtain ⟨rfl, hZ, hh⟩ := hP
  have hx := Bd.exec
  have hby := Bd.bytes
  have hml : c.maxLocals = 1 := hml0
  have hown : s.vm.findClass "com/example/vernacular/vernacular/Table$Column" = some m.cls := findClass_of_methodNamed Bd.named
  have hnm := (name_of_methodNamed Bd.named Bd.method).1
  have X0 : Stand p l e ({ frames := 0, cells := 0, slots := 0, locals := 0 } : Room) s m #[(.ref vr0)] below meth c s₁ [] 0 0 := Stand.of_body Bd
  have e0 : s₁.heap = h0 := by rw [← hh, Bd.state]; rfl
  have N0 := Fr.nil n0
  have pre0 : ∀ t, Steps p.tables e below (s₁.setTop (mkF m 0 #[.val (.ref vr0)] [])) t → Steps p.tables e below (s₁.setTop (entryFrame m #[(.ref vr0)] 1)) t := fun t k => castTop (ef_15 m vr0) k
  obtain ⟨T1, X1, e1, st1⟩ := getF X0 hx hZ hown (host := "") (Or.inl (wd_50 hw)) Via.refl e0 F_local_vr0 (g := (mkF m 1 #[.val (.ref vr0)] [(.ref vr0)])) rfl rfl (hb hby d15_1)
  obtain ⟨fs, hr, hrun, hended, hW, hsame⟩ := X1.leave (v := some (.int (nar .boolean w_local_vr0))) (fun h => by rw [Bd.returns] at h; cases h)
  refine ⟨_, _, pre0 _ ?_, hrun, hended, _, _, rfl, ?_, ⟨_, rfl⟩, hW, hsame.mono (by decide) (by decide)⟩
  · show Steps p.tables e below (s₁.setTop (mkF m 0 #[.val (.ref vr0)] [])) _
    refine XS.aloadN X0.here hx rfl (hb hby d15_0) rfl rfl ?_
    show Steps p.tables e below (s₁.setTop (mkF m 1 #[.val (.ref vr0)] [(.ref vr0)])) _
    refine st1 _ ?_
    show Steps p.tables e below (T1.setTop (mkF m 4 #[.val (.ref vr0)] [(.int w_local_vr0)])) _
    exact retN X1 hx (t := .boolean) Bd.returns (by simp) (hb hby d15_4) hr
  · show Q15 Z vr0 w_local_vr0 h0 n0 _ T1.heap _
    rw [e1]
    exact ⟨(congrArg (fun z => some (Value.int z)) hz), N0, rfl⟩
theorem d11_0 : decode jdk_42_method_66_code 0 = .ok (.aload_n 0, 1) := by decide +kernel
theorem d11_1 : decode jdk_42_method_66_code 1 = .ok (.aload_n 1, 1) := by decide +kernel
theorem d11_2 : decode jdk_42_method_66_code 2 = .ok (.if_acmp .ne 5, 3) := by decide +kernel
theorem d11_5 : decode jdk_42_method_66_code 5 = .ok (.iconst 1, 1) := by decide +kernel
theorem d11_6 : decode jdk_42_method_66_code 6 = .ok (.ireturn, 1) := by decide +kernel
theorem pn_java_lang_String : plainName "java/lang/String" = true := by first | (simp [plainName, overriddenIn]; done) | decide +kernel
theorem ef_11 (m : MethodId) (x0 : Addr) : entryFrame m #[(.ref x0), (.ref x0)] 3 = mkF m 0 #[.val (.ref x0), .val (.ref x0), .unset] [] := by first | (simp [entryFrame, mkF, argsToLocals, Value.category]; done) | rfl
def Q11 (Z : State) (vr0 : Addr) (h0 : Heap) (n0 : Nat) (v : Option Value) (h : Heap) (L : List Loc) : Prop := v = some (.int (1 : Int32)) ∧ Fr n0 L ∧ h = h0
set_option maxRecDepth 65536 in
set_option maxHeartbeats 40000000 in
theorem rm11 (l : Launch) (Z : State) (a0 : Array Value) (hw : ∀ d ∈ tables_1, d.before a0 Z = true) (ws : List Jvm.Cond) (vr0 : Addr) (h0 : Heap) (n0 : Nat) (Z0 : n0 ≤ h0.size) :
    MetFree l (⟨"java/lang/String", "equals", "(Ljava/lang/Object;)Z"⟩ : MethodName) (head1 (Jvm.Cond.code (⟨"java/lang/String", "equals", "(Ljava/lang/Object;)Z"⟩ : MethodName) jdk_42_method_66_code 3 (some .boolean) :: ws) ({ frames := 0, cells := 0, slots := 0, locals := 0 } : Room)) (fun a U => a = #[(.ref vr0), (.ref vr0)] ∧ Z.Warmed39 U.vm ∧ U.heap = h0) (fun _ _ _ _ _ => True) (fun _ U o U' => ∃ v L, o = .returned v ∧ Q11 Z vr0 h0 n0 v U'.heap L ∧ FrameEnd U o U' L ({ frames := 0, cells := 0, slots := 0, locals := 0 } : Room).cells ({ frames := 0, cells := 0, slots := 0, locals := 0 } : Room).slots) := by
  refine MetFree.of_bodySF (plainFor_of_name pn_java_lang_String) hisR ?_
  intro p e s m args below meth c s₁ Bd hml0 hP hK
  obtain ⟨rfl, hZ, hh⟩ := hP
  have hx := Bd.exec
  have hby := Bd.bytes
  have hml : c.maxLocals = 3 := hml0
  have hown : s.vm.findClass "java/lang/String" = some m.cls := findClass_of_methodNamed Bd.named
  have hnm := (name_of_methodNamed Bd.named Bd.method).1
  have X0 : Stand p l e ({ frames := 0, cells := 0, slots := 0, locals := 0 } : Room) s m #[(.ref vr0), (.ref vr0)] below meth c s₁ [] 0 0 := Stand.of_body Bd
  have e0 : s₁.heap = h0 := by rw [← hh, Bd.state]; rfl
  have N0 := Fr.nil n0
  have pre0 : ∀ t, Steps p.tables e below (s₁.setTop (mkF m 0 #[.val (.ref vr0), .val (.ref vr0), .unset] [])) t → Steps p.tables e below (s₁.setTop (entryFrame m #[(.ref vr0), (.ref vr0)] 3)) t := fun t k => castTop (ef_11 m vr0) k
  obtain ⟨fs, hr, hrun, hended, hW, hsame⟩ := X0.leave (v := some (.int (1 : Int32))) (fun h => by rw [Bd.returns] at h; cases h)
  refine ⟨_, _, pre0 _ ?_, hrun, hended, _, _, rfl, ?_, ⟨_, rfl⟩, hW, hsame.mono (by decide) (by decide)⟩
  · show Steps p.tables e below (s₁.setTop (mkF m 0 #[.val (.ref vr0), .val (.ref vr0), .unset] [])) _
    refine XS.aloadN X0.here hx rfl (hb hby d11_0) rfl rfl ?_
    show Steps p.tables e below (s₁.setTop (mkF m 1 #[.val (.ref vr0), .val (.ref vr0), .unset] [(.ref vr0)])) _
    refine XS.aloadN X0.here hx rfl (hb hby d11_1) rfl rfl ?_
    show Steps p.tables e below (s₁.setTop (mkF m 2 #[.val (.ref vr0), .val (.ref vr0), .unset] [(.ref vr0), (.ref vr0)])) _
    refine Jvm.RoadKit.acmp (g := (mkF m 2 #[.val (.ref vr0), .val (.ref vr0), .unset] [(.ref vr0), (.ref vr0)])) X0 hx rfl rfl rfl (pc0 := 2) (pc' := 5) (same := true) rfl (hb hby d11_2) rfl (decide_eq_true rfl) (by decide) (by decide) ?_
    show Steps p.tables e below (s₁.setTop (mkF m 5 #[.val (.ref vr0), .val (.ref vr0), .unset] [])) _
    refine XS.iconst X0.here hx rfl (hb hby d11_5) ?_
    show Steps p.tables e below (s₁.setTop (mkF m 6 #[.val (.ref vr0), .val (.ref vr0), .unset] [(.int (1 : Int32))])) _
    exact retN X0 hx (t := .boolean) Bd.returns (by simp) (hb hby d11_6) hr
  · show Q11 Z vr0 h0 n0 _ s₁.heap _
    rw [e0]
    exact ⟨rfl, N0, rfl⟩
theorem wd_0 {Z : State} {a0 : Array Value} (hw : ∀ d ∈ tables_1, d.before a0 Z = true) : ((Jvm.Cond.arrayClass Jvm.ClassFile.FieldType.char)).before a0 Z = true := hw _ (List.mem_of_getElem? (i := 0) rfl)
theorem wd_1 {Z : State} {a0 : Array Value} (hw : ∀ d ∈ tables_1, d.before a0 Z = true) : ((Jvm.Cond.classLink "com/example/vernacular/vernacular/ColumnInheritingPinLaw" (7 : Nat) "java/lang/String")).before a0 Z = true := hw _ (List.mem_of_getElem? (i := 1) rfl)
theorem wd_2 {Z : State} {a0 : Array Value} (hw : ∀ d ∈ tables_1, d.before a0 Z = true) : ((Jvm.Cond.instantiable "java/lang/String" (4 : Nat))).before a0 Z = true := hw _ (List.mem_of_getElem? (i := 2) rfl)
theorem wd_3 {Z : State} {a0 : Array Value} (hw : ∀ d ∈ tables_1, d.before a0 Z = true) : ((Jvm.Cond.initialized "java/lang/String")).before a0 Z = true := hw _ (List.mem_of_getElem? (i := 3) rfl)
theorem wd_27 {Z : State} {a0 : Array Value} (hw : ∀ d ∈ tables_1, d.before a0 Z = true) : ((Jvm.Cond.laysFinal "java/lang/String" "java/lang/String" "coder" "B")).before a0 Z = true := hw _ (List.mem_of_getElem? (i := 27) rfl)
theorem wd_29 {Z : State} {a0 : Array Value} (hw : ∀ d ∈ tables_1, d.before a0 Z = true) : ((Jvm.Cond.laysFinal "java/lang/String" "java/lang/String" "value" "[B")).before a0 Z = true := hw _ (List.mem_of_getElem? (i := 29) rfl)
theorem wd_4 {Z : State} {a0 : Array Value} (hw : ∀ d ∈ tables_1, d.before a0 Z = true) : ((Jvm.Cond.methodLink "com/example/vernacular/vernacular/ColumnInheritingPinLaw" (9 : Nat) ({ cls := "java/lang/String", name := "<init>", desc := "([C)V" } : Jvm.MethodName))).before a0 Z = true := hw _ (List.mem_of_getElem? (i := 4) rfl)
theorem wd_6 {Z : State} {a0 : Array Value} (hw : ∀ d ∈ tables_1, d.before a0 Z = true) : ((Jvm.Cond.code ({ cls := "java/lang/String", name := "<init>", desc := "([C)V" } : Jvm.MethodName) jdk_42_method_3_code (2 : Nat) (Option.none : Option Jvm.ClassFile.FieldType))).before a0 Z = true := hw _ (List.mem_of_getElem? (i := 6) rfl)
theorem pd_0 : parseMethodDescriptor "([C)V" = some ⟨[(.array .char)], none⟩ := by decide +kernel
theorem wd_5 {Z : State} {a0 : Array Value} (hw : ∀ d ∈ tables_1, d.before a0 Z = true) : ((Jvm.Cond.instanceMethod ({ cls := "java/lang/String", name := "<init>", desc := "([C)V" } : Jvm.MethodName))).before a0 Z = true := hw _ (List.mem_of_getElem? (i := 5) rfl)
theorem wd_89 {Z : State} {a0 : Array Value} (hw : ∀ d ∈ tables_1, d.before a0 Z = true) : ((Jvm.Cond.fieldLink "com/example/vernacular/vernacular/ColumnInheritingPinLaw" (12 : Nat) "com/example/vernacular/vernacular/Lineage" "NONE" "Lcom/example/vernacular/vernacular/Lineage;")).before a0 Z = true := hw _ (List.mem_of_getElem? (i := 89) rfl)
theorem wd_30 {Z : State} {a0 : Array Value} (hw : ∀ d ∈ tables_1, d.before a0 Z = true) : ((Jvm.Cond.classLink "com/example/vernacular/vernacular/ColumnInheritingPinLaw" (18 : Nat) "com/example/vernacular/vernacular/Table$Column")).before a0 Z = true := hw _ (List.mem_of_getElem? (i := 30) rfl)
theorem wd_33 {Z : State} {a0 : Array Value} (hw : ∀ d ∈ tables_1, d.before a0 Z = true) : ((Jvm.Cond.methodLink "com/example/vernacular/vernacular/ColumnInheritingPinLaw" (20 : Nat) ({ cls := "com/example/vernacular/vernacular/Table$Column", name := "<init>", desc := "(Ljava/lang/String;ILcom/example/vernacular/vernacular/Lineage;IZ)V" } : Jvm.MethodName))).before a0 Z = true := hw _ (List.mem_of_getElem? (i := 33) rfl)
theorem wd_52 {Z : State} {a0 : Array Value} (hw : ∀ d ∈ tables_1, d.before a0 Z = true) : ((Jvm.Cond.methodLink "com/example/vernacular/vernacular/ColumnInheritingPinLaw" (23 : Nat) ({ cls := "com/example/vernacular/vernacular/Table$Column", name := "inheriting", desc := "(IZ)Lcom/example/vernacular/vernacular/Table$Column;" } : Jvm.MethodName))).before a0 Z = true := hw _ (List.mem_of_getElem? (i := 52) rfl)
theorem wd_56 {Z : State} {a0 : Array Value} (hw : ∀ d ∈ tables_1, d.before a0 Z = true) : ((Jvm.Cond.code ({ cls := "com/example/vernacular/vernacular/Table$Column", name := "inheriting", desc := "(IZ)Lcom/example/vernacular/vernacular/Table$Column;" } : Jvm.MethodName) prog_96_method_3_code (3 : Nat) (Option.some (Jvm.ClassFile.FieldType.object "com/example/vernacular/vernacular/Table$Column")))).before a0 Z = true := hw _ (List.mem_of_getElem? (i := 56) rfl)
theorem pd_7 : parseMethodDescriptor "(IZ)Lcom/example/vernacular/vernacular/Table$Column;" = some ⟨[.int, .boolean], some (.object "com/example/vernacular/vernacular/Table$Column")⟩ := by decide +kernel
theorem wd_55 {Z : State} {a0 : Array Value} (hw : ∀ d ∈ tables_1, d.before a0 Z = true) : ((Jvm.Cond.selects "com/example/vernacular/vernacular/Table$Column" ({ cls := "com/example/vernacular/vernacular/Table$Column", name := "inheriting", desc := "(IZ)Lcom/example/vernacular/vernacular/Table$Column;" } : Jvm.MethodName) ({ cls := "com/example/vernacular/vernacular/Table$Column", name := "inheriting", desc := "(IZ)Lcom/example/vernacular/vernacular/Table$Column;" } : Jvm.MethodName))).before a0 Z = true := hw _ (List.mem_of_getElem? (i := 55) rfl)
theorem wd_53 {Z : State} {a0 : Array Value} (hw : ∀ d ∈ tables_1, d.before a0 Z = true) : ((Jvm.Cond.declares ({ cls := "com/example/vernacular/vernacular/Table$Column", name := "inheriting", desc := "(IZ)Lcom/example/vernacular/vernacular/Table$Column;" } : Jvm.MethodName))).before a0 Z = true := hw _ (List.mem_of_getElem? (i := 53) rfl)
theorem wd_54 {Z : State} {a0 : Array Value} (hw : ∀ d ∈ tables_1, d.before a0 Z = true) : ((Jvm.Cond.instanceMethod ({ cls := "com/example/vernacular/vernacular/Table$Column", name := "inheriting", desc := "(IZ)Lcom/example/vernacular/vernacular/Table$Column;" } : Jvm.MethodName))).before a0 Z = true := hw _ (List.mem_of_getElem? (i := 54) rfl)
theorem wd_59 {Z : State} {a0 : Array Value} (hw : ∀ d ∈ tables_1, d.before a0 Z = true) : ((Jvm.Cond.methodLink "com/example/vernacular/vernacular/ColumnInheritingPinLaw" (27 : Nat) ({ cls := "com/example/vernacular/vernacular/Table$Column", name := "name", desc := "()Ljava/lang/String;" } : Jvm.MethodName))).before a0 Z = true := hw _ (List.mem_of_getElem? (i := 59) rfl)
theorem wd_63 {Z : State} {a0 : Array Value} (hw : ∀ d ∈ tables_1, d.before a0 Z = true) : ((Jvm.Cond.code ({ cls := "com/example/vernacular/vernacular/Table$Column", name := "name", desc := "()Ljava/lang/String;" } : Jvm.MethodName) prog_96_method_7_code (1 : Nat) (Option.some (Jvm.ClassFile.FieldType.object "java/lang/String")))).before a0 Z = true := hw _ (List.mem_of_getElem? (i := 63) rfl)
theorem pd_8 : parseMethodDescriptor "()Ljava/lang/String;" = some ⟨[], some (.object "java/lang/String")⟩ := by decide +kernel
theorem wd_62 {Z : State} {a0 : Array Value} (hw : ∀ d ∈ tables_1, d.before a0 Z = true) : ((Jvm.Cond.selects "com/example/vernacular/vernacular/Table$Column" ({ cls := "com/example/vernacular/vernacular/Table$Column", name := "name", desc := "()Ljava/lang/String;" } : Jvm.MethodName) ({ cls := "com/example/vernacular/vernacular/Table$Column", name := "name", desc := "()Ljava/lang/String;" } : Jvm.MethodName))).before a0 Z = true := hw _ (List.mem_of_getElem? (i := 62) rfl)
theorem wd_60 {Z : State} {a0 : Array Value} (hw : ∀ d ∈ tables_1, d.before a0 Z = true) : ((Jvm.Cond.declares ({ cls := "com/example/vernacular/vernacular/Table$Column", name := "name", desc := "()Ljava/lang/String;" } : Jvm.MethodName))).before a0 Z = true := hw _ (List.mem_of_getElem? (i := 60) rfl)
theorem wd_61 {Z : State} {a0 : Array Value} (hw : ∀ d ∈ tables_1, d.before a0 Z = true) : ((Jvm.Cond.instanceMethod ({ cls := "com/example/vernacular/vernacular/Table$Column", name := "name", desc := "()Ljava/lang/String;" } : Jvm.MethodName))).before a0 Z = true := hw _ (List.mem_of_getElem? (i := 61) rfl)
theorem wd_64 {Z : State} {a0 : Array Value} (hw : ∀ d ∈ tables_1, d.before a0 Z = true) : ((Jvm.Cond.methodLink "com/example/vernacular/vernacular/ColumnInheritingPinLaw" (31 : Nat) ({ cls := "java/lang/String", name := "equals", desc := "(Ljava/lang/Object;)Z" } : Jvm.MethodName))).before a0 Z = true := hw _ (List.mem_of_getElem? (i := 64) rfl)
theorem wd_68 {Z : State} {a0 : Array Value} (hw : ∀ d ∈ tables_1, d.before a0 Z = true) : ((Jvm.Cond.code ({ cls := "java/lang/String", name := "equals", desc := "(Ljava/lang/Object;)Z" } : Jvm.MethodName) jdk_42_method_66_code (3 : Nat) (Option.some Jvm.ClassFile.FieldType.boolean))).before a0 Z = true := hw _ (List.mem_of_getElem? (i := 68) rfl)
theorem pd_9 : parseMethodDescriptor "(Ljava/lang/Object;)Z" = some ⟨[(.object "java/lang/Object")], some .boolean⟩ := by decide +kernel
theorem wd_67 {Z : State} {a0 : Array Value} (hw : ∀ d ∈ tables_1, d.before a0 Z = true) : ((Jvm.Cond.selects "java/lang/String" ({ cls := "java/lang/String", name := "equals", desc := "(Ljava/lang/Object;)Z" } : Jvm.MethodName) ({ cls := "java/lang/String", name := "equals", desc := "(Ljava/lang/Object;)Z" } : Jvm.MethodName))).before a0 Z = true := hw _ (List.mem_of_getElem? (i := 67) rfl)
theorem wd_65 {Z : State} {a0 : Array Value} (hw : ∀ d ∈ tables_1, d.before a0 Z = true) : ((Jvm.Cond.declares ({ cls := "java/lang/String", name := "equals", desc := "(Ljava/lang/Object;)Z" } : Jvm.MethodName))).before a0 Z = true := hw _ (List.mem_of_getElem? (i := 65) rfl)
theorem wd_66 {Z : State} {a0 : Array Value} (hw : ∀ d ∈ tables_1, d.before a0 Z = true) : ((Jvm.Cond.instanceMethod ({ cls := "java/lang/String", name := "equals", desc := "(Ljava/lang/Object;)Z" } : Jvm.MethodName))).before a0 Z = true := hw _ (List.mem_of_getElem? (i := 66) rfl)
theorem wd_69 {Z : State} {a0 : Array Value} (hw : ∀ d ∈ tables_1, d.before a0 Z = true) : ((Jvm.Cond.methodLink "com/example/vernacular/vernacular/ColumnInheritingPinLaw" (35 : Nat) ({ cls := "com/example/vernacular/vernacular/Table$Column", name := "position", desc := "()I" } : Jvm.MethodName))).before a0 Z = true := hw _ (List.mem_of_getElem? (i := 69) rfl)
theorem wd_73 {Z : State} {a0 : Array Value} (hw : ∀ d ∈ tables_1, d.before a0 Z = true) : ((Jvm.Cond.code ({ cls := "com/example/vernacular/vernacular/Table$Column", name := "position", desc := "()I" } : Jvm.MethodName) prog_96_method_8_code (1 : Nat) (Option.some Jvm.ClassFile.FieldType.int))).before a0 Z = true := hw _ (List.mem_of_getElem? (i := 73) rfl)
theorem pd_10 : parseMethodDescriptor "()I" = some ⟨[], some .int⟩ := by decide +kernel
theorem wd_72 {Z : State} {a0 : Array Value} (hw : ∀ d ∈ tables_1, d.before a0 Z = true) : ((Jvm.Cond.selects "com/example/vernacular/vernacular/Table$Column" ({ cls := "com/example/vernacular/vernacular/Table$Column", name := "position", desc := "()I" } : Jvm.MethodName) ({ cls := "com/example/vernacular/vernacular/Table$Column", name := "position", desc := "()I" } : Jvm.MethodName))).before a0 Z = true := hw _ (List.mem_of_getElem? (i := 72) rfl)
theorem wd_70 {Z : State} {a0 : Array Value} (hw : ∀ d ∈ tables_1, d.before a0 Z = true) : ((Jvm.Cond.declares ({ cls := "com/example/vernacular/vernacular/Table$Column", name := "position", desc := "()I" } : Jvm.MethodName))).before a0 Z = true := hw _ (List.mem_of_getElem? (i := 70) rfl)
theorem wd_71 {Z : State} {a0 : Array Value} (hw : ∀ d ∈ tables_1, d.before a0 Z = true) : ((Jvm.Cond.instanceMethod ({ cls := "com/example/vernacular/vernacular/Table$Column", name := "position", desc := "()I" } : Jvm.MethodName))).before a0 Z = true := hw _ (List.mem_of_getElem? (i := 71) rfl)
theorem wd_74 {Z : State} {a0 : Array Value} (hw : ∀ d ∈ tables_1, d.before a0 Z = true) : ((Jvm.Cond.methodLink "com/example/vernacular/vernacular/ColumnInheritingPinLaw" (39 : Nat) ({ cls := "com/example/vernacular/vernacular/Table$Column", name := "lineage", desc := "()Lcom/example/vernacular/vernacular/Lineage;" } : Jvm.MethodName))).before a0 Z = true := hw _ (List.mem_of_getElem? (i := 74) rfl)
theorem wd_78 {Z : State} {a0 : Array Value} (hw : ∀ d ∈ tables_1, d.before a0 Z = true) : ((Jvm.Cond.code ({ cls := "com/example/vernacular/vernacular/Table$Column", name := "lineage", desc := "()Lcom/example/vernacular/vernacular/Lineage;" } : Jvm.MethodName) prog_96_method_9_code (1 : Nat) (Option.some (Jvm.ClassFile.FieldType.object "com/example/vernacular/vernacular/Lineage")))).before a0 Z = true := hw _ (List.mem_of_getElem? (i := 78) rfl)
theorem pd_11 : parseMethodDescriptor "()Lcom/example/vernacular/vernacular/Lineage;" = some ⟨[], some (.object "com/example/vernacular/vernacular/Lineage")⟩ := by decide +kernel
theorem wd_77 {Z : State} {a0 : Array Value} (hw : ∀ d ∈ tables_1, d.before a0 Z = true) : ((Jvm.Cond.selects "com/example/vernacular/vernacular/Table$Column" ({ cls := "com/example/vernacular/vernacular/Table$Column", name := "lineage", desc := "()Lcom/example/vernacular/vernacular/Lineage;" } : Jvm.MethodName) ({ cls := "com/example/vernacular/vernacular/Table$Column", name := "lineage", desc := "()Lcom/example/vernacular/vernacular/Lineage;" } : Jvm.MethodName))).before a0 Z = true := hw _ (List.mem_of_getElem? (i := 77) rfl)
theorem wd_75 {Z : State} {a0 : Array Value} (hw : ∀ d ∈ tables_1, d.before a0 Z = true) : ((Jvm.Cond.declares ({ cls := "com/example/vernacular/vernacular/Table$Column", name := "lineage", desc := "()Lcom/example/vernacular/vernacular/Lineage;" } : Jvm.MethodName))).before a0 Z = true := hw _ (List.mem_of_getElem? (i := 75) rfl)
theorem wd_76 {Z : State} {a0 : Array Value} (hw : ∀ d ∈ tables_1, d.before a0 Z = true) : ((Jvm.Cond.instanceMethod ({ cls := "com/example/vernacular/vernacular/Table$Column", name := "lineage", desc := "()Lcom/example/vernacular/vernacular/Lineage;" } : Jvm.MethodName))).before a0 Z = true := hw _ (List.mem_of_getElem? (i := 76) rfl)
theorem wd_79 {Z : State} {a0 : Array Value} (hw : ∀ d ∈ tables_1, d.before a0 Z = true) : ((Jvm.Cond.methodLink "com/example/vernacular/vernacular/ColumnInheritingPinLaw" (43 : Nat) ({ cls := "com/example/vernacular/vernacular/Table$Column", name := "inherited", desc := "()I" } : Jvm.MethodName))).before a0 Z = true := hw _ (List.mem_of_getElem? (i := 79) rfl)
theorem wd_83 {Z : State} {a0 : Array Value} (hw : ∀ d ∈ tables_1, d.before a0 Z = true) : ((Jvm.Cond.code ({ cls := "com/example/vernacular/vernacular/Table$Column", name := "inherited", desc := "()I" } : Jvm.MethodName) prog_96_method_10_code (1 : Nat) (Option.some Jvm.ClassFile.FieldType.int))).before a0 Z = true := hw _ (List.mem_of_getElem? (i := 83) rfl)
theorem wd_82 {Z : State} {a0 : Array Value} (hw : ∀ d ∈ tables_1, d.before a0 Z = true) : ((Jvm.Cond.selects "com/example/vernacular/vernacular/Table$Column" ({ cls := "com/example/vernacular/vernacular/Table$Column", name := "inherited", desc := "()I" } : Jvm.MethodName) ({ cls := "com/example/vernacular/vernacular/Table$Column", name := "inherited", desc := "()I" } : Jvm.MethodName))).before a0 Z = true := hw _ (List.mem_of_getElem? (i := 82) rfl)
theorem wd_80 {Z : State} {a0 : Array Value} (hw : ∀ d ∈ tables_1, d.before a0 Z = true) : ((Jvm.Cond.declares ({ cls := "com/example/vernacular/vernacular/Table$Column", name := "inherited", desc := "()I" } : Jvm.MethodName))).before a0 Z = true := hw _ (List.mem_of_getElem? (i := 80) rfl)
theorem wd_81 {Z : State} {a0 : Array Value} (hw : ∀ d ∈ tables_1, d.before a0 Z = true) : ((Jvm.Cond.instanceMethod ({ cls := "com/example/vernacular/vernacular/Table$Column", name := "inherited", desc := "()I" } : Jvm.MethodName))).before a0 Z = true := hw _ (List.mem_of_getElem? (i := 81) rfl)
theorem wd_84 {Z : State} {a0 : Array Value} (hw : ∀ d ∈ tables_1, d.before a0 Z = true) : ((Jvm.Cond.methodLink "com/example/vernacular/vernacular/ColumnInheritingPinLaw" (46 : Nat) ({ cls := "com/example/vernacular/vernacular/Table$Column", name := "local", desc := "()Z" } : Jvm.MethodName))).before a0 Z = true := hw _ (List.mem_of_getElem? (i := 84) rfl)
theorem wd_88 {Z : State} {a0 : Array Value} (hw : ∀ d ∈ tables_1, d.before a0 Z = true) : ((Jvm.Cond.code ({ cls := "com/example/vernacular/vernacular/Table$Column", name := "local", desc := "()Z" } : Jvm.MethodName) prog_96_method_11_code (1 : Nat) (Option.some Jvm.ClassFile.FieldType.boolean))).before a0 Z = true := hw _ (List.mem_of_getElem? (i := 88) rfl)
theorem pd_12 : parseMethodDescriptor "()Z" = some ⟨[], some .boolean⟩ := by decide +kernel
theorem wd_87 {Z : State} {a0 : Array Value} (hw : ∀ d ∈ tables_1, d.before a0 Z = true) : ((Jvm.Cond.selects "com/example/vernacular/vernacular/Table$Column" ({ cls := "com/example/vernacular/vernacular/Table$Column", name := "local", desc := "()Z" } : Jvm.MethodName) ({ cls := "com/example/vernacular/vernacular/Table$Column", name := "local", desc := "()Z" } : Jvm.MethodName))).before a0 Z = true := hw _ (List.mem_of_getElem? (i := 87) rfl)
theorem wd_85 {Z : State} {a0 : Array Value} (hw : ∀ d ∈ tables_1, d.before a0 Z = true) : ((Jvm.Cond.declares ({ cls := "com/example/vernacular/vernacular/Table$Column", name := "local", desc := "()Z" } : Jvm.MethodName))).before a0 Z = true := hw _ (List.mem_of_getElem? (i := 85) rfl)
theorem wd_86 {Z : State} {a0 : Array Value} (hw : ∀ d ∈ tables_1, d.before a0 Z = true) : ((Jvm.Cond.instanceMethod ({ cls := "com/example/vernacular/vernacular/Table$Column", name := "local", desc := "()Z" } : Jvm.MethodName))).before a0 Z = true := hw _ (List.mem_of_getElem? (i := 86) rfl)
theorem pn_com_example_vernacular_vernacular_ColumnInheritingPinLaw : plainName "com/example/vernacular/vernacular/ColumnInheritingPinLaw" = true := by first | (simp [plainName, overriddenIn]; done) | decide +kernel
theorem ef_0_R (m : MethodId) (x0 : Int32) (x1 : Int32) (x2 : Int32) (x3 : Int32) (x4 : Int32) : entryFrame m #[(.int x0), (.int x1), (.int x2), (.int x3), (.int x4)] maxLocals = mkF m 0 #[.val (.int x0), .val (.int x1), .val (.int x2), .val (.int x3), .val (.int x4), .unset, .unset, .unset, .unset, .unset, .unset, .unset, .unset] [] := by first | (simp [entryFrame, mkF, argsToLocals, Value.category, maxLocals]; done) | rfl
def Q0_R (Z : State) (vi0 : Int32) (vi1 : Int32) (vi2 : Int32) (vi3 : Int32) (vi4 : Int32) (w_COMPACT_STRINGS : Int32) (w_NONE : Addr) (h0 : Heap) (n0 : Nat) (v : Option Value) (h : Heap) (L : List Loc) : Prop := v = some (.int (1 : Int32)) ∧ Fr n0 L
set_option maxRecDepth 65536 in
set_option maxHeartbeats 40000000 in
theorem rm0_R (l : Launch) (Z : State) (a0 : Array Value) (hw : ∀ d ∈ tables_1, d.before a0 Z = true) (ws : List Jvm.Cond) (vi0 : Int32) (vi1 : Int32) (vi2 : Int32) (vi3 : Int32) (vi4 : Int32) (w_COMPACT_STRINGS : Int32) (w_NONE : Addr) (h0 : Heap) (n0 : Nat) (Z0 : n0 ≤ h0.size) (S_COMPACT_STRINGS : Sta Z Z.heap "java/lang/String" "COMPACT_STRINGS" "Z" (.int w_COMPACT_STRINGS)) (hG : ¬ (w_COMPACT_STRINGS = (0 : Int32))) (O0 : Old Z n0 h0) (hc83 : ¬ ((vi4 &&& (8 : Int32)) = (0 : Int32))) (S_NONE : Sta Z Z.heap "com/example/vernacular/vernacular/Lineage" "NONE" "Lcom/example/vernacular/vernacular/Lineage;" (.ref w_NONE)) :
    MetFree l x (head1 (Jvm.Cond.code x code maxLocals ret :: ws) room_1) (fun a U => a = #[(.int vi0), (.int vi1), (.int vi2), (.int vi3), (.int vi4)] ∧ Z.Warmed39 U.vm ∧ U.heap = h0) (fun _ _ _ _ _ => True) (fun _ U o U' => ∃ v L, o = .returned v ∧ Q0_R Z vi0 vi1 vi2 vi3 vi4 w_COMPACT_STRINGS w_NONE h0 n0 v U'.heap L ∧ FrameEnd U o U' L room_1.cells room_1.slots) := by
  refine MetFree.of_bodySF (plainFor_of_name pn_com_example_vernacular_vernacular_ColumnInheritingPinLaw) hisR ?_
  intro p e s m args below meth c s₁ Bd hml0 hP hK
  obtain ⟨rfl, hZ, hh⟩ := hP
  have hx := Bd.exec
  have hby := Bd.bytes
  have hml : c.maxLocals = 13 := hml0
  have hown : s.vm.findClass "com/example/vernacular/vernacular/ColumnInheritingPinLaw" = some m.cls := findClass_of_methodNamed Bd.named
  have hnm := (name_of_methodNamed Bd.named Bd.method).1
  have X0 : Stand p l e room_1 s m #[(.int vi0), (.int vi1), (.int vi2), (.int vi3), (.int vi4)] below meth c s₁ [] 0 0 := Stand.of_body Bd
  have e0 : s₁.heap = h0 := by rw [← hh, Bd.state]; rfl
  have N0 := Fr.nil n0
  have pre0 : ∀ t, Steps p.tables e below (s₁.setTop (mkF m 0 #[.val (.int vi0), .val (.int vi1), .val (.int vi2), .val (.int vi3), .val (.int vi4), .unset, .unset, .unset, .unset, .unset, .unset, .unset, .unset] [])) t → Steps p.tables e below (s₁.setTop (entryFrame m #[(.int vi0), (.int vi1), (.int vi2), (.int vi3), (.int vi4)] maxLocals)) t := fun t k => castTop (ef_0_R m vi0 vi1 vi2 vi3 vi4) k
  obtain ⟨T1, h1, k1, X1, e1, E1, A1, st1⟩ := newP X0 hx hZ (aty := .char) (wd_0 hw) e0 (g := (mkF m 1 #[.val (.int vi0), .val (.int vi1), .val (.int vi2), .val (.int vi3), .val (.int vi4), .unset, .unset, .unset, .unset, .unset, .unset, .unset, .unset] [(.int (2 : Int32))])) rfl (hb hby at_1) rfl (by decide) (cap := 2) (by decide) (by decide) (by decide) (by decide)
  obtain ⟨b1, g1⟩ : ∃ z, z = h0.size := ⟨_, rfl⟩
  rw [← g1] at A1 st1
  have g_b1 : n0 ≤ b1 := Nat.le_trans Z0 (Nat.le_of_eq g1.symm)
  have sz_b1 : h0.size ≤ b1 := Nat.le_trans (Keep.refl h0 []).1 (Nat.le_of_eq g1.symm)
  have K1 : Keep h0 h1 [] := (Keep.refl h0 []).ext E1
  have V_b1 : Arv Z h1 b1 k1 .char (2 : Int32) [(.int (0 : Int32)), (.int (0 : Int32))] (.int (0 : Int32)) := (Arv.new A1 (by decide)).pad (pad_rep [] (.int (0 : Int32)) 2)
  obtain ⟨cl2, Ar2, q2, Sz2, Ng2, Hh2, Gg2⟩ := V_b1
  have hin2 : ¬ ((0 : Int32) < 0 ∨ cl2.slots.size ≤ ((0 : Int32)).toNatClampNeg) := inb_of Sz2 ⟨by decide, by decide⟩
  obtain ⟨T2, h2, X2, e2, W2, st2⟩ := stC X1 hx hZ e1 Ar2 (j := (0 : Int32)) hin2 (g := (mkF m 14 #[.val (.int vi0), .val (.int vi1), .val (.int vi2), .val (.int vi3), .val (.int vi4), .val (.ref b1), .unset, .unset, .unset, .unset, .unset, .unset, .unset] [(.int ((vi0 &&& (255 : Int32)).toUInt32.toUInt16.toUInt32.toInt32)), (.int (0 : Int32)), (.ref b1)])) rfl rfl (hb hby at_14)
  have V_b1_2 : Arv Z h2 b1 k1 .char (2 : Int32) [(.int (nar .char ((vi0 &&& (255 : Int32)).toUInt32.toUInt16.toUInt32.toInt32))), (.int (0 : Int32))] (.int (0 : Int32)) := Arv.set Ar2 q2 Sz2 Ng2 Hh2 Gg2 (fits_nar_char _) W2 0 rfl (Nat.le_of_ble_eq_true rfl)
  have N2 := Fr.snoc X2 N0 g_b1
  have K2 : Keep h0 h2 [] := K1.wr W2 (Or.inr sz_b1)
  obtain ⟨cl3, Ar3, q3, Sz3, Ng3, Hh3, Gg3⟩ := V_b1_2
  have hin3 : ¬ ((1 : Int32) < 0 ∨ cl3.slots.size ≤ ((1 : Int32)).toNatClampNeg) := inb_of Sz3 ⟨by decide, by decide⟩
  obtain ⟨T3, h3, X3, e3, W3, st3⟩ := stC X2 hx hZ e2 Ar3 (j := (1 : Int32)) hin3 (g := (mkF m 24 #[.val (.int vi0), .val (.int vi1), .val (.int vi2), .val (.int vi3), .val (.int vi4), .val (.ref b1), .unset, .unset, .unset, .unset, .unset, .unset, .unset] [(.int ((vi1 &&& (255 : Int32)).toUInt32.toUInt16.toUInt32.toInt32)), (.int (1 : Int32)), (.ref b1)])) rfl rfl (hb hby at_24)
  have V_b1_3 : Arv Z h3 b1 k1 .char (2 : Int32) [(.int (nar .char ((vi0 &&& (255 : Int32)).toUInt32.toUInt16.toUInt32.toInt32))), (.int (nar .char ((vi1 &&& (255 : Int32)).toUInt32.toUInt16.toUInt32.toInt32)))] (.int (0 : Int32)) := Arv.set Ar3 q3 Sz3 Ng3 Hh3 Gg3 (fits_nar_char _) W3 1 rfl (Nat.le_of_ble_eq_true rfl)
  have N3 := Fr.snoc X3 N2 g_b1
  have K3 : Keep h0 h3 [] := K2.wr W3 (Or.inr sz_b1)
  obtain ⟨T4, h4, X4, e4, E4, A4, D4, -, st4⟩ := newO X3 hx hZ hown (wd_1 hw) (wd_2 hw) (wd_3 hw) e3 (g := (mkF m 25 #[.val (.int vi0), .val (.int vi1), .val (.int vi2), .val (.int vi3), .val (.int vi4), .val (.ref b1), .unset, .unset, .unset, .unset, .unset, .unset, .unset] [])) rfl (hb hby at_25) (by decide) (by decide)
  obtain ⟨b4, g4⟩ : ∃ z, z = h3.size := ⟨_, rfl⟩
  rw [← g4] at A4 D4 st4
  have g_b4 : n0 ≤ b4 := Nat.le_trans (Nat.le_trans (Nat.le_trans (Nat.le_trans Z0 E1.1) (Keep.of_wr W2).1) (Keep.of_wr W3).1) (Nat.le_of_eq g4.symm)
  have sz_b4 : h0.size ≤ b4 := Nat.le_trans K3.1 (Nat.le_of_eq g4.symm)
  have K4 : Keep h0 h4 [] := K3.ext E4
  have F_coder_b4 : Fld Z h4 b4 "java/lang/String" "coder" "B" (.int (0 : Int32)) := D4 (Or.inr (wd_27 hw)) (ty := .byte) (by decide)
  have F_value_b4 : Fld Z h4 b4 "java/lang/String" "value" "[B" .null := D4 (Or.inr (wd_29 hw)) (ty := (.array .byte)) (by decide)
  obtain ⟨_, _, ⟨T5, L5, k5, n5⟩, -, X5, ⟨Lc5, hQ5, l5, y5, z5⟩, st5⟩ := X4.specialBack hx (y := (⟨"java/lang/String", "<init>", "([C)V"⟩ : MethodName)) rfl hown (mvT hZ (wd_4 hw)) (mvT hZ (wd_5 hw)) (mvT hZ (wd_6 hw)) (by decide) (StrChars.Road.backV (W := 1) hZ (fun d hd => hw d (own_words d hd)) (kI := 4) (wd_2 hw) (cs := ([(nar .char ((vi0 &&& (255 : Int32)).toUInt32.toUInt16.toUInt32.toInt32)), (nar .char ((vi1 &&& (255 : Int32)).toUInt32.toUInt16.toUInt32.toInt32))] : List Int32)) (bs := ([(nar .char ((vi0 &&& (255 : Int32)).toUInt32.toUInt16.toUInt32.toInt32)), (nar .char ((vi1 &&& (255 : Int32)).toUInt32.toUInt16.toUInt32.toInt32))] : List Int32).map (fun c => c.toInt8.toInt32)) (n := 2) g_b4 (Nat.le_trans (Nat.le_trans (Nat.le_trans (Nat.le_trans Z0 E1.1) (Keep.of_wr W2).1) (Keep.of_wr W3).1) E4.1) A4 F_value_b4 F_coder_b4 (V_b1_3.ext E4) (S_COMPACT_STRINGS.ext ((((O0.ext E1).wr W2 g_b1).wr W3 g_b1).ext E4).2) hG rfl rfl (by decide) (by decide) (by intro c hc; simp only [List.mem_cons, List.not_mem_nil, or_false] at hc; rcases hc with rfl | rfl <;> exact own_255 _) rfl (by decide) (by decide)) (g := (mkF m 31 #[.val (.int vi0), .val (.int vi1), .val (.int vi2), .val (.int vi3), .val (.int vi4), .val (.ref b1), .unset, .unset, .unset, .unset, .unset, .unset, .unset] [(.ref b1), (.ref b4), (.ref b4)])) rfl (by rw [hml]; rfl) (Steps.refl _) (a := b4) (argsL := [(.ref b1)]) (rest := [(.ref b4)]) (lenOf pd_0 rfl) rfl (by show 2 * 0 + _ ≤ _; exact Nat.le_of_eq rfl) (hb hby at_31) (fun _ _ => ⟨rfl, e4, (by decide : 2 + 1 ≤ _), (by decide : 6 + 2 ≤ _)⟩)
  dsimp only [Pt.U, Pt.locs, Pt.cells, Pt.slots] at X5 l5 y5 z5 st5 hQ5
  subst l5 y5 z5
  obtain ⟨rfl, N5q, p5_0, p5_1, p5_2, t5, kb5, gt5, p5_3, nt5, p5_4, p5_5⟩ := hQ5
  have N5 := Fr.app N3 N5q
  have g_t5 : n0 ≤ t5 := Nat.le_trans (Nat.le_trans (Nat.le_trans (Nat.le_trans (Nat.le_trans Z0 E1.1) (Keep.of_wr W2).1) (Keep.of_wr W3).1) E4.1) p5_3
  have sz_t5 : h0.size ≤ t5 := Nat.le_trans K4.1 p5_3
  have K5 : Keep h0 T5.heap [] := K4.trans p5_0 (allS (Or.inr sz_b4) all0)
  obtain ⟨z6, z6t, z6f⟩ : ∃ z : Int32, ((vi4 &&& (1 : Int32)) = (0 : Int32) → z = (0 : Int32)) ∧ (¬ ((vi4 &&& (1 : Int32)) = (0 : Int32)) → z = (1 : Int32)) := ⟨if (vi4 &&& (1 : Int32)) = (0 : Int32) then (0 : Int32) else (1 : Int32), fun h => if_pos h, fun h => if_neg h⟩
  have z6b : z6 = (0 : Int32) ∨ z6 = (1 : Int32) := (Decidable.em ((vi4 &&& (1 : Int32)) = (0 : Int32))).elim (fun h => Or.inl (z6t h)) (fun h => Or.inr (z6f h))
  obtain ⟨z7, z7t, z7f⟩ : ∃ z : Int32, ((vi4 &&& (2 : Int32)) = (0 : Int32) → z = (0 : Int32)) ∧ (¬ ((vi4 &&& (2 : Int32)) = (0 : Int32)) → z = (1 : Int32)) := ⟨if (vi4 &&& (2 : Int32)) = (0 : Int32) then (0 : Int32) else (1 : Int32), fun h => if_pos h, fun h => if_neg h⟩
  have z7b : z7 = (0 : Int32) ∨ z7 = (1 : Int32) := (Decidable.em ((vi4 &&& (2 : Int32)) = (0 : Int32))).elim (fun h => Or.inl (z7t h)) (fun h => Or.inr (z7f h))
  obtain ⟨z8, z8t, z8f⟩ : ∃ z : Int32, ((vi4 &&& (4 : Int32)) = (0 : Int32) → z = (-1 : Int32)) ∧ (¬ ((vi4 &&& (4 : Int32)) = (0 : Int32)) → z = (1 : Int32)) := ⟨if (vi4 &&& (4 : Int32)) = (0 : Int32) then (-1 : Int32) else (1 : Int32), fun h => if_pos h, fun h => if_neg h⟩
  have z8b : z8 = (-1 : Int32) ∨ z8 = (1 : Int32) := (Decidable.em ((vi4 &&& (4 : Int32)) = (0 : Int32))).elim (fun h => Or.inl (z8t h)) (fun h => Or.inr (z8f h))
  obtain ⟨T9, X9, e9, st9⟩ := getS2 X5 hx hZ hown (host := "") (Or.inl (wd_89 hw)) Via.refl rfl (S_NONE.ext (((((O0.ext E1).wr W2 g_b1).wr W3 g_b1).ext E4).keep p5_0 (allS g_b4 all0)).2) (g := (mkF m 86 #[.val (.int vi0), .val (.int vi1), .val (.int vi2), .val (.int vi3), .val (.int vi4), .val (.ref b1), .val (.ref b4), .val (.int z6), .val (.int z7), .val (.int z8), .unset, .unset, .unset] [])) rfl (hb hby at_86)
  obtain ⟨T10, h10, X10, e10, E10, A10, D10, -, st10⟩ := newO X9 hx hZ hown (wd_30 hw) (wd_31 hw) (wd_32 hw) e9 (g := (mkF m 95 #[.val (.int vi0), .val (.int vi1), .val (.int vi2), .val (.int vi3), .val (.int vi4), .val (.ref b1), .val (.ref b4), .val (.int z6), .val (.int z7), .val (.int z8), .val (.ref w_NONE), .unset, .unset] [])) rfl (hb hby at_95) (by decide) (by decide)
  obtain ⟨b10, g10⟩ : ∃ z, z = T5.heap.size := ⟨_, rfl⟩
  rw [← g10] at A10 D10 st10
  have g_b10 : n0 ≤ b10 := Nat.le_trans (Nat.le_trans (Nat.le_trans (Nat.le_trans (Nat.le_trans (Nat.le_trans Z0 E1.1) (Keep.of_wr W2).1) (Keep.of_wr W3).1) E4.1) p5_0.1) (Nat.le_of_eq g10.symm)
  have sz_b10 : h0.size ≤ b10 := Nat.le_trans K5.1 (Nat.le_of_eq g10.symm)
  have K10 : Keep h0 h10 [] := K5.ext E10
  have F_name_b10 : Fld Z h10 b10 "com/example/vernacular/vernacular/Table$Column" "name" "Ljava/lang/String;" .null := D10 (Or.inr (wd_43 hw)) (ty := (.object "java/lang/String")) (by decide)
  have F_position_b10 : Fld Z h10 b10 "com/example/vernacular/vernacular/Table$Column" "position" "I" (.int (0 : Int32)) := D10 (Or.inr (wd_45 hw)) (ty := .int) (by decide)
  have F_lineage_b10 : Fld Z h10 b10 "com/example/vernacular/vernacular/Table$Column" "lineage" "Lcom/example/vernacular/vernacular/Lineage;" .null := D10 (Or.inr (wd_47 hw)) (ty := (.object "com/example/vernacular/vernacular/Lineage")) (by decide)
  have F_inherited_b10 : Fld Z h10 b10 "com/example/vernacular/vernacular/Table$Column" "inherited" "I" (.int (0 : Int32)) := D10 (Or.inr (wd_49 hw)) (ty := .int) (by decide)
  have F_local_b10 : Fld Z h10 b10 "com/example/vernacular/vernacular/Table$Column" "local" "Z" (.int (0 : Int32)) := D10 (Or.inr (wd_51 hw)) (ty := .boolean) (by decide)
  obtain ⟨_, _, ⟨T11, L11, k11, n11⟩, -, X11, ⟨Lc11, hQ11, l11, y11, z11⟩, st11⟩ := X10.specialBack hx (y := (⟨"com/example/vernacular/vernacular/Table$Column", "<init>", "(Ljava/lang/String;ILcom/example/vernacular/vernacular/Lineage;IZ)V"⟩ : MethodName)) rfl hown (mvT hZ (wd_33 hw)) (mvT hZ (wd_34 hw)) (mvT hZ (wd_35 hw)) (by decide) (backOf (W := 1) (rm7_R l Z a0 hw [] b10 b4 vi2 w_NONE vi3 z6 .null (.int (0 : Int32)) .null (.int (0 : Int32)) (.int (0 : Int32)) h10 n0 (Nat.le_trans (Nat.le_trans (Nat.le_trans (Nat.le_trans (Nat.le_trans (Nat.le_trans Z0 E1.1) (Keep.of_wr W2).1) (Keep.of_wr W3).1) E4.1) p5_0.1) E10.1) (own_bit z6b) A10 F_name_b10 g_b10 F_position_b10 F_lineage_b10 F_inherited_b10 F_local_b10) hZ (wd_35 hw) (wd_32 hw) (by decide) (by decide)) (g := (mkF m 107 #[.val (.int vi0), .val (.int vi1), .val (.int vi2), .val (.int vi3), .val (.int vi4), .val (.ref b1), .val (.ref b4), .val (.int z6), .val (.int z7), .val (.int z8), .val (.ref w_NONE), .unset, .unset] [(.int z6), (.int vi3), (.ref w_NONE), (.int vi2), (.ref b4), (.ref b10), (.ref b10)])) rfl (by rw [hml]; rfl) (Steps.refl _) (a := b10) (argsL := [(.ref b4), (.int vi2), (.ref w_NONE), (.int vi3), (.int z6)]) (rest := [(.ref b10)]) (lenOf pd_6 rfl) rfl (by show 2 * 0 + _ ≤ _; exact Nat.le_of_eq rfl) (hb hby at_107) (fun _ _ => ⟨rfl, e10, (by decide : 4 + 0 ≤ _), (by decide : 13 + 0 ≤ _)⟩)
  dsimp only [Pt.U, Pt.locs, Pt.cells, Pt.slots] at X11 l11 y11 z11 st11 hQ11
  subst l11 y11 z11
  obtain ⟨rfl, N11q, p11_0, p11_1, p11_2, p11_3, p11_4, p11_5⟩ := hQ11
  have N11 := Fr.app N5 N11q
  have K11 : Keep h0 T11.heap [] := K10.trans p11_0 (allS (Or.inr sz_b10) all0)
  obtain ⟨cq12, kq12, q12a, q12b, q12c⟩ := isOf hZ rfl (A10.keep p11_0)
  obtain ⟨_, _, ⟨T12, L12, k12, n12⟩, -, X12, ⟨Lc12, hQ12, l12, y12, z12⟩, st12⟩ := X11.virtualBack hx (y := (⟨"com/example/vernacular/vernacular/Table$Column", "inheriting", "(IZ)Lcom/example/vernacular/vernacular/Table$Column;"⟩ : MethodName)) (z := (⟨"com/example/vernacular/vernacular/Table$Column", "inheriting", "(IZ)Lcom/example/vernacular/vernacular/Table$Column;"⟩ : MethodName)) hown (mvT hZ (wd_52 hw)) (mvT hZ (wd_53 hw)) (notFace_of_selects (args := #[]) (mvT hZ (wd_55 hw))) (mvT hZ (wd_55 hw)) (mvT hZ (wd_54 hw)) (by decide) (backOf (W := 0) (rm9_R l Z a0 hw [] b10 z8 z7 b4 vi2 w_NONE vi3 T11.heap n0 (Nat.le_trans (Nat.le_trans (Nat.le_trans (Nat.le_trans (Nat.le_trans (Nat.le_trans (Nat.le_trans Z0 E1.1) (Keep.of_wr W2).1) (Keep.of_wr W3).1) E4.1) p5_0.1) E10.1) p11_0.1) p11_1 p11_2 p11_3 p11_4 (own_bit z7b)) hZ (wd_56 hw) (wd_32 hw) (by decide) (by decide)) q12a q12c (g := (mkF m 118 #[.val (.int vi0), .val (.int vi1), .val (.int vi2), .val (.int vi3), .val (.int vi4), .val (.ref b1), .val (.ref b4), .val (.int z6), .val (.int z7), .val (.int z8), .val (.ref w_NONE), .val (.ref b10), .unset] [(.int z7), (.int z8), (.ref b10)])) rfl (by rw [hml]; rfl) (Steps.refl _) (argsL := [(.int z8), (.int z7)]) (rest := []) (lenOf pd_7 rfl) rfl (by show 2 * 0 + _ ≤ _; exact Nat.le_of_eq rfl) (hb hby at_118) (fun _ _ => ⟨rfl, rfl, (by decide : 4 + 1 ≤ _), (by decide : 13 + 5 ≤ _)⟩)
  dsimp only [Pt.U, Pt.locs, Pt.cells, Pt.slots] at X12 l12 y12 z12 st12 hQ12
  subst l12 y12 z12
  obtain ⟨r12, rfl, N12q, p12_0, p12_1, p12_2, p12_3, p12_4, p12_5, p12_6, p12_7⟩ := hQ12
  have N12 := Fr.app N11 N12q
  have g_r12 : n0 ≤ r12 := Nat.le_trans (Nat.le_trans (Nat.le_trans (Nat.le_trans (Nat.le_trans (Nat.le_trans (Nat.le_trans (Nat.le_trans Z0 E1.1) (Keep.of_wr W2).1) (Keep.of_wr W3).1) E4.1) p5_0.1) E10.1) p11_0.1) p12_1
  have sz_r12 : h0.size ≤ r12 := Nat.le_trans K11.1 p12_1
  have K12 : Keep h0 T12.heap [] := K11.trans p12_0 all0
  obtain ⟨cq13, kq13, q13a, q13b, q13c⟩ := isOf hZ rfl p12_2
  obtain ⟨_, _, ⟨T13, L13, k13, n13⟩, -, X13, ⟨Lc13, hQ13, l13, y13, z13⟩, st13⟩ := X12.virtualBack hx (y := (⟨"com/example/vernacular/vernacular/Table$Column", "name", "()Ljava/lang/String;"⟩ : MethodName)) (z := (⟨"com/example/vernacular/vernacular/Table$Column", "name", "()Ljava/lang/String;"⟩ : MethodName)) hown (mvT hZ (wd_59 hw)) (mvT hZ (wd_60 hw)) (notFace_of_selects (args := #[]) (mvT hZ (wd_62 hw))) (mvT hZ (wd_62 hw)) (mvT hZ (wd_61 hw)) (by decide) (backOf (W := 0) (rm10 l Z a0 hw [] r12 b4 T12.heap n0 (Nat.le_trans (Nat.le_trans (Nat.le_trans (Nat.le_trans (Nat.le_trans (Nat.le_trans (Nat.le_trans (Nat.le_trans Z0 E1.1) (Keep.of_wr W2).1) (Keep.of_wr W3).1) E4.1) p5_0.1) E10.1) p11_0.1) p12_0.1) p12_3) hZ (wd_63 hw) (wd_32 hw) (by decide) (by decide)) q13a q13c (g := (mkF m 132 #[.val (.int vi0), .val (.int vi1), .val (.int vi2), .val (.int vi3), .val (.int vi4), .val (.ref b1), .val (.ref b4), .val (.int z6), .val (.int z7), .val (.int z8), .val (.ref w_NONE), .val (.ref b10), .val (.ref r12)] [(.ref r12)])) rfl (by rw [hml]; rfl) (Steps.refl _) (argsL := []) (rest := []) (lenOf pd_8 rfl) rfl (by show 2 * 0 + _ ≤ _; exact Nat.le_of_eq rfl) (hb hby at_132) (fun _ _ => ⟨rfl, rfl, (by decide : 5 + 0 ≤ _), (by decide : 18 + 0 ≤ _)⟩)
  dsimp only [Pt.U, Pt.locs, Pt.cells, Pt.slots] at X13 l13 y13 z13 st13 hQ13
  subst l13 y13 z13
  obtain ⟨rfl, N13q, p13_0⟩ := hQ13
  have N13 := Fr.app N12 N13q
  have e13 : T13.heap = T12.heap := p13_0
  obtain ⟨cq14, kq14, q14a, q14b, q14c⟩ := isOf hZ e13 (((p5_1.ext E10).keep p11_0).keep p12_0)
  obtain ⟨_, _, ⟨T14, L14, k14, n14⟩, -, X14, ⟨Lc14, hQ14, l14, y14, z14⟩, st14⟩ := X13.virtualBack hx (y := (⟨"java/lang/String", "equals", "(Ljava/lang/Object;)Z"⟩ : MethodName)) (z := (⟨"java/lang/String", "equals", "(Ljava/lang/Object;)Z"⟩ : MethodName)) hown (mvT hZ (wd_64 hw)) (mvT hZ (wd_65 hw)) (notFace_of_selects (args := #[]) (mvT hZ (wd_67 hw))) (mvT hZ (wd_67 hw)) (mvT hZ (wd_66 hw)) (by decide) (backOf (W := 0) (rm11 l Z a0 hw [] b4 T12.heap n0 (Nat.le_trans (Nat.le_trans (Nat.le_trans (Nat.le_trans (Nat.le_trans (Nat.le_trans (Nat.le_trans (Nat.le_trans Z0 E1.1) (Keep.of_wr W2).1) (Keep.of_wr W3).1) E4.1) p5_0.1) E10.1) p11_0.1) p12_0.1) ) hZ (wd_68 hw) (wd_3 hw) (by decide) (by decide)) q14a q14c (g := (mkF m 137 #[.val (.int vi0), .val (.int vi1), .val (.int vi2), .val (.int vi3), .val (.int vi4), .val (.ref b1), .val (.ref b4), .val (.int z6), .val (.int z7), .val (.int z8), .val (.ref w_NONE), .val (.ref b10), .val (.ref r12)] [(.ref b4), (.ref b4)])) rfl (by rw [hml]; rfl) (Steps.refl _) (argsL := [(.ref b4)]) (rest := []) (lenOf pd_9 rfl) rfl (by show 2 * 0 + _ ≤ _; exact Nat.le_of_eq rfl) (hb hby at_137) (fun _ _ => ⟨rfl, e13, (by decide : 5 + 0 ≤ _), (by decide : 18 + 0 ≤ _)⟩)
  dsimp only [Pt.U, Pt.locs, Pt.cells, Pt.slots] at X14 l14 y14 z14 st14 hQ14
  subst l14 y14 z14
  obtain ⟨rfl, N14q, p14_0⟩ := hQ14
  have N14 := Fr.app N13 N14q
  have e14 : T14.heap = T12.heap := p14_0
  obtain ⟨cq15, kq15, q15a, q15b, q15c⟩ := isOf hZ e14 p12_2
  obtain ⟨_, _, ⟨T15, L15, k15, n15⟩, -, X15, ⟨Lc15, hQ15, l15, y15, z15⟩, st15⟩ := X14.virtualBack hx (y := (⟨"com/example/vernacular/vernacular/Table$Column", "position", "()I"⟩ : MethodName)) (z := (⟨"com/example/vernacular/vernacular/Table$Column", "position", "()I"⟩ : MethodName)) hown (mvT hZ (wd_69 hw)) (mvT hZ (wd_70 hw)) (notFace_of_selects (args := #[]) (mvT hZ (wd_72 hw))) (mvT hZ (wd_72 hw)) (mvT hZ (wd_71 hw)) (by decide) (backOf (W := 0) (rm12 l Z a0 hw [] r12 vi2 T12.heap n0 (Nat.le_trans (Nat.le_trans (Nat.le_trans (Nat.le_trans (Nat.le_trans (Nat.le_trans (Nat.le_trans (Nat.le_trans Z0 E1.1) (Keep.of_wr W2).1) (Keep.of_wr W3).1) E4.1) p5_0.1) E10.1) p11_0.1) p12_0.1) p12_4) hZ (wd_73 hw) (wd_32 hw) (by decide) (by decide)) q15a q15c (g := (mkF m 145 #[.val (.int vi0), .val (.int vi1), .val (.int vi2), .val (.int vi3), .val (.int vi4), .val (.ref b1), .val (.ref b4), .val (.int z6), .val (.int z7), .val (.int z8), .val (.ref w_NONE), .val (.ref b10), .val (.ref r12)] [(.ref r12)])) rfl (by rw [hml]; rfl) (Steps.refl _) (argsL := []) (rest := []) (lenOf pd_10 rfl) rfl (by show 2 * 0 + _ ≤ _; exact Nat.le_of_eq rfl) (hb hby at_145) (fun _ _ => ⟨rfl, e14, (by decide : 5 + 0 ≤ _), (by decide : 18 + 0 ≤ _)⟩)
  dsimp only [Pt.U, Pt.locs, Pt.cells, Pt.slots] at X15 l15 y15 z15 st15 hQ15
  subst l15 y15 z15
  obtain ⟨rfl, N15q, p15_0⟩ := hQ15
  have N15 := Fr.app N14 N15q
  have e15 : T15.heap = T12.heap := p15_0
  obtain ⟨cq16, kq16, q16a, q16b, q16c⟩ := isOf hZ e15 p12_2
  obtain ⟨_, _, ⟨T16, L16, k16, n16⟩, -, X16, ⟨Lc16, hQ16, l16, y16, z16⟩, st16⟩ := X15.virtualBack hx (y := (⟨"com/example/vernacular/vernacular/Table$Column", "lineage", "()Lcom/example/vernacular/vernacular/Lineage;"⟩ : MethodName)) (z := (⟨"com/example/vernacular/vernacular/Table$Column", "lineage", "()Lcom/example/vernacular/vernacular/Lineage;"⟩ : MethodName)) hown (mvT hZ (wd_74 hw)) (mvT hZ (wd_75 hw)) (notFace_of_selects (args := #[]) (mvT hZ (wd_77 hw))) (mvT hZ (wd_77 hw)) (mvT hZ (wd_76 hw)) (by decide) (backOf (W := 0) (rm13_R l Z a0 hw [] r12 w_NONE T12.heap n0 (Nat.le_trans (Nat.le_trans (Nat.le_trans (Nat.le_trans (Nat.le_trans (Nat.le_trans (Nat.le_trans (Nat.le_trans Z0 E1.1) (Keep.of_wr W2).1) (Keep.of_wr W3).1) E4.1) p5_0.1) E10.1) p11_0.1) p12_0.1) p12_5) hZ (wd_78 hw) (wd_32 hw) (by decide) (by decide)) q16a q16c (g := (mkF m 154 #[.val (.int vi0), .val (.int vi1), .val (.int vi2), .val (.int vi3), .val (.int vi4), .val (.ref b1), .val (.ref b4), .val (.int z6), .val (.int z7), .val (.int z8), .val (.ref w_NONE), .val (.ref b10), .val (.ref r12)] [(.ref r12)])) rfl (by rw [hml]; rfl) (Steps.refl _) (argsL := []) (rest := []) (lenOf pd_11 rfl) rfl (by show 2 * 0 + _ ≤ _; exact Nat.le_of_eq rfl) (hb hby at_154) (fun _ _ => ⟨rfl, e15, (by decide : 5 + 0 ≤ _), (by decide : 18 + 0 ≤ _)⟩)
  dsimp only [Pt.U, Pt.locs, Pt.cells, Pt.slots] at X16 l16 y16 z16 st16 hQ16
  subst l16 y16 z16
  obtain ⟨rfl, N16q, p16_0⟩ := hQ16
  have N16 := Fr.app N15 N16q
  have e16 : T16.heap = T12.heap := p16_0
  obtain ⟨cq17, kq17, q17a, q17b, q17c⟩ := isOf hZ e16 p12_2
  obtain ⟨_, _, ⟨T17, L17, k17, n17⟩, -, X17, ⟨Lc17, hQ17, l17, y17, z17⟩, st17⟩ := X16.virtualBack hx (y := (⟨"com/example/vernacular/vernacular/Table$Column", "inherited", "()I"⟩ : MethodName)) (z := (⟨"com/example/vernacular/vernacular/Table$Column", "inherited", "()I"⟩ : MethodName)) hown (mvT hZ (wd_79 hw)) (mvT hZ (wd_80 hw)) (notFace_of_selects (args := #[]) (mvT hZ (wd_82 hw))) (mvT hZ (wd_82 hw)) (mvT hZ (wd_81 hw)) (by decide) (backOf (W := 0) (rm14 l Z a0 hw [] r12 (vi3 + z8) T12.heap n0 (Nat.le_trans (Nat.le_trans (Nat.le_trans (Nat.le_trans (Nat.le_trans (Nat.le_trans (Nat.le_trans (Nat.le_trans Z0 E1.1) (Keep.of_wr W2).1) (Keep.of_wr W3).1) E4.1) p5_0.1) E10.1) p11_0.1) p12_0.1) p12_6) hZ (wd_83 hw) (wd_32 hw) (by decide) (by decide)) q17a q17c (g := (mkF m 164 #[.val (.int vi0), .val (.int vi1), .val (.int vi2), .val (.int vi3), .val (.int vi4), .val (.ref b1), .val (.ref b4), .val (.int z6), .val (.int z7), .val (.int z8), .val (.ref w_NONE), .val (.ref b10), .val (.ref r12)] [(.ref r12)])) rfl (by rw [hml]; rfl) (Steps.refl _) (argsL := []) (rest := []) (lenOf pd_10 rfl) rfl (by show 2 * 0 + _ ≤ _; exact Nat.le_of_eq rfl) (hb hby at_164) (fun _ _ => ⟨rfl, e16, (by decide : 5 + 0 ≤ _), (by decide : 18 + 0 ≤ _)⟩)
  dsimp only [Pt.U, Pt.locs, Pt.cells, Pt.slots] at X17 l17 y17 z17 st17 hQ17
  subst l17 y17 z17
  obtain ⟨rfl, N17q, p17_0⟩ := hQ17
  have N17 := Fr.app N16 N17q
  have e17 : T17.heap = T12.heap := p17_0
  obtain ⟨cq18, kq18, q18a, q18b, q18c⟩ := isOf hZ e17 p12_2
  obtain ⟨_, _, ⟨T18, L18, k18, n18⟩, -, X18, ⟨Lc18, hQ18, l18, y18, z18⟩, st18⟩ := X17.virtualBack hx (y := (⟨"com/example/vernacular/vernacular/Table$Column", "local", "()Z"⟩ : MethodName)) (z := (⟨"com/example/vernacular/vernacular/Table$Column", "local", "()Z"⟩ : MethodName)) hown (mvT hZ (wd_84 hw)) (mvT hZ (wd_85 hw)) (notFace_of_selects (args := #[]) (mvT hZ (wd_87 hw))) (mvT hZ (wd_87 hw)) (mvT hZ (wd_86 hw)) (by decide) (backOf (W := 0) (rm15 l Z a0 hw [] r12 z7 T12.heap n0 (Nat.le_trans (Nat.le_trans (Nat.le_trans (Nat.le_trans (Nat.le_trans (Nat.le_trans (Nat.le_trans (Nat.le_trans Z0 E1.1) (Keep.of_wr W2).1) (Keep.of_wr W3).1) E4.1) p5_0.1) E10.1) p11_0.1) p12_0.1) (own_bit z7b) p12_7) hZ (wd_88 hw) (wd_32 hw) (by decide) (by decide)) q18a q18c (g := (mkF m 176 #[.val (.int vi0), .val (.int vi1), .val (.int vi2), .val (.int vi3), .val (.int vi4), .val (.ref b1), .val (.ref b4), .val (.int z6), .val (.int z7), .val (.int z8), .val (.ref w_NONE), .val (.ref b10), .val (.ref r12)] [(.ref r12)])) rfl (by rw [hml]; rfl) (Steps.refl _) (argsL := []) (rest := []) (lenOf pd_12 rfl) rfl (by show 2 * 0 + _ ≤ _; exact Nat.le_of_eq rfl) (hb hby at_176) (fun _ _ => ⟨rfl, e17, (by decide : 5 + 0 ≤ _), (by decide : 18 + 0 ≤ _)⟩)
  dsimp only [Pt.U, Pt.locs, Pt.cells, Pt.slots] at X18 l18 y18 z18 st18 hQ18
  subst l18 y18 z18
  obtain ⟨rfl, N18q, p18_0⟩ := hQ18
  have N18 := Fr.app N17 N18q
  have e18 : T18.heap = T12.heap := p18_0
  obtain ⟨cq19, kq19, q19a, q19b, q19c⟩ := isOf hZ e18 ((A10.keep p11_0).keep p12_0)
  obtain ⟨_, _, ⟨T19, L19, k19, n19⟩, -, X19, ⟨Lc19, hQ19, l19, y19, z19⟩, st19⟩ := X18.virtualBack hx (y := (⟨"com/example/vernacular/vernacular/Table$Column", "inherited", "()I"⟩ : MethodName)) (z := (⟨"com/example/vernacular/vernacular/Table$Column", "inherited", "()I"⟩ : MethodName)) hown (mvT hZ (wd_79 hw)) (mvT hZ (wd_80 hw)) (notFace_of_selects (args := #[]) (mvT hZ (wd_82 hw))) (mvT hZ (wd_82 hw)) (mvT hZ (wd_81 hw)) (by decide) (backOf (W := 0) (rm14 l Z a0 hw [] b10 vi3 T12.heap n0 (Nat.le_trans (Nat.le_trans (Nat.le_trans (Nat.le_trans (Nat.le_trans (Nat.le_trans (Nat.le_trans (Nat.le_trans Z0 E1.1) (Keep.of_wr W2).1) (Keep.of_wr W3).1) E4.1) p5_0.1) E10.1) p11_0.1) p12_0.1) (p11_4.keep p12_0 nin0)) hZ (wd_83 hw) (wd_32 hw) (by decide) (by decide)) q19a q19c (g := (mkF m 186 #[.val (.int vi0), .val (.int vi1), .val (.int vi2), .val (.int vi3), .val (.int vi4), .val (.ref b1), .val (.ref b4), .val (.int z6), .val (.int z7), .val (.int z8), .val (.ref w_NONE), .val (.ref b10), .val (.ref r12)] [(.ref b10)])) rfl (by rw [hml]; rfl) (Steps.refl _) (argsL := []) (rest := []) (lenOf pd_10 rfl) rfl (by show 2 * 0 + _ ≤ _; exact Nat.le_of_eq rfl) (hb hby at_186) (fun _ _ => ⟨rfl, e18, (by decide : 5 + 0 ≤ _), (by decide : 18 + 0 ≤ _)⟩)
  dsimp only [Pt.U, Pt.locs, Pt.cells, Pt.slots] at X19 l19 y19 z19 st19 hQ19
  subst l19 y19 z19
  obtain ⟨rfl, N19q, p19_0⟩ := hQ19
  have N19 := Fr.app N18 N19q
  have e19 : T19.heap = T12.heap := p19_0
  obtain ⟨cq20, kq20, q20a, q20b, q20c⟩ := isOf hZ e19 ((A10.keep p11_0).keep p12_0)
  obtain ⟨_, _, ⟨T20, L20, k20, n20⟩, -, X20, ⟨Lc20, hQ20, l20, y20, z20⟩, st20⟩ := X19.virtualBack hx (y := (⟨"com/example/vernacular/vernacular/Table$Column", "local", "()Z"⟩ : MethodName)) (z := (⟨"com/example/vernacular/vernacular/Table$Column", "local", "()Z"⟩ : MethodName)) hown (mvT hZ (wd_84 hw)) (mvT hZ (wd_85 hw)) (notFace_of_selects (args := #[]) (mvT hZ (wd_87 hw))) (mvT hZ (wd_87 hw)) (mvT hZ (wd_86 hw)) (by decide) (backOf (W := 0) (rm15 l Z a0 hw [] b10 z6 T12.heap n0 (Nat.le_trans (Nat.le_trans (Nat.le_trans (Nat.le_trans (Nat.le_trans (Nat.le_trans (Nat.le_trans (Nat.le_trans Z0 E1.1) (Keep.of_wr W2).1) (Keep.of_wr W3).1) E4.1) p5_0.1) E10.1) p11_0.1) p12_0.1) (own_bit z6b) (p11_5.keep p12_0 nin0)) hZ (wd_88 hw) (wd_32 hw) (by decide) (by decide)) q20a q20c (g := (mkF m 195 #[.val (.int vi0), .val (.int vi1), .val (.int vi2), .val (.int vi3), .val (.int vi4), .val (.ref b1), .val (.ref b4), .val (.int z6), .val (.int z7), .val (.int z8), .val (.ref w_NONE), .val (.ref b10), .val (.ref r12)] [(.ref b10)])) rfl (by rw [hml]; rfl) (Steps.refl _) (argsL := []) (rest := []) (lenOf pd_12 rfl) rfl (by show 2 * 0 + _ ≤ _; exact Nat.le_of_eq rfl) (hb hby at_195) (fun _ _ => ⟨rfl, e19, (by decide : 5 + 0 ≤ _), (by decide : 18 + 0 ≤ _)⟩)
  dsimp only [Pt.U, Pt.locs, Pt.cells, Pt.slots] at X20 l20 y20 z20 st20 hQ20
  subst l20 y20 z20
  obtain ⟨rfl, N20q, p20_0⟩ := hQ20
  have N20 := Fr.app N19 N20q
  have e20 : T20.heap = T12.heap := p20_0
  obtain ⟨cq21, kq21, q21a, q21b, q21c⟩ := isOf hZ e20 ((A10.keep p11_0).keep p12_0)
  obtain ⟨_, _, ⟨T21, L21, k21, n21⟩, -, X21, ⟨Lc21, hQ21, l21, y21, z21⟩, st21⟩ := X20.virtualBack hx (y := (⟨"com/example/vernacular/vernacular/Table$Column", "position", "()I"⟩ : MethodName)) (z := (⟨"com/example/vernacular/vernacular/Table$Column", "position", "()I"⟩ : MethodName)) hown (mvT hZ (wd_69 hw)) (mvT hZ (wd_70 hw)) (notFace_of_selects (args := #[]) (mvT hZ (wd_72 hw))) (mvT hZ (wd_72 hw)) (mvT hZ (wd_71 hw)) (by decide) (backOf (W := 0) (rm12 l Z a0 hw [] b10 vi2 T12.heap n0 (Nat.le_trans (Nat.le_trans (Nat.le_trans (Nat.le_trans (Nat.le_trans (Nat.le_trans (Nat.le_trans (Nat.le_trans Z0 E1.1) (Keep.of_wr W2).1) (Keep.of_wr W3).1) E4.1) p5_0.1) E10.1) p11_0.1) p12_0.1) (p11_2.keep p12_0 nin0)) hZ (wd_73 hw) (wd_32 hw) (by decide) (by decide)) q21a q21c (g := (mkF m 205 #[.val (.int vi0), .val (.int vi1), .val (.int vi2), .val (.int vi3), .val (.int vi4), .val (.ref b1), .val (.ref b4), .val (.int z6), .val (.int z7), .val (.int z8), .val (.ref w_NONE), .val (.ref b10), .val (.ref r12)] [(.ref b10)])) rfl (by rw [hml]; rfl) (Steps.refl _) (argsL := []) (rest := []) (lenOf pd_10 rfl) rfl (by show 2 * 0 + _ ≤ _; exact Nat.le_of_eq rfl) (hb hby at_205) (fun _ _ => ⟨rfl, e20, (by decide : 5 + 0 ≤ _), (by decide : 18 + 0 ≤ _)⟩)
  dsimp only [Pt.U, Pt.locs, Pt.cells, Pt.slots] at X21 l21 y21 z21 st21 hQ21
  subst l21 y21 z21
  obtain ⟨rfl, N21q, p21_0⟩ := hQ21
  have N21 := Fr.app N20 N21q
  have e21 : T21.heap = T12.heap := p21_0
  obtain ⟨fs, hr, hrun, hended, hW, hsame⟩ := X21.leave (v := some (.int (1 : Int32))) (fun h => by rw [Bd.returns] at h; cases h)
  refine ⟨_, _, pre0 _ ?_, hrun, hended, _, _, rfl, ?_, ⟨_, rfl⟩, hW, hsame.mono (by decide) (by decide)⟩
  · show Steps p.tables e below (s₁.setTop (mkF m 0 #[.val (.int vi0), .val (.int vi1), .val (.int vi2), .val (.int vi3), .val (.int vi4), .unset, .unset, .unset, .unset, .unset, .unset, .unset, .unset] [])) _
    refine XS.iconst X0.here hx rfl (hb hby at_0) ?_
    show Steps p.tables e below (s₁.setTop (mkF m 1 #[.val (.int vi0), .val (.int vi1), .val (.int vi2), .val (.int vi3), .val (.int vi4), .unset, .unset, .unset, .unset, .unset, .unset, .unset, .unset] [(.int (2 : Int32))])) _
    refine st1 _ ?_
    show Steps p.tables e below (T1.setTop (mkF m 3 #[.val (.int vi0), .val (.int vi1), .val (.int vi2), .val (.int vi3), .val (.int vi4), .unset, .unset, .unset, .unset, .unset, .unset, .unset, .unset] [(.ref b1)])) _
    refine XS.astore X1.here hx rfl (hb hby at_3) rfl rfl (l' := #[.val (.int vi0), .val (.int vi1), .val (.int vi2), .val (.int vi3), .val (.int vi4), .val (.ref b1), .unset, .unset, .unset, .unset, .unset, .unset, .unset]) rfl ?_
    show Steps p.tables e below (T1.setTop (mkF m 5 #[.val (.int vi0), .val (.int vi1), .val (.int vi2), .val (.int vi3), .val (.int vi4), .val (.ref b1), .unset, .unset, .unset, .unset, .unset, .unset, .unset] [])) _
    refine XS.aload X1.here hx rfl (hb hby at_5) rfl rfl ?_
    show Steps p.tables e below (T1.setTop (mkF m 7 #[.val (.int vi0), .val (.int vi1), .val (.int vi2), .val (.int vi3), .val (.int vi4), .val (.ref b1), .unset, .unset, .unset, .unset, .unset, .unset, .unset] [(.ref b1)])) _
    refine XS.iconst X1.here hx rfl (hb hby at_7) ?_
    show Steps p.tables e below (T1.setTop (mkF m 8 #[.val (.int vi0), .val (.int vi1), .val (.int vi2), .val (.int vi3), .val (.int vi4), .val (.ref b1), .unset, .unset, .unset, .unset, .unset, .unset, .unset] [(.int (0 : Int32)), (.ref b1)])) _
    refine XS.iloadN X1.here hx rfl (hb hby at_8) rfl ?_
    show Steps p.tables e below (T1.setTop (mkF m 9 #[.val (.int vi0), .val (.int vi1), .val (.int vi2), .val (.int vi3), .val (.int vi4), .val (.ref b1), .unset, .unset, .unset, .unset, .unset, .unset, .unset] [(.int vi0), (.int (0 : Int32)), (.ref b1)])) _
    refine XS.sipush X1.here hx rfl (hb hby at_9) ?_
    show Steps p.tables e below (T1.setTop (mkF m 12 #[.val (.int vi0), .val (.int vi1), .val (.int vi2), .val (.int vi3), .val (.int vi4), .val (.ref b1), .unset, .unset, .unset, .unset, .unset, .unset, .unset] [(.int (255 : Int32)), (.int vi0), (.int (0 : Int32)), (.ref b1)])) _
    refine XS.iand X1.here hx rfl (hb hby at_12) rfl ?_
    show Steps p.tables e below (T1.setTop (mkF m 13 #[.val (.int vi0), .val (.int vi1), .val (.int vi2), .val (.int vi3), .val (.int vi4), .val (.ref b1), .unset, .unset, .unset, .unset, .unset, .unset, .unset] [(.int (vi0 &&& (255 : Int32))), (.int (0 : Int32)), (.ref b1)])) _
    refine XS.i2c X1.here hx rfl (hb hby at_13) rfl ?_
    show Steps p.tables e below (T1.setTop (mkF m 14 #[.val (.int vi0), .val (.int vi1), .val (.int vi2), .val (.int vi3), .val (.int vi4), .val (.ref b1), .unset, .unset, .unset, .unset, .unset, .unset, .unset] [(.int ((vi0 &&& (255 : Int32)).toUInt32.toUInt16.toUInt32.toInt32)), (.int (0 : Int32)), (.ref b1)])) _
    refine st2 _ ?_
    show Steps p.tables e below (T2.setTop (mkF m 15 #[.val (.int vi0), .val (.int vi1), .val (.int vi2), .val (.int vi3), .val (.int vi4), .val (.ref b1), .unset, .unset, .unset, .unset, .unset, .unset, .unset] [])) _
    refine XS.aload X2.here hx rfl (hb hby at_15) rfl rfl ?_
    show Steps p.tables e below (T2.setTop (mkF m 17 #[.val (.int vi0), .val (.int vi1), .val (.int vi2), .val (.int vi3), .val (.int vi4), .val (.ref b1), .unset, .unset, .unset, .unset, .unset, .unset, .unset] [(.ref b1)])) _
    refine XS.iconst X2.here hx rfl (hb hby at_17) ?_
    show Steps p.tables e below (T2.setTop (mkF m 18 #[.val (.int vi0), .val (.int vi1), .val (.int vi2), .val (.int vi3), .val (.int vi4), .val (.ref b1), .unset, .unset, .unset, .unset, .unset, .unset, .unset] [(.int (1 : Int32)), (.ref b1)])) _
    refine XS.iloadN X2.here hx rfl (hb hby at_18) rfl ?_
    show Steps p.tables e below (T2.setTop (mkF m 19 #[.val (.int vi0), .val (.int vi1), .val (.int vi2), .val (.int vi3), .val (.int vi4), .val (.ref b1), .unset, .unset, .unset, .unset, .unset, .unset, .unset] [(.int vi1), (.int (1 : Int32)), (.ref b1)])) _
    refine XS.sipush X2.here hx rfl (hb hby at_19) ?_
    show Steps p.tables e below (T2.setTop (mkF m 22 #[.val (.int vi0), .val (.int vi1), .val (.int vi2), .val (.int vi3), .val (.int vi4), .val (.ref b1), .unset, .unset, .unset, .unset, .unset, .unset, .unset] [(.int (255 : Int32)), (.int vi1), (.int (1 : Int32)), (.ref b1)])) _
    refine XS.iand X2.here hx rfl (hb hby at_22) rfl ?_
    show Steps p.tables e below (T2.setTop (mkF m 23 #[.val (.int vi0), .val (.int vi1), .val (.int vi2), .val (.int vi3), .val (.int vi4), .val (.ref b1), .unset, .unset, .unset, .unset, .unset, .unset, .unset] [(.int (vi1 &&& (255 : Int32))), (.int (1 : Int32)), (.ref b1)])) _
    refine XS.i2c X2.here hx rfl (hb hby at_23) rfl ?_
    show Steps p.tables e below (T2.setTop (mkF m 24 #[.val (.int vi0), .val (.int vi1), .val (.int vi2), .val (.int vi3), .val (.int vi4), .val (.ref b1), .unset, .unset, .unset, .unset, .unset, .unset, .unset] [(.int ((vi1 &&& (255 : Int32)).toUInt32.toUInt16.toUInt32.toInt32)), (.int (1 : Int32)), (.ref b1)])) _
    refine st3 _ ?_
    show Steps p.tables e below (T3.setTop (mkF m 25 #[.val (.int vi0), .val (.int vi1), .val (.int vi2), .val (.int vi3), .val (.int vi4), .val (.ref b1), .unset, .unset, .unset, .unset, .unset, .unset, .unset] [])) _
    refine st4 _ ?_
    show Steps p.tables e below (T4.setTop (mkF m 28 #[.val (.int vi0), .val (.int vi1), .val (.int vi2), .val (.int vi3), .val (.int vi4), .val (.ref b1), .unset, .unset, .unset, .unset, .unset, .unset, .unset] [(.ref b4)])) _
    refine XS.dup X4.here hx rfl (hb hby at_28) rfl rfl ?_
    show Steps p.tables e below (T4.setTop (mkF m 29 #[.val (.int vi0), .val (.int vi1), .val (.int vi2), .val (.int vi3), .val (.int vi4), .val (.ref b1), .unset, .unset, .unset, .unset, .unset, .unset, .unset] [(.ref b4), (.ref b4)])) _
    refine XS.aload X4.here hx rfl (hb hby at_29) rfl rfl ?_
    show Steps p.tables e below (T4.setTop (mkF m 31 #[.val (.int vi0), .val (.int vi1), .val (.int vi2), .val (.int vi3), .val (.int vi4), .val (.ref b1), .unset, .unset, .unset, .unset, .unset, .unset, .unset] [(.ref b1), (.ref b4), (.ref b4)])) _
    refine st5.trans ?_
    show Steps p.tables e below (T5.setTop (mkF m 34 #[.val (.int vi0), .val (.int vi1), .val (.int vi2), .val (.int vi3), .val (.int vi4), .val (.ref b1), .unset, .unset, .unset, .unset, .unset, .unset, .unset] [(.ref b4)])) _
    refine XS.astore X5.here hx rfl (hb hby at_34) rfl rfl (l' := #[.val (.int vi0), .val (.int vi1), .val (.int vi2), .val (.int vi3), .val (.int vi4), .val (.ref b1), .val (.ref b4), .unset, .unset, .unset, .unset, .unset, .unset]) rfl ?_
    show Steps p.tables e below (T5.setTop (mkF m 36 #[.val (.int vi0), .val (.int vi1), .val (.int vi2), .val (.int vi3), .val (.int vi4), .val (.ref b1), .val (.ref b4), .unset, .unset, .unset, .unset, .unset, .unset] [])) _
    refine XS.iload X5.here hx rfl (hb hby at_36) rfl ?_
    show Steps p.tables e below (T5.setTop (mkF m 38 #[.val (.int vi0), .val (.int vi1), .val (.int vi2), .val (.int vi3), .val (.int vi4), .val (.ref b1), .val (.ref b4), .unset, .unset, .unset, .unset, .unset, .unset] [(.int vi4)])) _
    refine XS.iconst X5.here hx rfl (hb hby at_38) ?_
    show Steps p.tables e below (T5.setTop (mkF m 39 #[.val (.int vi0), .val (.int vi1), .val (.int vi2), .val (.int vi3), .val (.int vi4), .val (.ref b1), .val (.ref b4), .unset, .unset, .unset, .unset, .unset, .unset] [(.int (1 : Int32)), (.int vi4)])) _
    refine XS.iand X5.here hx rfl (hb hby at_39) rfl ?_
    show Steps p.tables e below (T5.setTop (mkF m 40 #[.val (.int vi0), .val (.int vi1), .val (.int vi2), .val (.int vi3), .val (.int vi4), .val (.ref b1), .val (.ref b4), .unset, .unset, .unset, .unset, .unset, .unset] [(.int (vi4 &&& (1 : Int32)))])) _
    refine (show ∀ t, Steps p.tables e below (T5.setTop (mkF m 48 #[.val (.int vi0), .val (.int vi1), .val (.int vi2), .val (.int vi3), .val (.int vi4), .val (.ref b1), .val (.ref b4), .unset, .unset, .unset, .unset, .unset, .unset] [(.int z6)])) t → Steps p.tables e below (T5.setTop (mkF m 40 #[.val (.int vi0), .val (.int vi1), .val (.int vi2), .val (.int vi3), .val (.int vi4), .val (.ref b1), .val (.ref b4), .unset, .unset, .unset, .unset, .unset, .unset] [(.int (vi4 &&& (1 : Int32)))])) t from fun t kt => ?_) _ ?_
    · by_cases hq : (vi4 &&& (1 : Int32)) = (0 : Int32)
      · rw [z6t hq] at kt
        refine XS.ifYes X5.here hx rfl (pc0 := 40) (pc' := 47) rfl (hb hby at_40) rfl ((if0 _ _).trans (teq hq).1) (by decide) (by decide) ?_
        show Steps p.tables e below (T5.setTop (mkF m 47 #[.val (.int vi0), .val (.int vi1), .val (.int vi2), .val (.int vi3), .val (.int vi4), .val (.ref b1), .val (.ref b4), .unset, .unset, .unset, .unset, .unset, .unset] [])) _
        refine XS.iconst X5.here hx rfl (hb hby at_47) ?_
        show Steps p.tables e below (T5.setTop (mkF m 48 #[.val (.int vi0), .val (.int vi1), .val (.int vi2), .val (.int vi3), .val (.int vi4), .val (.ref b1), .val (.ref b4), .unset, .unset, .unset, .unset, .unset, .unset] [(.int (0 : Int32))])) _
        exact kt
      · rw [z6f hq] at kt
        refine XS.ifNo X5.here hx rfl (hb hby at_40) rfl ((if0 _ _).trans (feq hq).1) ?_
        show Steps p.tables e below (T5.setTop (mkF m 43 #[.val (.int vi0), .val (.int vi1), .val (.int vi2), .val (.int vi3), .val (.int vi4), .val (.ref b1), .val (.ref b4), .unset, .unset, .unset, .unset, .unset, .unset] [])) _
        refine XS.iconst X5.here hx rfl (hb hby at_43) ?_
        show Steps p.tables e below (T5.setTop (mkF m 44 #[.val (.int vi0), .val (.int vi1), .val (.int vi2), .val (.int vi3), .val (.int vi4), .val (.ref b1), .val (.ref b4), .unset, .unset, .unset, .unset, .unset, .unset] [(.int (1 : Int32))])) _
        refine XS.goto X5.here hx rfl (pc0 := 44) (pc' := 48) rfl (hb hby at_44) (by decide) (by decide) ?_
        show Steps p.tables e below (T5.setTop (mkF m 48 #[.val (.int vi0), .val (.int vi1), .val (.int vi2), .val (.int vi3), .val (.int vi4), .val (.ref b1), .val (.ref b4), .unset, .unset, .unset, .unset, .unset, .unset] [(.int (1 : Int32))])) _
        exact kt
    show Steps p.tables e below (T5.setTop (mkF m 48 #[.val (.int vi0), .val (.int vi1), .val (.int vi2), .val (.int vi3), .val (.int vi4), .val (.ref b1), .val (.ref b4), .unset, .unset, .unset, .unset, .unset, .unset] [(.int z6)])) _
    refine XS.istore X5.here hx rfl (hb hby at_48) rfl (l' := #[.val (.int vi0), .val (.int vi1), .val (.int vi2), .val (.int vi3), .val (.int vi4), .val (.ref b1), .val (.ref b4), .val (.int z6), .unset, .unset, .unset, .unset, .unset]) rfl ?_
    show Steps p.tables e below (T5.setTop (mkF m 50 #[.val (.int vi0), .val (.int vi1), .val (.int vi2), .val (.int vi3), .val (.int vi4), .val (.ref b1), .val (.ref b4), .val (.int z6), .unset, .unset, .unset, .unset, .unset] [])) _
    refine XS.iload X5.here hx rfl (hb hby at_50) rfl ?_
    show Steps p.tables e below (T5.setTop (mkF m 52 #[.val (.int vi0), .val (.int vi1), .val (.int vi2), .val (.int vi3), .val (.int vi4), .val (.ref b1), .val (.ref b4), .val (.int z6), .unset, .unset, .unset, .unset, .unset] [(.int vi4)])) _
    refine XS.iconst X5.here hx rfl (hb hby at_52) ?_
    show Steps p.tables e below (T5.setTop (mkF m 53 #[.val (.int vi0), .val (.int vi1), .val (.int vi2), .val (.int vi3), .val (.int vi4), .val (.ref b1), .val (.ref b4), .val (.int z6), .unset, .unset, .unset, .unset, .unset] [(.int (2 : Int32)), (.int vi4)])) _
    refine XS.iand X5.here hx rfl (hb hby at_53) rfl ?_
    show Steps p.tables e below (T5.setTop (mkF m 54 #[.val (.int vi0), .val (.int vi1), .val (.int vi2), .val (.int vi3), .val (.int vi4), .val (.ref b1), .val (.ref b4), .val (.int z6), .unset, .unset, .unset, .unset, .unset] [(.int (vi4 &&& (2 : Int32)))])) _
    refine (show ∀ t, Steps p.tables e below (T5.setTop (mkF m 62 #[.val (.int vi0), .val (.int vi1), .val (.int vi2), .val (.int vi3), .val (.int vi4), .val (.ref b1), .val (.ref b4), .val (.int z6), .unset, .unset, .unset, .unset, .unset] [(.int z7)])) t → Steps p.tables e below (T5.setTop (mkF m 54 #[.val (.int vi0), .val (.int vi1), .val (.int vi2), .val (.int vi3), .val (.int vi4), .val (.ref b1), .val (.ref b4), .val (.int z6), .unset, .unset, .unset, .unset, .unset] [(.int (vi4 &&& (2 : Int32)))])) t from fun t kt => ?_) _ ?_
    · by_cases hq : (vi4 &&& (2 : Int32)) = (0 : Int32)
      · rw [z7t hq] at kt
        refine XS.ifYes X5.here hx rfl (pc0 := 54) (pc' := 61) rfl (hb hby at_54) rfl ((if0 _ _).trans (teq hq).1) (by decide) (by decide) ?_
        show Steps p.tables e below (T5.setTop (mkF m 61 #[.val (.int vi0), .val (.int vi1), .val (.int vi2), .val (.int vi3), .val (.int vi4), .val (.ref b1), .val (.ref b4), .val (.int z6), .unset, .unset, .unset, .unset, .unset] [])) _
        refine XS.iconst X5.here hx rfl (hb hby at_61) ?_
        show Steps p.tables e below (T5.setTop (mkF m 62 #[.val (.int vi0), .val (.int vi1), .val (.int vi2), .val (.int vi3), .val (.int vi4), .val (.ref b1), .val (.ref b4), .val (.int z6), .unset, .unset, .unset, .unset, .unset] [(.int (0 : Int32))])) _
        exact kt
      · rw [z7f hq] at kt
        refine XS.ifNo X5.here hx rfl (hb hby at_54) rfl ((if0 _ _).trans (feq hq).1) ?_
        show Steps p.tables e below (T5.setTop (mkF m 57 #[.val (.int vi0), .val (.int vi1), .val (.int vi2), .val (.int vi3), .val (.int vi4), .val (.ref b1), .val (.ref b4), .val (.int z6), .unset, .unset, .unset, .unset, .unset] [])) _
        refine XS.iconst X5.here hx rfl (hb hby at_57) ?_
        show Steps p.tables e below (T5.setTop (mkF m 58 #[.val (.int vi0), .val (.int vi1), .val (.int vi2), .val (.int vi3), .val (.int vi4), .val (.ref b1), .val (.ref b4), .val (.int z6), .unset, .unset, .unset, .unset, .unset] [(.int (1 : Int32))])) _
        refine XS.goto X5.here hx rfl (pc0 := 58) (pc' := 62) rfl (hb hby at_58) (by decide) (by decide) ?_
        show Steps p.tables e below (T5.setTop (mkF m 62 #[.val (.int vi0), .val (.int vi1), .val (.int vi2), .val (.int vi3), .val (.int vi4), .val (.ref b1), .val (.ref b4), .val (.int z6), .unset, .unset, .unset, .unset, .unset] [(.int (1 : Int32))])) _
        exact kt
    show Steps p.tables e below (T5.setTop (mkF m 62 #[.val (.int vi0), .val (.int vi1), .val (.int vi2), .val (.int vi3), .val (.int vi4), .val (.ref b1), .val (.ref b4), .val (.int z6), .unset, .unset, .unset, .unset, .unset] [(.int z7)])) _
    refine XS.istore X5.here hx rfl (hb hby at_62) rfl (l' := #[.val (.int vi0), .val (.int vi1), .val (.int vi2), .val (.int vi3), .val (.int vi4), .val (.ref b1), .val (.ref b4), .val (.int z6), .val (.int z7), .unset, .unset, .unset, .unset]) rfl ?_
    show Steps p.tables e below (T5.setTop (mkF m 64 #[.val (.int vi0), .val (.int vi1), .val (.int vi2), .val (.int vi3), .val (.int vi4), .val (.ref b1), .val (.ref b4), .val (.int z6), .val (.int z7), .unset, .unset, .unset, .unset] [])) _
    refine XS.iload X5.here hx rfl (hb hby at_64) rfl ?_
    show Steps p.tables e below (T5.setTop (mkF m 66 #[.val (.int vi0), .val (.int vi1), .val (.int vi2), .val (.int vi3), .val (.int vi4), .val (.ref b1), .val (.ref b4), .val (.int z6), .val (.int z7), .unset, .unset, .unset, .unset] [(.int vi4)])) _
    refine XS.iconst X5.here hx rfl (hb hby at_66) ?_
    show Steps p.tables e below (T5.setTop (mkF m 67 #[.val (.int vi0), .val (.int vi1), .val (.int vi2), .val (.int vi3), .val (.int vi4), .val (.ref b1), .val (.ref b4), .val (.int z6), .val (.int z7), .unset, .unset, .unset, .unset] [(.int (4 : Int32)), (.int vi4)])) _
    refine XS.iand X5.here hx rfl (hb hby at_67) rfl ?_
    show Steps p.tables e below (T5.setTop (mkF m 68 #[.val (.int vi0), .val (.int vi1), .val (.int vi2), .val (.int vi3), .val (.int vi4), .val (.ref b1), .val (.ref b4), .val (.int z6), .val (.int z7), .unset, .unset, .unset, .unset] [(.int (vi4 &&& (4 : Int32)))])) _
    refine (show ∀ t, Steps p.tables e below (T5.setTop (mkF m 76 #[.val (.int vi0), .val (.int vi1), .val (.int vi2), .val (.int vi3), .val (.int vi4), .val (.ref b1), .val (.ref b4), .val (.int z6), .val (.int z7), .unset, .unset, .unset, .unset] [(.int z8)])) t → Steps p.tables e below (T5.setTop (mkF m 68 #[.val (.int vi0), .val (.int vi1), .val (.int vi2), .val (.int vi3), .val (.int vi4), .val (.ref b1), .val (.ref b4), .val (.int z6), .val (.int z7), .unset, .unset, .unset, .unset] [(.int (vi4 &&& (4 : Int32)))])) t from fun t kt => ?_) _ ?_
    · by_cases hq : (vi4 &&& (4 : Int32)) = (0 : Int32)
      · rw [z8t hq] at kt
        refine XS.ifYes X5.here hx rfl (pc0 := 68) (pc' := 75) rfl (hb hby at_68) rfl ((if0 _ _).trans (teq hq).1) (by decide) (by decide) ?_
        show Steps p.tables e below (T5.setTop (mkF m 75 #[.val (.int vi0), .val (.int vi1), .val (.int vi2), .val (.int vi3), .val (.int vi4), .val (.ref b1), .val (.ref b4), .val (.int z6), .val (.int z7), .unset, .unset, .unset, .unset] [])) _
        refine XS.iconst X5.here hx rfl (hb hby at_75) ?_
        show Steps p.tables e below (T5.setTop (mkF m 76 #[.val (.int vi0), .val (.int vi1), .val (.int vi2), .val (.int vi3), .val (.int vi4), .val (.ref b1), .val (.ref b4), .val (.int z6), .val (.int z7), .unset, .unset, .unset, .unset] [(.int (-1 : Int32))])) _
        exact kt
      · rw [z8f hq] at kt
        refine XS.ifNo X5.here hx rfl (hb hby at_68) rfl ((if0 _ _).trans (feq hq).1) ?_
        show Steps p.tables e below (T5.setTop (mkF m 71 #[.val (.int vi0), .val (.int vi1), .val (.int vi2), .val (.int vi3), .val (.int vi4), .val (.ref b1), .val (.ref b4), .val (.int z6), .val (.int z7), .unset, .unset, .unset, .unset] [])) _
        refine XS.iconst X5.here hx rfl (hb hby at_71) ?_
        show Steps p.tables e below (T5.setTop (mkF m 72 #[.val (.int vi0), .val (.int vi1), .val (.int vi2), .val (.int vi3), .val (.int vi4), .val (.ref b1), .val (.ref b4), .val (.int z6), .val (.int z7), .unset, .unset, .unset, .unset] [(.int (1 : Int32))])) _
        refine XS.goto X5.here hx rfl (pc0 := 72) (pc' := 76) rfl (hb hby at_72) (by decide) (by decide) ?_
        show Steps p.tables e below (T5.setTop (mkF m 76 #[.val (.int vi0), .val (.int vi1), .val (.int vi2), .val (.int vi3), .val (.int vi4), .val (.ref b1), .val (.ref b4), .val (.int z6), .val (.int z7), .unset, .unset, .unset, .unset] [(.int (1 : Int32))])) _
        exact kt
    show Steps p.tables e below (T5.setTop (mkF m 76 #[.val (.int vi0), .val (.int vi1), .val (.int vi2), .val (.int vi3), .val (.int vi4), .val (.ref b1), .val (.ref b4), .val (.int z6), .val (.int z7), .unset, .unset, .unset, .unset] [(.int z8)])) _
    refine XS.istore X5.here hx rfl (hb hby at_76) rfl (l' := #[.val (.int vi0), .val (.int vi1), .val (.int vi2), .val (.int vi3), .val (.int vi4), .val (.ref b1), .val (.ref b4), .val (.int z6), .val (.int z7), .val (.int z8), .unset, .unset, .unset]) rfl ?_
    show Steps p.tables e below (T5.setTop (mkF m 78 #[.val (.int vi0), .val (.int vi1), .val (.int vi2), .val (.int vi3), .val (.int vi4), .val (.ref b1), .val (.ref b4), .val (.int z6), .val (.int z7), .val (.int z8), .unset, .unset, .unset] [])) _
    refine XS.iload X5.here hx rfl (hb hby at_78) rfl ?_
    show Steps p.tables e below (T5.setTop (mkF m 80 #[.val (.int vi0), .val (.int vi1), .val (.int vi2), .val (.int vi3), .val (.int vi4), .val (.ref b1), .val (.ref b4), .val (.int z6), .val (.int z7), .val (.int z8), .unset, .unset, .unset] [(.int vi4)])) _
    refine XS.bipush X5.here hx rfl (hb hby at_80) ?_
    show Steps p.tables e below (T5.setTop (mkF m 82 #[.val (.int vi0), .val (.int vi1), .val (.int vi2), .val (.int vi3), .val (.int vi4), .val (.ref b1), .val (.ref b4), .val (.int z6), .val (.int z7), .val (.int z8), .unset, .unset, .unset] [(.int (8 : Int32)), (.int vi4)])) _
    refine XS.iand X5.here hx rfl (hb hby at_82) rfl ?_
    show Steps p.tables e below (T5.setTop (mkF m 83 #[.val (.int vi0), .val (.int vi1), .val (.int vi2), .val (.int vi3), .val (.int vi4), .val (.ref b1), .val (.ref b4), .val (.int z6), .val (.int z7), .val (.int z8), .unset, .unset, .unset] [(.int (vi4 &&& (8 : Int32)))])) _
    refine XS.ifNo X5.here hx rfl (hb hby at_83) rfl ((if0 _ _).trans (feq hc83).1) ?_
    show Steps p.tables e below (T5.setTop (mkF m 86 #[.val (.int vi0), .val (.int vi1), .val (.int vi2), .val (.int vi3), .val (.int vi4), .val (.ref b1), .val (.ref b4), .val (.int z6), .val (.int z7), .val (.int z8), .unset, .unset, .unset] [])) _
    refine st9 _ ?_
    show Steps p.tables e below (T9.setTop (mkF m 89 #[.val (.int vi0), .val (.int vi1), .val (.int vi2), .val (.int vi3), .val (.int vi4), .val (.ref b1), .val (.ref b4), .val (.int z6), .val (.int z7), .val (.int z8), .unset, .unset, .unset] [(.ref w_NONE)])) _
    refine XS.goto X9.here hx rfl (pc0 := 89) (pc' := 93) rfl (hb hby at_89) (by decide) (by decide) ?_
    show Steps p.tables e below (T9.setTop (mkF m 93 #[.val (.int vi0), .val (.int vi1), .val (.int vi2), .val (.int vi3), .val (.int vi4), .val (.ref b1), .val (.ref b4), .val (.int z6), .val (.int z7), .val (.int z8), .unset, .unset, .unset] [(.ref w_NONE)])) _
    refine XS.astore X9.here hx rfl (hb hby at_93) rfl rfl (l' := #[.val (.int vi0), .val (.int vi1), .val (.int vi2), .val (.int vi3), .val (.int vi4), .val (.ref b1), .val (.ref b4), .val (.int z6), .val (.int z7), .val (.int z8), .val (.ref w_NONE), .unset, .unset]) rfl ?_
    show Steps p.tables e below (T9.setTop (mkF m 95 #[.val (.int vi0), .val (.int vi1), .val (.int vi2), .val (.int vi3), .val (.int vi4), .val (.ref b1), .val (.ref b4), .val (.int z6), .val (.int z7), .val (.int z8), .val (.ref w_NONE), .unset, .unset] [])) _
    refine st10 _ ?_
    show Steps p.tables e below (T10.setTop (mkF m 98 #[.val (.int vi0), .val (.int vi1), .val (.int vi2), .val (.int vi3), .val (.int vi4), .val (.ref b1), .val (.ref b4), .val (.int z6), .val (.int z7), .val (.int z8), .val (.ref w_NONE), .unset, .unset] [(.ref b10)])) _
    refine XS.dup X10.here hx rfl (hb hby at_98) rfl rfl ?_
    show Steps p.tables e below (T10.setTop (mkF m 99 #[.val (.int vi0), .val (.int vi1), .val (.int vi2), .val (.int vi3), .val (.int vi4), .val (.ref b1), .val (.ref b4), .val (.int z6), .val (.int z7), .val (.int z8), .val (.ref w_NONE), .unset, .unset] [(.ref b10), (.ref b10)])) _
    refine XS.aload X10.here hx rfl (hb hby at_99) rfl rfl ?_
    show Steps p.tables e below (T10.setTop (mkF m 101 #[.val (.int vi0), .val (.int vi1), .val (.int vi2), .val (.int vi3), .val (.int vi4), .val (.ref b1), .val (.ref b4), .val (.int z6), .val (.int z7), .val (.int z8), .val (.ref w_NONE), .unset, .unset] [(.ref b4), (.ref b10), (.ref b10)])) _
    refine XS.iloadN X10.here hx rfl (hb hby at_101) rfl ?_
    show Steps p.tables e below (T10.setTop (mkF m 102 #[.val (.int vi0), .val (.int vi1), .val (.int vi2), .val (.int vi3), .val (.int vi4), .val (.ref b1), .val (.ref b4), .val (.int z6), .val (.int z7), .val (.int z8), .val (.ref w_NONE), .unset, .unset] [(.int vi2), (.ref b4), (.ref b10), (.ref b10)])) _
    refine XS.aload X10.here hx rfl (hb hby at_102) rfl rfl ?_
    show Steps p.tables e below (T10.setTop (mkF m 104 #[.val (.int vi0), .val (.int vi1), .val (.int vi2), .val (.int vi3), .val (.int vi4), .val (.ref b1), .val (.ref b4), .val (.int z6), .val (.int z7), .val (.int z8), .val (.ref w_NONE), .unset, .unset] [(.ref w_NONE), (.int vi2), (.ref b4), (.ref b10), (.ref b10)])) _
    refine XS.iloadN X10.here hx rfl (hb hby at_104) rfl ?_
    show Steps p.tables e below (T10.setTop (mkF m 105 #[.val (.int vi0), .val (.int vi1), .val (.int vi2), .val (.int vi3), .val (.int vi4), .val (.ref b1), .val (.ref b4), .val (.int z6), .val (.int z7), .val (.int z8), .val (.ref w_NONE), .unset, .unset] [(.int vi3), (.ref w_NONE), (.int vi2), (.ref b4), (.ref b10), (.ref b10)])) _
    refine XS.iload X10.here hx rfl (hb hby at_105) rfl ?_
    show Steps p.tables e below (T10.setTop (mkF m 107 #[.val (.int vi0), .val (.int vi1), .val (.int vi2), .val (.int vi3), .val (.int vi4), .val (.ref b1), .val (.ref b4), .val (.int z6), .val (.int z7), .val (.int z8), .val (.ref w_NONE), .unset, .unset] [(.int z6), (.int vi3), (.ref w_NONE), (.int vi2), (.ref b4), (.ref b10), (.ref b10)])) _
    refine st11.trans ?_
    show Steps p.tables e below (T11.setTop (mkF m 110 #[.val (.int vi0), .val (.int vi1), .val (.int vi2), .val (.int vi3), .val (.int vi4), .val (.ref b1), .val (.ref b4), .val (.int z6), .val (.int z7), .val (.int z8), .val (.ref w_NONE), .unset, .unset] [(.ref b10)])) _
    refine XS.astore X11.here hx rfl (hb hby at_110) rfl rfl (l' := #[.val (.int vi0), .val (.int vi1), .val (.int vi2), .val (.int vi3), .val (.int vi4), .val (.ref b1), .val (.ref b4), .val (.int z6), .val (.int z7), .val (.int z8), .val (.ref w_NONE), .val (.ref b10), .unset]) rfl ?_
    show Steps p.tables e below (T11.setTop (mkF m 112 #[.val (.int vi0), .val (.int vi1), .val (.int vi2), .val (.int vi3), .val (.int vi4), .val (.ref b1), .val (.ref b4), .val (.int z6), .val (.int z7), .val (.int z8), .val (.ref w_NONE), .val (.ref b10), .unset] [])) _
    refine XS.aload X11.here hx rfl (hb hby at_112) rfl rfl ?_
    show Steps p.tables e below (T11.setTop (mkF m 114 #[.val (.int vi0), .val (.int vi1), .val (.int vi2), .val (.int vi3), .val (.int vi4), .val (.ref b1), .val (.ref b4), .val (.int z6), .val (.int z7), .val (.int z8), .val (.ref w_NONE), .val (.ref b10), .unset] [(.ref b10)])) _
    refine XS.iload X11.here hx rfl (hb hby at_114) rfl ?_
    show Steps p.tables e below (T11.setTop (mkF m 116 #[.val (.int vi0), .val (.int vi1), .val (.int vi2), .val (.int vi3), .val (.int vi4), .val (.ref b1), .val (.ref b4), .val (.int z6), .val (.int z7), .val (.int z8), .val (.ref w_NONE), .val (.ref b10), .unset] [(.int z8), (.ref b10)])) _
    refine XS.iload X11.here hx rfl (hb hby at_116) rfl ?_
    show Steps p.tables e below (T11.setTop (mkF m 118 #[.val (.int vi0), .val (.int vi1), .val (.int vi2), .val (.int vi3), .val (.int vi4), .val (.ref b1), .val (.ref b4), .val (.int z6), .val (.int z7), .val (.int z8), .val (.ref w_NONE), .val (.ref b10), .unset] [(.int z7), (.int z8), (.ref b10)])) _
    refine st12.trans ?_
    show Steps p.tables e below (T12.setTop (mkF m 121 #[.val (.int vi0), .val (.int vi1), .val (.int vi2), .val (.int vi3), .val (.int vi4), .val (.ref b1), .val (.ref b4), .val (.int z6), .val (.int z7), .val (.int z8), .val (.ref w_NONE), .val (.ref b10), .unset] [(.ref r12)])) _
    refine XS.astore X12.here hx rfl (hb hby at_121) rfl rfl (l' := #[.val (.int vi0), .val (.int vi1), .val (.int vi2), .val (.int vi3), .val (.int vi4), .val (.ref b1), .val (.ref b4), .val (.int z6), .val (.int z7), .val (.int z8), .val (.ref w_NONE), .val (.ref b10), .val (.ref r12)]) rfl ?_
    show Steps p.tables e below (T12.setTop (mkF m 123 #[.val (.int vi0), .val (.int vi1), .val (.int vi2), .val (.int vi3), .val (.int vi4), .val (.ref b1), .val (.ref b4), .val (.int z6), .val (.int z7), .val (.int z8), .val (.ref w_NONE), .val (.ref b10), .val (.ref r12)] [])) _
    refine XS.aload X12.here hx rfl (hb hby at_123) rfl rfl ?_
    show Steps p.tables e below (T12.setTop (mkF m 125 #[.val (.int vi0), .val (.int vi1), .val (.int vi2), .val (.int vi3), .val (.int vi4), .val (.ref b1), .val (.ref b4), .val (.int z6), .val (.int z7), .val (.int z8), .val (.ref w_NONE), .val (.ref b10), .val (.ref r12)] [(.ref r12)])) _
    refine XS.ifnonnullYes X12.here hx rfl (pc0 := 125) (pc' := 130) rfl (hb hby at_125) rfl (by decide) (by decide) ?_
    show Steps p.tables e below (T12.setTop (mkF m 130 #[.val (.int vi0), .val (.int vi1), .val (.int vi2), .val (.int vi3), .val (.int vi4), .val (.ref b1), .val (.ref b4), .val (.int z6), .val (.int z7), .val (.int z8), .val (.ref w_NONE), .val (.ref b10), .val (.ref r12)] [])) _
    refine XS.aload X12.here hx rfl (hb hby at_130) rfl rfl ?_
    show Steps p.tables e below (T12.setTop (mkF m 132 #[.val (.int vi0), .val (.int vi1), .val (.int vi2), .val (.int vi3), .val (.int vi4), .val (.ref b1), .val (.ref b4), .val (.int z6), .val (.int z7), .val (.int z8), .val (.ref w_NONE), .val (.ref b10), .val (.ref r12)] [(.ref r12)])) _
    refine st13.trans ?_
    show Steps p.tables e below (T13.setTop (mkF m 135 #[.val (.int vi0), .val (.int vi1), .val (.int vi2), .val (.int vi3), .val (.int vi4), .val (.ref b1), .val (.ref b4), .val (.int z6), .val (.int z7), .val (.int z8), .val (.ref w_NONE), .val (.ref b10), .val (.ref r12)] [(.ref b4)])) _
    refine XS.aload X13.here hx rfl (hb hby at_135) rfl rfl ?_
    show Steps p.tables e below (T13.setTop (mkF m 137 #[.val (.int vi0), .val (.int vi1), .val (.int vi2), .val (.int vi3), .val (.int vi4), .val (.ref b1), .val (.ref b4), .val (.int z6), .val (.int z7), .val (.int z8), .val (.ref w_NONE), .val (.ref b10), .val (.ref r12)] [(.ref b4), (.ref b4)])) _
    refine st14.trans ?_
    show Steps p.tables e below (T14.setTop (mkF m 140 #[.val (.int vi0), .val (.int vi1), .val (.int vi2), .val (.int vi3), .val (.int vi4), .val (.ref b1), .val (.ref b4), .val (.int z6), .val (.int z7), .val (.int z8), .val (.ref w_NONE), .val (.ref b10), .val (.ref r12)] [(.int (1 : Int32))])) _
    refine XS.ifNo X14.here hx rfl (hb hby at_140) rfl ((if0 _ _).trans (feq (by decide : ¬ ((1 : Int32) = (0 : Int32)))).1) ?_
    show Steps p.tables e below (T14.setTop (mkF m 143 #[.val (.int vi0), .val (.int vi1), .val (.int vi2), .val (.int vi3), .val (.int vi4), .val (.ref b1), .val (.ref b4), .val (.int z6), .val (.int z7), .val (.int z8), .val (.ref w_NONE), .val (.ref b10), .val (.ref r12)] [])) _
    refine XS.aload X14.here hx rfl (hb hby at_143) rfl rfl ?_
    show Steps p.tables e below (T14.setTop (mkF m 145 #[.val (.int vi0), .val (.int vi1), .val (.int vi2), .val (.int vi3), .val (.int vi4), .val (.ref b1), .val (.ref b4), .val (.int z6), .val (.int z7), .val (.int z8), .val (.ref w_NONE), .val (.ref b10), .val (.ref r12)] [(.ref r12)])) _
    refine st15.trans ?_
    show Steps p.tables e below (T15.setTop (mkF m 148 #[.val (.int vi0), .val (.int vi1), .val (.int vi2), .val (.int vi3), .val (.int vi4), .val (.ref b1), .val (.ref b4), .val (.int z6), .val (.int z7), .val (.int z8), .val (.ref w_NONE), .val (.ref b10), .val (.ref r12)] [(.int vi2)])) _
    refine XS.iloadN X15.here hx rfl (hb hby at_148) rfl ?_
    show Steps p.tables e below (T15.setTop (mkF m 149 #[.val (.int vi0), .val (.int vi1), .val (.int vi2), .val (.int vi3), .val (.int vi4), .val (.ref b1), .val (.ref b4), .val (.int z6), .val (.int z7), .val (.int z8), .val (.ref w_NONE), .val (.ref b10), .val (.ref r12)] [(.int vi2), (.int vi2)])) _
    refine XS.icmpNo X15.here hx rfl (hb hby at_149) rfl (teq (rfl : vi2 = vi2)).2 ?_
    show Steps p.tables e below (T15.setTop (mkF m 152 #[.val (.int vi0), .val (.int vi1), .val (.int vi2), .val (.int vi3), .val (.int vi4), .val (.ref b1), .val (.ref b4), .val (.int z6), .val (.int z7), .val (.int z8), .val (.ref w_NONE), .val (.ref b10), .val (.ref r12)] [])) _
    refine XS.aload X15.here hx rfl (hb hby at_152) rfl rfl ?_
    show Steps p.tables e below (T15.setTop (mkF m 154 #[.val (.int vi0), .val (.int vi1), .val (.int vi2), .val (.int vi3), .val (.int vi4), .val (.ref b1), .val (.ref b4), .val (.int z6), .val (.int z7), .val (.int z8), .val (.ref w_NONE), .val (.ref b10), .val (.ref r12)] [(.ref r12)])) _
    refine st16.trans ?_
    show Steps p.tables e below (T16.setTop (mkF m 157 #[.val (.int vi0), .val (.int vi1), .val (.int vi2), .val (.int vi3), .val (.int vi4), .val (.ref b1), .val (.ref b4), .val (.int z6), .val (.int z7), .val (.int z8), .val (.ref w_NONE), .val (.ref b10), .val (.ref r12)] [(.ref w_NONE)])) _
    refine XS.aload X16.here hx rfl (hb hby at_157) rfl rfl ?_
    show Steps p.tables e below (T16.setTop (mkF m 159 #[.val (.int vi0), .val (.int vi1), .val (.int vi2), .val (.int vi3), .val (.int vi4), .val (.ref b1), .val (.ref b4), .val (.int z6), .val (.int z7), .val (.int z8), .val (.ref w_NONE), .val (.ref b10), .val (.ref r12)] [(.ref w_NONE), (.ref w_NONE)])) _
    refine Jvm.RoadKit.acmp (g := (mkF m 159 #[.val (.int vi0), .val (.int vi1), .val (.int vi2), .val (.int vi3), .val (.int vi4), .val (.ref b1), .val (.ref b4), .val (.int z6), .val (.int z7), .val (.int z8), .val (.ref w_NONE), .val (.ref b10), .val (.ref r12)] [(.ref w_NONE), (.ref w_NONE)])) X16 hx rfl rfl rfl (pc0 := 159) (pc' := 162) (same := true) rfl (hb hby at_159) rfl (decide_eq_true rfl) (by decide) (by decide) ?_
    show Steps p.tables e below (T16.setTop (mkF m 162 #[.val (.int vi0), .val (.int vi1), .val (.int vi2), .val (.int vi3), .val (.int vi4), .val (.ref b1), .val (.ref b4), .val (.int z6), .val (.int z7), .val (.int z8), .val (.ref w_NONE), .val (.ref b10), .val (.ref r12)] [])) _
    refine XS.aload X16.here hx rfl (hb hby at_162) rfl rfl ?_
    show Steps p.tables e below (T16.setTop (mkF m 164 #[.val (.int vi0), .val (.int vi1), .val (.int vi2), .val (.int vi3), .val (.int vi4), .val (.ref b1), .val (.ref b4), .val (.int z6), .val (.int z7), .val (.int z8), .val (.ref w_NONE), .val (.ref b10), .val (.ref r12)] [(.ref r12)])) _
    refine st17.trans ?_
    show Steps p.tables e below (T17.setTop (mkF m 167 #[.val (.int vi0), .val (.int vi1), .val (.int vi2), .val (.int vi3), .val (.int vi4), .val (.ref b1), .val (.ref b4), .val (.int z6), .val (.int z7), .val (.int z8), .val (.ref w_NONE), .val (.ref b10), .val (.ref r12)] [(.int (vi3 + z8))])) _
    refine XS.iloadN X17.here hx rfl (hb hby at_167) rfl ?_
    show Steps p.tables e below (T17.setTop (mkF m 168 #[.val (.int vi0), .val (.int vi1), .val (.int vi2), .val (.int vi3), .val (.int vi4), .val (.ref b1), .val (.ref b4), .val (.int z6), .val (.int z7), .val (.int z8), .val (.ref w_NONE), .val (.ref b10), .val (.ref r12)] [(.int vi3), (.int (vi3 + z8))])) _
    refine XS.iload X17.here hx rfl (hb hby at_168) rfl ?_
    show Steps p.tables e below (T17.setTop (mkF m 170 #[.val (.int vi0), .val (.int vi1), .val (.int vi2), .val (.int vi3), .val (.int vi4), .val (.ref b1), .val (.ref b4), .val (.int z6), .val (.int z7), .val (.int z8), .val (.ref w_NONE), .val (.ref b10), .val (.ref r12)] [(.int z8), (.int vi3), (.int (vi3 + z8))])) _
    refine XS.iadd X17.here hx rfl (hb hby at_170) rfl ?_
    show Steps p.tables e below (T17.setTop (mkF m 171 #[.val (.int vi0), .val (.int vi1), .val (.int vi2), .val (.int vi3), .val (.int vi4), .val (.ref b1), .val (.ref b4), .val (.int z6), .val (.int z7), .val (.int z8), .val (.ref w_NONE), .val (.ref b10), .val (.ref r12)] [(.int (vi3 + z8)), (.int (vi3 + z8))])) _
    refine XS.icmpNo X17.here hx rfl (hb hby at_171) rfl (teq (rfl : (vi3 + z8) = (vi3 + z8))).2 ?_
    show Steps p.tables e below (T17.setTop (mkF m 174 #[.val (.int vi0), .val (.int vi1), .val (.int vi2), .val (.int vi3), .val (.int vi4), .val (.ref b1), .val (.ref b4), .val (.int z6), .val (.int z7), .val (.int z8), .val (.ref w_NONE), .val (.ref b10), .val (.ref r12)] [])) _
    refine XS.aload X17.here hx rfl (hb hby at_174) rfl rfl ?_
    show Steps p.tables e below (T17.setTop (mkF m 176 #[.val (.int vi0), .val (.int vi1), .val (.int vi2), .val (.int vi3), .val (.int vi4), .val (.ref b1), .val (.ref b4), .val (.int z6), .val (.int z7), .val (.int z8), .val (.ref w_NONE), .val (.ref b10), .val (.ref r12)] [(.ref r12)])) _
    refine st18.trans ?_
    show Steps p.tables e below (T18.setTop (mkF m 179 #[.val (.int vi0), .val (.int vi1), .val (.int vi2), .val (.int vi3), .val (.int vi4), .val (.ref b1), .val (.ref b4), .val (.int z6), .val (.int z7), .val (.int z8), .val (.ref w_NONE), .val (.ref b10), .val (.ref r12)] [(.int z7)])) _
    refine XS.iload X18.here hx rfl (hb hby at_179) rfl ?_
    show Steps p.tables e below (T18.setTop (mkF m 181 #[.val (.int vi0), .val (.int vi1), .val (.int vi2), .val (.int vi3), .val (.int vi4), .val (.ref b1), .val (.ref b4), .val (.int z6), .val (.int z7), .val (.int z8), .val (.ref w_NONE), .val (.ref b10), .val (.ref r12)] [(.int z7), (.int z7)])) _
    refine XS.icmpNo X18.here hx rfl (hb hby at_181) rfl (teq (rfl : z7 = z7)).2 ?_
    show Steps p.tables e below (T18.setTop (mkF m 184 #[.val (.int vi0), .val (.int vi1), .val (.int vi2), .val (.int vi3), .val (.int vi4), .val (.ref b1), .val (.ref b4), .val (.int z6), .val (.int z7), .val (.int z8), .val (.ref w_NONE), .val (.ref b10), .val (.ref r12)] [])) _
    refine XS.aload X18.here hx rfl (hb hby at_184) rfl rfl ?_
    show Steps p.tables e below (T18.setTop (mkF m 186 #[.val (.int vi0), .val (.int vi1), .val (.int vi2), .val (.int vi3), .val (.int vi4), .val (.ref b1), .val (.ref b4), .val (.int z6), .val (.int z7), .val (.int z8), .val (.ref w_NONE), .val (.ref b10), .val (.ref r12)] [(.ref b10)])) _
    refine st19.trans ?_
    show Steps p.tables e below (T19.setTop (mkF m 189 #[.val (.int vi0), .val (.int vi1), .val (.int vi2), .val (.int vi3), .val (.int vi4), .val (.ref b1), .val (.ref b4), .val (.int z6), .val (.int z7), .val (.int z8), .val (.ref w_NONE), .val (.ref b10), .val (.ref r12)] [(.int vi3)])) _
    refine XS.iloadN X19.here hx rfl (hb hby at_189) rfl ?_
    show Steps p.tables e below (T19.setTop (mkF m 190 #[.val (.int vi0), .val (.int vi1), .val (.int vi2), .val (.int vi3), .val (.int vi4), .val (.ref b1), .val (.ref b4), .val (.int z6), .val (.int z7), .val (.int z8), .val (.ref w_NONE), .val (.ref b10), .val (.ref r12)] [(.int vi3), (.int vi3)])) _
    refine XS.icmpNo X19.here hx rfl (hb hby at_190) rfl (teq (rfl : vi3 = vi3)).2 ?_
    show Steps p.tables e below (T19.setTop (mkF m 193 #[.val (.int vi0), .val (.int vi1), .val (.int vi2), .val (.int vi3), .val (.int vi4), .val (.ref b1), .val (.ref b4), .val (.int z6), .val (.int z7), .val (.int z8), .val (.ref w_NONE), .val (.ref b10), .val (.ref r12)] [])) _
    refine XS.aload X19.here hx rfl (hb hby at_193) rfl rfl ?_
    show Steps p.tables e below (T19.setTop (mkF m 195 #[.val (.int vi0), .val (.int vi1), .val (.int vi2), .val (.int vi3), .val (.int vi4), .val (.ref b1), .val (.ref b4), .val (.int z6), .val (.int z7), .val (.int z8), .val (.ref w_NONE), .val (.ref b10), .val (.ref r12)] [(.ref b10)])) _
    refine st20.trans ?_
    show Steps p.tables e below (T20.setTop (mkF m 198 #[.val (.int vi0), .val (.int vi1), .val (.int vi2), .val (.int vi3), .val (.int vi4), .val (.ref b1), .val (.ref b4), .val (.int z6), .val (.int z7), .val (.int z8), .val (.ref w_NONE), .val (.ref b10), .val (.ref r12)] [(.int z6)])) _
    refine XS.iload X20.here hx rfl (hb hby at_198) rfl ?_
    show Steps p.tables e below (T20.setTop (mkF m 200 #[.val (.int vi0), .val (.int vi1), .val (.int vi2), .val (.int vi3), .val (.int vi4), .val (.ref b1), .val (.ref b4), .val (.int z6), .val (.int z7), .val (.int z8), .val (.ref w_NONE), .val (.ref b10), .val (.ref r12)] [(.int z6), (.int z6)])) _
    refine XS.icmpNo X20.here hx rfl (hb hby at_200) rfl (teq (rfl : z6 = z6)).2 ?_
    show Steps p.tables e below (T20.setTop (mkF m 203 #[.val (.int vi0), .val (.int vi1), .val (.int vi2), .val (.int vi3), .val (.int vi4), .val (.ref b1), .val (.ref b4), .val (.int z6), .val (.int z7), .val (.int z8), .val (.ref w_NONE), .val (.ref b10), .val (.ref r12)] [])) _
    refine XS.aload X20.here hx rfl (hb hby at_203) rfl rfl ?_
    show Steps p.tables e below (T20.setTop (mkF m 205 #[.val (.int vi0), .val (.int vi1), .val (.int vi2), .val (.int vi3), .val (.int vi4), .val (.ref b1), .val (.ref b4), .val (.int z6), .val (.int z7), .val (.int z8), .val (.ref w_NONE), .val (.ref b10), .val (.ref r12)] [(.ref b10)])) _
    refine st21.trans ?_
    show Steps p.tables e below (T21.setTop (mkF m 208 #[.val (.int vi0), .val (.int vi1), .val (.int vi2), .val (.int vi3), .val (.int vi4), .val (.ref b1), .val (.ref b4), .val (.int z6), .val (.int z7), .val (.int z8), .val (.ref w_NONE), .val (.ref b10), .val (.ref r12)] [(.int vi2)])) _
    refine XS.iloadN X21.here hx rfl (hb hby at_208) rfl ?_
    show Steps p.tables e below (T21.setTop (mkF m 209 #[.val (.int vi0), .val (.int vi1), .val (.int vi2), .val (.int vi3), .val (.int vi4), .val (.ref b1), .val (.ref b4), .val (.int z6), .val (.int z7), .val (.int z8), .val (.ref w_NONE), .val (.ref b10), .val (.ref r12)] [(.int vi2), (.int vi2)])) _
    refine XS.icmpNo X21.here hx rfl (hb hby at_209) rfl (teq (rfl : vi2 = vi2)).2 ?_
    show Steps p.tables e below (T21.setTop (mkF m 212 #[.val (.int vi0), .val (.int vi1), .val (.int vi2), .val (.int vi3), .val (.int vi4), .val (.ref b1), .val (.ref b4), .val (.int z6), .val (.int z7), .val (.int z8), .val (.ref w_NONE), .val (.ref b10), .val (.ref r12)] [])) _
    refine XS.iconst X21.here hx rfl (hb hby at_212) ?_
    show Steps p.tables e below (T21.setTop (mkF m 213 #[.val (.int vi0), .val (.int vi1), .val (.int vi2), .val (.int vi3), .val (.int vi4), .val (.ref b1), .val (.ref b4), .val (.int z6), .val (.int z7), .val (.int z8), .val (.ref w_NONE), .val (.ref b10), .val (.ref r12)] [(.int (1 : Int32))])) _
    refine XS.goto X21.here hx rfl (pc0 := 213) (pc' := 217) rfl (hb hby at_213) (by decide) (by decide) ?_
    show Steps p.tables e below (T21.setTop (mkF m 217 #[.val (.int vi0), .val (.int vi1), .val (.int vi2), .val (.int vi3), .val (.int vi4), .val (.ref b1), .val (.ref b4), .val (.int z6), .val (.int z7), .val (.int z8), .val (.ref w_NONE), .val (.ref b10), .val (.ref r12)] [(.int (1 : Int32))])) _
    exact retN X21 hx (t := .boolean) Bd.returns (by simp) (hb hby at_217) hr
  · show Q0_R Z vi0 vi1 vi2 vi3 vi4 w_COMPACT_STRINGS w_NONE h0 n0 _ T21.heap _
    rw [e21]
    exact ⟨rfl, N21⟩
theorem ef_0_N (m : MethodId) (x0 : Int32) (x1 : Int32) (x2 : Int32) (x3 : Int32) (x4 : Int32) : entryFrame m #[(.int x0), (.int x1), (.int x2), (.int x3), (.int x4)] maxLocals = mkF m 0 #[.val (.int x0), .val (.int x1), .val (.int x2), .val (.int x3), .val (.int x4), .unset, .unset, .unset, .unset, .unset, .unset, .unset, .unset] [] := by first | (simp [entryFrame, mkF, argsToLocals, Value.category, maxLocals]; done) | rfl
def Q0_N (Z : State) (vi0 : Int32) (vi1 : Int32) (vi2 : Int32) (vi3 : Int32) (vi4 : Int32) (w_COMPACT_STRINGS : Int32) (h0 : Heap) (n0 : Nat) (v : Option Value) (h : Heap) (L : List Loc) : Prop := v = some (.int (1 : Int32)) ∧ Fr n0 L
set_option maxRecDepth 65536 in
set_option maxHeartbeats 40000000 in
theorem rm0_N (l : Launch) (Z : State) (a0 : Array Value) (hw : ∀ d ∈ tables_1, d.before a0 Z = true) (ws : List Jvm.Cond) (vi0 : Int32) (vi1 : Int32) (vi2 : Int32) (vi3 : Int32) (vi4 : Int32) (w_COMPACT_STRINGS : Int32) (h0 : Heap) (n0 : Nat) (Z0 : n0 ≤ h0.size) (S_COMPACT_STRINGS : Sta Z Z.heap "java/lang/String" "COMPACT_STRINGS" "Z" (.int w_COMPACT_STRINGS)) (hG : ¬ (w_COMPACT_STRINGS = (0 : Int32))) (O0 : Old Z n0 h0) (hc83 : (vi4 &&& (8 : Int32)) = (0 : Int32)) :
    MetFree l x (head1 (Jvm.Cond.code x code maxLocals ret :: ws) room_1) (fun a U => a = #[(.int vi0), (.int vi1), (.int vi2), (.int vi3), (.int vi4)] ∧ Z.Warmed39 U.vm ∧ U.heap = h0) (fun _ _ _ _ _ => True) (fun _ U o U' => ∃ v L, o = .returned v ∧ Q0_N Z vi0 vi1 vi2 vi3 vi4 w_COMPACT_STRINGS h0 n0 v U'.heap L ∧ FrameEnd U o U' L room_1.cells room_1.slots) := by
  refine MetFree.of_bodySF (plainFor_of_name pn_com_example_vernacular_vernacular_ColumnInheritingPinLaw) hisR ?_
  intro p e s m args below meth c s₁ Bd hml0 hP hK
  obtain ⟨rfl, hZ, hh⟩ := hP
  have hx := Bd.exec
  have hby := Bd.bytes
  have hml : c.maxLocals = 13 := hml0
  have hown : s.vm.findClass "com/example/vernacular/vernacular/ColumnInheritingPinLaw" = some m.cls := findClass_of_methodNamed Bd.named
  have hnm := (name_of_methodNamed Bd.named Bd.method).1
  have X0 : Stand p l e room_1 s m #[(.int vi0), (.int vi1), (.int vi2), (.int vi3), (.int vi4)] below meth c s₁ [] 0 0 := Stand.of_body Bd
  have e0 : s₁.heap = h0 := by rw [← hh, Bd.state]; rfl
  have N0 := Fr.nil n0
  have pre0 : ∀ t, Steps p.tables e below (s₁.setTop (mkF m 0 #[.val (.int vi0), .val (.int vi1), .val (.int vi2), .val (.int vi3), .val (.int vi4), .unset, .unset, .unset, .unset, .unset, .unset, .unset, .unset] [])) t → Steps p.tables e below (s₁.setTop (entryFrame m #[(.int vi0), (.int vi1), (.int vi2), (.int vi3), (.int vi4)] maxLocals)) t := fun t k => castTop (ef_0_N m vi0 vi1 vi2 vi3 vi4) k
  obtain ⟨T1, h1, k1, X1, e1, E1, A1, st1⟩ := newP X0 hx hZ (aty := .char) (wd_0 hw) e0 (g := (mkF m 1 #[.val (.int vi0), .val (.int vi1), .val (.int vi2), .val (.int vi3), .val (.int vi4), .unset, .unset, .unset, .unset, .unset, .unset, .unset, .unset] [(.int (2 : Int32))])) rfl (hb hby at_1) rfl (by decide) (cap := 2) (by decide) (by decide) (by decide) (by decide)
  obtain ⟨b1, g1⟩ : ∃ z, z = h0.size := ⟨_, rfl⟩
  rw [← g1] at A1 st1
  have g_b1 : n0 ≤ b1 := Nat.le_trans Z0 (Nat.le_of_eq g1.symm)
  have sz_b1 : h0.size ≤ b1 := Nat.le_trans (Keep.refl h0 []).1 (Nat.le_of_eq g1.symm)
  have K1 : Keep h0 h1 [] := (Keep.refl h0 []).ext E1
  have V_b1 : Arv Z h1 b1 k1 .char (2 : Int32) [(.int (0 : Int32)), (.int (0 : Int32))] (.int (0 : Int32)) := (Arv.new A1 (by decide)).pad (pad_rep [] (.int (0 : Int32)) 2)
  obtain ⟨cl2, Ar2, q2, Sz2, Ng2, Hh2, Gg2⟩ := V_b1
  have hin2 : ¬ ((0 : Int32) < 0 ∨ cl2.slots.size ≤ ((0 : Int32)).toNatClampNeg) := inb_of Sz2 ⟨by decide, by decide⟩
  obtain ⟨T2, h2, X2, e2, W2, st2⟩ := stC X1 hx hZ e1 Ar2 (j := (0 : Int32)) hin2 (g := (mkF m 14 #[.val (.int vi0), .val (.int vi1), .val (.int vi2), .val (.int vi3), .val (.int vi4), .val (.ref b1), .unset, .unset, .unset, .unset, .unset, .unset, .unset] [(.int ((vi0 &&& (255 : Int32)).toUInt32.toUInt16.toUInt32.toInt32)), (.int (0 : Int32)), (.ref b1)])) rfl rfl (hb hby at_14)
  have V_b1_2 : Arv Z h2 b1 k1 .char (2 : Int32) [(.int (nar .char ((vi0 &&& (255 : Int32)).toUInt32.toUInt16.toUInt32.toInt32))), (.int (0 : Int32))] (.int (0 : Int32)) := Arv.set Ar2 q2 Sz2 Ng2 Hh2 Gg2 (fits_nar_char _) W2 0 rfl (Nat.le_of_ble_eq_true rfl)
  have N2 := Fr.snoc X2 N0 g_b1
  have K2 : Keep h0 h2 [] := K1.wr W2 (Or.inr sz_b1)
  obtain ⟨cl3, Ar3, q3, Sz3, Ng3, Hh3, Gg3⟩ := V_b1_2
  have hin3 : ¬ ((1 : Int32) < 0 ∨ cl3.slots.size ≤ ((1 : Int32)).toNatClampNeg) := inb_of Sz3 ⟨by decide, by decide⟩
  obtain ⟨T3, h3, X3, e3, W3, st3⟩ := stC X2 hx hZ e2 Ar3 (j := (1 : Int32)) hin3 (g := (mkF m 24 #[.val (.int vi0), .val (.int vi1), .val (.int vi2), .val (.int vi3), .val (.int vi4), .val (.ref b1), .unset, .unset, .unset, .unset, .unset, .unset, .unset] [(.int ((vi1 &&& (255 : Int32)).toUInt32.toUInt16.toUInt32.toInt32)), (.int (1 : Int32)), (.ref b1)])) rfl rfl (hb hby at_24)
  have V_b1_3 : Arv Z h3 b1 k1 .char (2 : Int32) [(.int (nar .char ((vi0 &&& (255 : Int32)).toUInt32.toUInt16.toUInt32.toInt32))), (.int (nar .char ((vi1 &&& (255 : Int32)).toUInt32.toUInt16.toUInt32.toInt32)))] (.int (0 : Int32)) := Arv.set Ar3 q3 Sz3 Ng3 Hh3 Gg3 (fits_nar_char _) W3 1 rfl (Nat.le_of_ble_eq_true rfl)
  have N3 := Fr.snoc X3 N2 g_b1
  have K3 : Keep h0 h3 [] := K2.wr W3 (Or.inr sz_b1)
  obtain ⟨T4, h4, X4, e4, E4, A4, D4, -, st4⟩ := newO X3 hx hZ hown (wd_1 hw) (wd_2 hw) (wd_3 hw) e3 (g := (mkF m 25 #[.val (.int vi0), .val (.int vi1), .val (.int vi2), .val (.int vi3), .val (.int vi4), .val (.ref b1), .unset, .unset, .unset, .unset, .unset, .unset, .unset] [])) rfl (hb hby at_25) (by decide) (by decide)
  obtain ⟨b4, g4⟩ : ∃ z, z = h3.size := ⟨_, rfl⟩
  rw [← g4] at A4 D4 st4
  have g_b4 : n0 ≤ b4 := Nat.le_trans (Nat.le_trans (Nat.le_trans (Nat.le_trans Z0 E1.1) (Keep.of_wr W2).1) (Keep.of_wr W3).1) (Nat.le_of_eq g4.symm)
  have sz_b4 : h0.size ≤ b4 := Nat.le_trans K3.1 (Nat.le_of_eq g4.symm)
  have K4 : Keep h0 h4 [] := K3.ext E4
  have F_coder_b4 : Fld Z h4 b4 "java/lang/String" "coder" "B" (.int (0 : Int32)) := D4 (Or.inr (wd_27 hw)) (ty := .byte) (by decide)
  have F_value_b4 : Fld Z h4 b4 "java/lang/String" "value" "[B" .null := D4 (Or.inr (wd_29 hw)) (ty := (.array .byte)) (by decide)
  obtain ⟨_, _, ⟨T5, L5, k5, n5⟩, -, X5, ⟨Lc5, hQ5, l5, y5, z5⟩, st5⟩ := X4.specialBack hx (y := (⟨"java/lang/String", "<init>", "([C)V"⟩ : MethodName)) rfl hown (mvT hZ (wd_4 hw)) (mvT hZ (wd_5 hw)) (mvT hZ (wd_6 hw)) (by decide) (StrChars.Road.backV (W := 1) hZ (fun d hd => hw d (own_words d hd)) (kI := 4) (wd_2 hw) (cs := ([(nar .char ((vi0 &&& (255 : Int32)).toUInt32.toUInt16.toUInt32.toInt32)), (nar .char ((vi1 &&& (255 : Int32)).toUInt32.toUInt16.toUInt32.toInt32))] : List Int32)) (bs := ([(nar .char ((vi0 &&& (255 : Int32)).toUInt32.toUInt16.toUInt32.toInt32)), (nar .char ((vi1 &&& (255 : Int32)).toUInt32.toUInt16.toUInt32.toInt32))] : List Int32).map (fun c => c.toInt8.toInt32)) (n := 2) g_b4 (Nat.le_trans (Nat.le_trans (Nat.le_trans (Nat.le_trans Z0 E1.1) (Keep.of_wr W2).1) (Keep.of_wr W3).1) E4.1) A4 F_value_b4 F_coder_b4 (V_b1_3.ext E4) (S_COMPACT_STRINGS.ext ((((O0.ext E1).wr W2 g_b1).wr W3 g_b1).ext E4).2) hG rfl rfl (by decide) (by decide) (by intro c hc; simp only [List.mem_cons, List.not_mem_nil, or_false] at hc; rcases hc with rfl | rfl <;> exact own_255 _) rfl (by decide) (by decide)) (g := (mkF m 31 #[.val (.int vi0), .val (.int vi1), .val (.int vi2), .val (.int vi3), .val (.int vi4), .val (.ref b1), .unset, .unset, .unset, .unset, .unset, .unset, .unset] [(.ref b1), (.ref b4), (.ref b4)])) rfl (by rw [hml]; rfl) (Steps.refl _) (a := b4) (argsL := [(.ref b1)]) (rest := [(.ref b4)]) (lenOf pd_0 rfl) rfl (by show 2 * 0 + _ ≤ _; exact Nat.le_of_eq rfl) (hb hby at_31) (fun _ _ => ⟨rfl, e4, (by decide : 2 + 1 ≤ _), (by decide : 6 + 2 ≤ _)⟩)
  dsimp only [Pt.U, Pt.locs, Pt.cells, Pt.slots] at X5 l5 y5 z5 st5 hQ5
  subst l5 y5 z5
  obtain ⟨rfl, N5q, p5_0, p5_1, p5_2, t5, kb5, gt5, p5_3, nt5, p5_4, p5_5⟩ := hQ5
  have N5 := Fr.app N3 N5q
  have g_t5 : n0 ≤ t5 := Nat.le_trans (Nat.le_trans (Nat.le_trans (Nat.le_trans (Nat.le_trans Z0 E1.1) (Keep.of_wr W2).1) (Keep.of_wr W3).1) E4.1) p5_3
  have sz_t5 : h0.size ≤ t5 := Nat.le_trans K4.1 p5_3
  have K5 : Keep h0 T5.heap [] := K4.trans p5_0 (allS (Or.inr sz_b4) all0)
  obtain ⟨z6, z6t, z6f⟩ : ∃ z : Int32, ((vi4 &&& (1 : Int32)) = (0 : Int32) → z = (0 : Int32)) ∧ (¬ ((vi4 &&& (1 : Int32)) = (0 : Int32)) → z = (1 : Int32)) := ⟨if (vi4 &&& (1 : Int32)) = (0 : Int32) then (0 : Int32) else (1 : Int32), fun h => if_pos h, fun h => if_neg h⟩
  have z6b : z6 = (0 : Int32) ∨ z6 = (1 : Int32) := (Decidable.em ((vi4 &&& (1 : Int32)) = (0 : Int32))).elim (fun h => Or.inl (z6t h)) (fun h => Or.inr (z6f h))
  obtain ⟨z7, z7t, z7f⟩ : ∃ z : Int32, ((vi4 &&& (2 : Int32)) = (0 : Int32) → z = (0 : Int32)) ∧ (¬ ((vi4 &&& (2 : Int32)) = (0 : Int32)) → z = (1 : Int32)) := ⟨if (vi4 &&& (2 : Int32)) = (0 : Int32) then (0 : Int32) else (1 : Int32), fun h => if_pos h, fun h => if_neg h⟩
  have z7b : z7 = (0 : Int32) ∨ z7 = (1 : Int32) := (Decidable.em ((vi4 &&& (2 : Int32)) = (0 : Int32))).elim (fun h => Or.inl (z7t h)) (fun h => Or.inr (z7f h))
  obtain ⟨z8, z8t, z8f⟩ : ∃ z : Int32, ((vi4 &&& (4 : Int32)) = (0 : Int32) → z = (-1 : Int32)) ∧ (¬ ((vi4 &&& (4 : Int32)) = (0 : Int32)) → z = (1 : Int32)) := ⟨if (vi4 &&& (4 : Int32)) = (0 : Int32) then (-1 : Int32) else (1 : Int32), fun h => if_pos h, fun h => if_neg h⟩
  have z8b : z8 = (-1 : Int32) ∨ z8 = (1 : Int32) := (Decidable.em ((vi4 &&& (4 : Int32)) = (0 : Int32))).elim (fun h => Or.inl (z8t h)) (fun h => Or.inr (z8f h))
  obtain ⟨T9, h9, X9, e9, E9, A9, D9, -, st9⟩ := newO X5 hx hZ hown (wd_30 hw) (wd_31 hw) (wd_32 hw) rfl (g := (mkF m 95 #[.val (.int vi0), .val (.int vi1), .val (.int vi2), .val (.int vi3), .val (.int vi4), .val (.ref b1), .val (.ref b4), .val (.int z6), .val (.int z7), .val (.int z8), .val .null, .unset, .unset] [])) rfl (hb hby at_95) (by decide) (by decide)
  obtain ⟨b9, g9⟩ : ∃ z, z = T5.heap.size := ⟨_, rfl⟩
  rw [← g9] at A9 D9 st9
  have g_b9 : n0 ≤ b9 := Nat.le_trans (Nat.le_trans (Nat.le_trans (Nat.le_trans (Nat.le_trans (Nat.le_trans Z0 E1.1) (Keep.of_wr W2).1) (Keep.of_wr W3).1) E4.1) p5_0.1) (Nat.le_of_eq g9.symm)
  have sz_b9 : h0.size ≤ b9 := Nat.le_trans K5.1 (Nat.le_of_eq g9.symm)
  have K9 : Keep h0 h9 [] := K5.ext E9
  have F_name_b9 : Fld Z h9 b9 "com/example/vernacular/vernacular/Table$Column" "name" "Ljava/lang/String;" .null := D9 (Or.inr (wd_43 hw)) (ty := (.object "java/lang/String")) (by decide)
  have F_position_b9 : Fld Z h9 b9 "com/example/vernacular/vernacular/Table$Column" "position" "I" (.int (0 : Int32)) := D9 (Or.inr (wd_45 hw)) (ty := .int) (by decide)
  have F_lineage_b9 : Fld Z h9 b9 "com/example/vernacular/vernacular/Table$Column" "lineage" "Lcom/example/vernacular/vernacular/Lineage;" .null := D9 (Or.inr (wd_47 hw)) (ty := (.object "com/example/vernacular/vernacular/Lineage")) (by decide)
  have F_inherited_b9 : Fld Z h9 b9 "com/example/vernacular/vernacular/Table$Column" "inherited" "I" (.int (0 : Int32)) := D9 (Or.inr (wd_49 hw)) (ty := .int) (by decide)
  have F_local_b9 : Fld Z h9 b9 "com/example/vernacular/vernacular/Table$Column" "local" "Z" (.int (0 : Int32)) := D9 (Or.inr (wd_51 hw)) (ty := .boolean) (by decide)
  obtain ⟨_, _, ⟨T10, L10, k10, n10⟩, -, X10, ⟨Lc10, hQ10, l10, y10, z10⟩, st10⟩ := X9.specialBack hx (y := (⟨"com/example/vernacular/vernacular/Table$Column", "<init>", "(Ljava/lang/String;ILcom/example/vernacular/vernacular/Lineage;IZ)V"⟩ : MethodName)) rfl hown (mvT hZ (wd_33 hw)) (mvT hZ (wd_34 hw)) (mvT hZ (wd_35 hw)) (by decide) (backOf (W := 1) (rm7_N l Z a0 hw [] b9 b4 vi2 vi3 z6 .null (.int (0 : Int32)) .null (.int (0 : Int32)) (.int (0 : Int32)) h9 n0 (Nat.le_trans (Nat.le_trans (Nat.le_trans (Nat.le_trans (Nat.le_trans (Nat.le_trans Z0 E1.1) (Keep.of_wr W2).1) (Keep.of_wr W3).1) E4.1) p5_0.1) E9.1) (own_bit z6b) A9 F_name_b9 g_b9 F_position_b9 F_lineage_b9 F_inherited_b9 F_local_b9) hZ (wd_35 hw) (wd_32 hw) (by decide) (by decide)) (g := (mkF m 107 #[.val (.int vi0), .val (.int vi1), .val (.int vi2), .val (.int vi3), .val (.int vi4), .val (.ref b1), .val (.ref b4), .val (.int z6), .val (.int z7), .val (.int z8), .val .null, .unset, .unset] [(.int z6), (.int vi3), .null, (.int vi2), (.ref b4), (.ref b9), (.ref b9)])) rfl (by rw [hml]; rfl) (Steps.refl _) (a := b9) (argsL := [(.ref b4), (.int vi2), .null, (.int vi3), (.int z6)]) (rest := [(.ref b9)]) (lenOf pd_6 rfl) rfl (by show 2 * 0 + _ ≤ _; exact Nat.le_of_eq rfl) (hb hby at_107) (fun _ _ => ⟨rfl, e9, (by decide : 4 + 0 ≤ _), (by decide : 13 + 0 ≤ _)⟩)
  dsimp only [Pt.U, Pt.locs, Pt.cells, Pt.slots] at X10 l10 y10 z10 st10 hQ10
  subst l10 y10 z10
  obtain ⟨rfl, N10q, p10_0, p10_1, p10_2, p10_3, p10_4, p10_5⟩ := hQ10
  have N10 := Fr.app N5 N10q
  have K10 : Keep h0 T10.heap [] := K9.trans p10_0 (allS (Or.inr sz_b9) all0)
  obtain ⟨cq11, kq11, q11a, q11b, q11c⟩ := isOf hZ rfl (A9.keep p10_0)
  obtain ⟨_, _, ⟨T11, L11, k11, n11⟩, -, X11, ⟨Lc11, hQ11, l11, y11, z11⟩, st11⟩ := X10.virtualBack hx (y := (⟨"com/example/vernacular/vernacular/Table$Column", "inheriting", "(IZ)Lcom/example/vernacular/vernacular/Table$Column;"⟩ : MethodName)) (z := (⟨"com/example/vernacular/vernacular/Table$Column", "inheriting", "(IZ)Lcom/example/vernacular/vernacular/Table$Column;"⟩ : MethodName)) hown (mvT hZ (wd_52 hw)) (mvT hZ (wd_53 hw)) (notFace_of_selects (args := #[]) (mvT hZ (wd_55 hw))) (mvT hZ (wd_55 hw)) (mvT hZ (wd_54 hw)) (by decide) (backOf (W := 0) (rm9_N l Z a0 hw [] b9 z8 z7 b4 vi2 vi3 T10.heap n0 (Nat.le_trans (Nat.le_trans (Nat.le_trans (Nat.le_trans (Nat.le_trans (Nat.le_trans (Nat.le_trans Z0 E1.1) (Keep.of_wr W2).1) (Keep.of_wr W3).1) E4.1) p5_0.1) E9.1) p10_0.1) p10_1 p10_2 p10_3 p10_4 (own_bit z7b)) hZ (wd_56 hw) (wd_32 hw) (by decide) (by decide)) q11a q11c (g := (mkF m 118 #[.val (.int vi0), .val (.int vi1), .val (.int vi2), .val (.int vi3), .val (.int vi4), .val (.ref b1), .val (.ref b4), .val (.int z6), .val (.int z7), .val (.int z8), .val .null, .val (.ref b9), .unset] [(.int z7), (.int z8), (.ref b9)])) rfl (by rw [hml]; rfl) (Steps.refl _) (argsL := [(.int z8), (.int z7)]) (rest := []) (lenOf pd_7 rfl) rfl (by show 2 * 0 + _ ≤ _; exact Nat.le_of_eq rfl) (hb hby at_118) (fun _ _ => ⟨rfl, rfl, (by decide : 4 + 1 ≤ _), (by decide : 13 + 5 ≤ _)⟩)
  dsimp only [Pt.U, Pt.locs, Pt.cells, Pt.slots] at X11 l11 y11 z11 st11 hQ11
  subst l11 y11 z11
  obtain ⟨r11, rfl, N11q, p11_0, p11_1, p11_2, p11_3, p11_4, p11_5, p11_6, p11_7⟩ := hQ11
  have N11 := Fr.app N10 N11q
  have g_r11 : n0 ≤ r11 := Nat.le_trans (Nat.le_trans (Nat.le_trans (Nat.le_trans (Nat.le_trans (Nat.le_trans (Nat.le_trans (Nat.le_trans Z0 E1.1) (Keep.of_wr W2).1) (Keep.of_wr W3).1) E4.1) p5_0.1) E9.1) p10_0.1) p11_1
  have sz_r11 : h0.size ≤ r11 := Nat.le_trans K10.1 p11_1
  have K11 : Keep h0 T11.heap [] := K10.trans p11_0 all0
  obtain ⟨cq12, kq12, q12a, q12b, q12c⟩ := isOf hZ rfl p11_2
  obtain ⟨_, _, ⟨T12, L12, k12, n12⟩, -, X12, ⟨Lc12, hQ12, l12, y12, z12⟩, st12⟩ := X11.virtualBack hx (y := (⟨"com/example/vernacular/vernacular/Table$Column", "name", "()Ljava/lang/String;"⟩ : MethodName)) (z := (⟨"com/example/vernacular/vernacular/Table$Column", "name", "()Ljava/lang/String;"⟩ : MethodName)) hown (mvT hZ (wd_59 hw)) (mvT hZ (wd_60 hw)) (notFace_of_selects (args := #[]) (mvT hZ (wd_62 hw))) (mvT hZ (wd_62 hw)) (mvT hZ (wd_61 hw)) (by decide) (backOf (W := 0) (rm10 l Z a0 hw [] r11 b4 T11.heap n0 (Nat.le_trans (Nat.le_trans (Nat.le_trans (Nat.le_trans (Nat.le_trans (Nat.le_trans (Nat.le_trans (Nat.le_trans Z0 E1.1) (Keep.of_wr W2).1) (Keep.of_wr W3).1) E4.1) p5_0.1) E9.1) p10_0.1) p11_0.1) p11_3) hZ (wd_63 hw) (wd_32 hw) (by decide) (by decide)) q12a q12c (g := (mkF m 132 #[.val (.int vi0), .val (.int vi1), .val (.int vi2), .val (.int vi3), .val (.int vi4), .val (.ref b1), .val (.ref b4), .val (.int z6), .val (.int z7), .val (.int z8), .val .null, .val (.ref b9), .val (.ref r11)] [(.ref r11)])) rfl (by rw [hml]; rfl) (Steps.refl _) (argsL := []) (rest := []) (lenOf pd_8 rfl) rfl (by show 2 * 0 + _ ≤ _; exact Nat.le_of_eq rfl) (hb hby at_132) (fun _ _ => ⟨rfl, rfl, (by decide : 5 + 0 ≤ _), (by decide : 18 + 0 ≤ _)⟩)
  dsimp only [Pt.U, Pt.locs, Pt.cells, Pt.slots] at X12 l12 y12 z12 st12 hQ12
  subst l12 y12 z12
  obtain ⟨rfl, N12q, p12_0⟩ := hQ12
  have N12 := Fr.app N11 N12q
  have e12 : T12.heap = T11.heap := p12_0
  obtain ⟨cq13, kq13, q13a, q13b, q13c⟩ := isOf hZ e12 (((p5_1.ext E9).keep p10_0).keep p11_0)
  obtain ⟨_, _, ⟨T13, L13, k13, n13⟩, -, X13, ⟨Lc13, hQ13, l13, y13, z13⟩, st13⟩ := X12.virtualBack hx (y := (⟨"java/lang/String", "equals", "(Ljava/lang/Object;)Z"⟩ : MethodName)) (z := (⟨"java/lang/String", "equals", "(Ljava/lang/Object;)Z"⟩ : MethodName)) hown (mvT hZ (wd_64 hw)) (mvT hZ (wd_65 hw)) (notFace_of_selects (args := #[]) (mvT hZ (wd_67 hw))) (mvT hZ (wd_67 hw)) (mvT hZ (wd_66 hw)) (by decide) (backOf (W := 0) (rm11 l Z a0 hw [] b4 T11.heap n0 (Nat.le_trans (Nat.le_trans (Nat.le_trans (Nat.le_trans (Nat.le_trans (Nat.le_trans (Nat.le_trans (Nat.le_trans Z0 E1.1) (Keep.of_wr W2).1) (Keep.of_wr W3).1) E4.1) p5_0.1) E9.1) p10_0.1) p11_0.1) ) hZ (wd_68 hw) (wd_3 hw) (by decide) (by decide)) q13a q13c (g := (mkF m 137 #[.val (.int vi0), .val (.int vi1), .val (.int vi2), .val (.int vi3), .val (.int vi4), .val (.ref b1), .val (.ref b4), .val (.int z6), .val (.int z7), .val (.int z8), .val .null, .val (.ref b9), .val (.ref r11)] [(.ref b4), (.ref b4)])) rfl (by rw [hml]; rfl) (Steps.refl _) (argsL := [(.ref b4)]) (rest := []) (lenOf pd_9 rfl) rfl (by show 2 * 0 + _ ≤ _; exact Nat.le_of_eq rfl) (hb hby at_137) (fun _ _ => ⟨rfl, e12, (by decide : 5 + 0 ≤ _), (by decide : 18 + 0 ≤ _)⟩)
  dsimp only [Pt.U, Pt.locs, Pt.cells, Pt.slots] at X13 l13 y13 z13 st13 hQ13
  subst l13 y13 z13
  obtain ⟨rfl, N13q, p13_0⟩ := hQ13
  have N13 := Fr.app N12 N13q
  have e13 : T13.heap = T11.heap := p13_0
  obtain ⟨cq14, kq14, q14a, q14b, q14c⟩ := isOf hZ e13 p11_2
  obtain ⟨_, _, ⟨T14, L14, k14, n14⟩, -, X14, ⟨Lc14, hQ14, l14, y14, z14⟩, st14⟩ := X13.virtualBack hx (y := (⟨"com/example/vernacular/vernacular/Table$Column", "position", "()I"⟩ : MethodName)) (z := (⟨"com/example/vernacular/vernacular/Table$Column", "position", "()I"⟩ : MethodName)) hown (mvT hZ (wd_69 hw)) (mvT hZ (wd_70 hw)) (notFace_of_selects (args := #[]) (mvT hZ (wd_72 hw))) (mvT hZ (wd_72 hw)) (mvT hZ (wd_71 hw)) (by decide) (backOf (W := 0) (rm12 l Z a0 hw [] r11 vi2 T11.heap n0 (Nat.le_trans (Nat.le_trans (Nat.le_trans (Nat.le_trans (Nat.le_trans (Nat.le_trans (Nat.le_trans (Nat.le_trans Z0 E1.1) (Keep.of_wr W2).1) (Keep.of_wr W3).1) E4.1) p5_0.1) E9.1) p10_0.1) p11_0.1) p11_4) hZ (wd_73 hw) (wd_32 hw) (by decide) (by decide)) q14a q14c (g := (mkF m 145 #[.val (.int vi0), .val (.int vi1), .val (.int vi2), .val (.int vi3), .val (.int vi4), .val (.ref b1), .val (.ref b4), .val (.int z6), .val (.int z7), .val (.int z8), .val .null, .val (.ref b9), .val (.ref r11)] [(.ref r11)])) rfl (by rw [hml]; rfl) (Steps.refl _) (argsL := []) (rest := []) (lenOf pd_10 rfl) rfl (by show 2 * 0 + _ ≤ _; exact Nat.le_of_eq rfl) (hb hby at_145) (fun _ _ => ⟨rfl, e13, (by decide : 5 + 0 ≤ _), (by decide : 18 + 0 ≤ _)⟩)
  dsimp only [Pt.U, Pt.locs, Pt.cells, Pt.slots] at X14 l14 y14 z14 st14 hQ14
  subst l14 y14 z14
  obtain ⟨rfl, N14q, p14_0⟩ := hQ14
  have N14 := Fr.app N13 N14q
  have e14 : T14.heap = T11.heap := p14_0
  obtain ⟨cq15, kq15, q15a, q15b, q15c⟩ := isOf hZ e14 p11_2
  obtain ⟨_, _, ⟨T15, L15, k15, n15⟩, -, X15, ⟨Lc15, hQ15, l15, y15, z15⟩, st15⟩ := X14.virtualBack hx (y := (⟨"com/example/vernacular/vernacular/Table$Column", "lineage", "()Lcom/example/vernacular/vernacular/Lineage;"⟩ : MethodName)) (z := (⟨"com/example/vernacular/vernacular/Table$Column", "lineage", "()Lcom/example/vernacular/vernacular/Lineage;"⟩ : MethodName)) hown (mvT hZ (wd_74 hw)) (mvT hZ (wd_75 hw)) (notFace_of_selects (args := #[]) (mvT hZ (wd_77 hw))) (mvT hZ (wd_77 hw)) (mvT hZ (wd_76 hw)) (by decide) (backOf (W := 0) (rm13_N l Z a0 hw [] r11 T11.heap n0 (Nat.le_trans (Nat.le_trans (Nat.le_trans (Nat.le_trans (Nat.le_trans (Nat.le_trans (Nat.le_trans (Nat.le_trans Z0 E1.1) (Keep.of_wr W2).1) (Keep.of_wr W3).1) E4.1) p5_0.1) E9.1) p10_0.1) p11_0.1) p11_5) hZ (wd_78 hw) (wd_32 hw) (by decide) (by decide)) q15a q15c (g := (mkF m 154 #[.val (.int vi0), .val (.int vi1), .val (.int vi2), .val (.int vi3), .val (.int vi4), .val (.ref b1), .val (.ref b4), .val (.int z6), .val (.int z7), .val (.int z8), .val .null, .val (.ref b9), .val (.ref r11)] [(.ref r11)])) rfl (by rw [hml]; rfl) (Steps.refl _) (argsL := []) (rest := []) (lenOf pd_11 rfl) rfl (by show 2 * 0 + _ ≤ _; exact Nat.le_of_eq rfl) (hb hby at_154) (fun _ _ => ⟨rfl, e14, (by decide : 5 + 0 ≤ _), (by decide : 18 + 0 ≤ _)⟩)
  dsimp only [Pt.U, Pt.locs, Pt.cells, Pt.slots] at X15 l15 y15 z15 st15 hQ15
  subst l15 y15 z15
  obtain ⟨rfl, N15q, p15_0⟩ := hQ15
  have N15 := Fr.app N14 N15q
  have e15 : T15.heap = T11.heap := p15_0
  obtain ⟨cq16, kq16, q16a, q16b, q16c⟩ := isOf hZ e15 p11_2
  obtain ⟨_, _, ⟨T16, L16, k16, n16⟩, -, X16, ⟨Lc16, hQ16, l16, y16, z16⟩, st16⟩ := X15.virtualBack hx (y := (⟨"com/example/vernacular/vernacular/Table$Column", "inherited", "()I"⟩ : MethodName)) (z := (⟨"com/example/vernacular/vernacular/Table$Column", "inherited", "()I"⟩ : MethodName)) hown (mvT hZ (wd_79 hw)) (mvT hZ (wd_80 hw)) (notFace_of_selects (args := #[]) (mvT hZ (wd_82 hw))) (mvT hZ (wd_82 hw)) (mvT hZ (wd_81 hw)) (by decide) (backOf (W := 0) (rm14 l Z a0 hw [] r11 (vi3 + z8) T11.heap n0 (Nat.le_trans (Nat.le_trans (Nat.le_trans (Nat.le_trans (Nat.le_trans (Nat.le_trans (Nat.le_trans (Nat.le_trans Z0 E1.1) (Keep.of_wr W2).1) (Keep.of_wr W3).1) E4.1) p5_0.1) E9.1) p10_0.1) p11_0.1) p11_6) hZ (wd_83 hw) (wd_32 hw) (by decide) (by decide)) q16a q16c (g := (mkF m 164 #[.val (.int vi0), .val (.int vi1), .val (.int vi2), .val (.int vi3), .val (.int vi4), .val (.ref b1), .val (.ref b4), .val (.int z6), .val (.int z7), .val (.int z8), .val .null, .val (.ref b9), .val (.ref r11)] [(.ref r11)])) rfl (by rw [hml]; rfl) (Steps.refl _) (argsL := []) (rest := []) (lenOf pd_10 rfl) rfl (by show 2 * 0 + _ ≤ _; exact Nat.le_of_eq rfl) (hb hby at_164) (fun _ _ => ⟨rfl, e15, (by decide : 5 + 0 ≤ _), (by decide : 18 + 0 ≤ _)⟩)
  dsimp only [Pt.U, Pt.locs, Pt.cells, Pt.slots] at X16 l16 y16 z16 st16 hQ16
  subst l16 y16 z16
  obtain ⟨rfl, N16q, p16_0⟩ := hQ16
  have N16 := Fr.app N15 N16q
  have e16 : T16.heap = T11.heap := p16_0
  obtain ⟨cq17, kq17, q17a, q17b, q17c⟩ := isOf hZ e16 p11_2
  obtain ⟨_, _, ⟨T17, L17, k17, n17⟩, -, X17, ⟨Lc17, hQ17, l17, y17, z17⟩, st17⟩ := X16.virtualBack hx (y := (⟨"com/example/vernacular/vernacular/Table$Column", "local", "()Z"⟩ : MethodName)) (z := (⟨"com/example/vernacular/vernacular/Table$Column", "local", "()Z"⟩ : MethodName)) hown (mvT hZ (wd_84 hw)) (mvT hZ (wd_85 hw)) (notFace_of_selects (args := #[]) (mvT hZ (wd_87 hw))) (mvT hZ (wd_87 hw)) (mvT hZ (wd_86 hw)) (by decide) (backOf (W := 0) (rm15 l Z a0 hw [] r11 z7 T11.heap n0 (Nat.le_trans (Nat.le_trans (Nat.le_trans (Nat.le_trans (Nat.le_trans (Nat.le_trans (Nat.le_trans (Nat.le_trans Z0 E1.1) (Keep.of_wr W2).1) (Keep.of_wr W3).1) E4.1) p5_0.1) E9.1) p10_0.1) p11_0.1) (own_bit z7b) p11_7) hZ (wd_88 hw) (wd_32 hw) (by decide) (by decide)) q17a q17c (g := (mkF m 176 #[.val (.int vi0), .val (.int vi1), .val (.int vi2), .val (.int vi3), .val (.int vi4), .val (.ref b1), .val (.ref b4), .val (.int z6), .val (.int z7), .val (.int z8), .val .null, .val (.ref b9), .val (.ref r11)] [(.ref r11)])) rfl (by rw [hml]; rfl) (Steps.refl _) (argsL := []) (rest := []) (lenOf pd_12 rfl) rfl (by show 2 * 0 + _ ≤ _; exact Nat.le_of_eq rfl) (hb hby at_176) (fun _ _ => ⟨rfl, e16, (by decide : 5 + 0 ≤ _), (by decide : 18 + 0 ≤ _)⟩)
  dsimp only [Pt.U, Pt.locs, Pt.cells, Pt.slots] at X17 l17 y17 z17 st17 hQ17
  subst l17 y17 z17
  obtain ⟨rfl, N17q, p17_0⟩ := hQ17
  have N17 := Fr.app N16 N17q
  have e17 : T17.heap = T11.heap := p17_0
  obtain ⟨cq18, kq18, q18a, q18b, q18c⟩ := isOf hZ e17 ((A9.keep p10_0).keep p11_0)
  obtain ⟨_, _, ⟨T18, L18, k18, n18⟩, -, X18, ⟨Lc18, hQ18, l18, y18, z18⟩, st18⟩ := X17.virtualBack hx (y := (⟨"com/example/vernacular/vernacular/Table$Column", "inherited", "()I"⟩ : MethodName)) (z := (⟨"com/example/vernacular/vernacular/Table$Column", "inherited", "()I"⟩ : MethodName)) hown (mvT hZ (wd_79 hw)) (mvT hZ (wd_80 hw)) (notFace_of_selects (args := #[]) (mvT hZ (wd_82 hw))) (mvT hZ (wd_82 hw)) (mvT hZ (wd_81 hw)) (by decide) (backOf (W := 0) (rm14 l Z a0 hw [] b9 vi3 T11.heap n0 (Nat.le_trans (Nat.le_trans (Nat.le_trans (Nat.le_trans (Nat.le_trans (Nat.le_trans (Nat.le_trans (Nat.le_trans Z0 E1.1) (Keep.of_wr W2).1) (Keep.of_wr W3).1) E4.1) p5_0.1) E9.1) p10_0.1) p11_0.1) (p10_4.keep p11_0 nin0)) hZ (wd_83 hw) (wd_32 hw) (by decide) (by decide)) q18a q18c (g := (mkF m 186 #[.val (.int vi0), .val (.int vi1), .val (.int vi2), .val (.int vi3), .val (.int vi4), .val (.ref b1), .val (.ref b4), .val (.int z6), .val (.int z7), .val (.int z8), .val .null, .val (.ref b9), .val (.ref r11)] [(.ref b9)])) rfl (by rw [hml]; rfl) (Steps.refl _) (argsL := []) (rest := []) (lenOf pd_10 rfl) rfl (by show 2 * 0 + _ ≤ _; exact Nat.le_of_eq rfl) (hb hby at_186) (fun _ _ => ⟨rfl, e17, (by decide : 5 + 0 ≤ _), (by decide : 18 + 0 ≤ _)⟩)
  dsimp only [Pt.U, Pt.locs, Pt.cells, Pt.slots] at X18 l18 y18 z18 st18 hQ18
  subst l18 y18 z18
  obtain ⟨rfl, N18q, p18_0⟩ := hQ18
  have N18 := Fr.app N17 N18q
  have e18 : T18.heap = T11.heap := p18_0
  obtain ⟨cq19, kq19, q19a, q19b, q19c⟩ := isOf hZ e18 ((A9.keep p10_0).keep p11_0)
  obtain ⟨_, _, ⟨T19, L19, k19, n19⟩, -, X19, ⟨Lc19, hQ19, l19, y19, z19⟩, st19⟩ := X18.virtualBack hx (y := (⟨"com/example/vernacular/vernacular/Table$Column", "local", "()Z"⟩ : MethodName)) (z := (⟨"com/example/vernacular/vernacular/Table$Column", "local", "()Z"⟩ : MethodName)) hown (mvT hZ (wd_84 hw)) (mvT hZ (wd_85 hw)) (notFace_of_selects (args := #[]) (mvT hZ (wd_87 hw))) (mvT hZ (wd_87 hw)) (mvT hZ (wd_86 hw)) (by decide) (backOf (W := 0) (rm15 l Z a0 hw [] b9 z6 T11.heap n0 (Nat.le_trans (Nat.le_trans (Nat.le_trans (Nat.le_trans (Nat.le_trans (Nat.le_trans (Nat.le_trans (Nat.le_trans Z0 E1.1) (Keep.of_wr W2).1) (Keep.of_wr W3).1) E4.1) p5_0.1) E9.1) p10_0.1) p11_0.1) (own_bit z6b) (p10_5.keep p11_0 nin0)) hZ (wd_88 hw) (wd_32 hw) (by decide) (by decide)) q19a q19c (g := (mkF m 195 #[.val (.int vi0), .val (.int vi1), .val (.int vi2), .val (.int vi3), .val (.int vi4), .val (.ref b1), .val (.ref b4), .val (.int z6), .val (.int z7), .val (.int z8), .val .null, .val (.ref b9), .val (.ref r11)] [(.ref b9)])) rfl (by rw [hml]; rfl) (Steps.refl _) (argsL := []) (rest := []) (lenOf pd_12 rfl) rfl (by show 2 * 0 + _ ≤ _; exact Nat.le_of_eq rfl) (hb hby at_195) (fun _ _ => ⟨rfl, e18, (by decide : 5 + 0 ≤ _), (by decide : 18 + 0 ≤ _)⟩)
  dsimp only [Pt.U, Pt.locs, Pt.cells, Pt.slots] at X19 l19 y19 z19 st19 hQ19
  subst l19 y19 z19
  obtain ⟨rfl, N19q, p19_0⟩ := hQ19
  have N19 := Fr.app N18 N19q
  have e19 : T19.heap = T11.heap := p19_0
  obtain ⟨cq20, kq20, q20a, q20b, q20c⟩ := isOf hZ e19 ((A9.keep p10_0).keep p11_0)
  obtain ⟨_, _, ⟨T20, L20, k20, n20⟩, -, X20, ⟨Lc20, hQ20, l20, y20, z20⟩, st20⟩ := X19.virtualBack hx (y := (⟨"com/example/vernacular/vernacular/Table$Column", "position", "()I"⟩ : MethodName)) (z := (⟨"com/example/vernacular/vernacular/Table$Column", "position", "()I"⟩ : MethodName)) hown (mvT hZ (wd_69 hw)) (mvT hZ (wd_70 hw)) (notFace_of_selects (args := #[]) (mvT hZ (wd_72 hw))) (mvT hZ (wd_72 hw)) (mvT hZ (wd_71 hw)) (by decide) (backOf (W := 0) (rm12 l Z a0 hw [] b9 vi2 T11.heap n0 (Nat.le_trans (Nat.le_trans (Nat.le_trans (Nat.le_trans (Nat.le_trans (Nat.le_trans (Nat.le_trans (Nat.le_trans Z0 E1.1) (Keep.of_wr W2).1) (Keep.of_wr W3).1) E4.1) p5_0.1) E9.1) p10_0.1) p11_0.1) (p10_2.keep p11_0 nin0)) hZ (wd_73 hw) (wd_32 hw) (by decide) (by decide)) q20a q20c (g := (mkF m 205 #[.val (.int vi0), .val (.int vi1), .val (.int vi2), .val (.int vi3), .val (.int vi4), .val (.ref b1), .val (.ref b4), .val (.int z6), .val (.int z7), .val (.int z8), .val .null, .val (.ref b9), .val (.ref r11)] [(.ref b9)])) rfl (by rw [hml]; rfl) (Steps.refl _) (argsL := []) (rest := []) (lenOf pd_10 rfl) rfl (by show 2 * 0 + _ ≤ _; exact Nat.le_of_eq rfl) (hb hby at_205) (fun _ _ => ⟨rfl, e19, (by decide : 5 + 0 ≤ _), (by decide : 18 + 0 ≤ _)⟩)
  dsimp only [Pt.U, Pt.locs, Pt.cells, Pt.slots] at X20 l20 y20 z20 st20 hQ20
  subst l20 y20 z20
  obtain ⟨rfl, N20q, p20_0⟩ := hQ20
  have N20 := Fr.app N19 N20q
  have e20 : T20.heap = T11.heap := p20_0
  obtain ⟨fs, hr, hrun, hended, hW, hsame⟩ := X20.leave (v := some (.int (1 : Int32))) (fun h => by rw [Bd.returns] at h; cases h)
  refine ⟨_, _, pre0 _ ?_, hrun, hended, _, _, rfl, ?_, ⟨_, rfl⟩, hW, hsame.mono (by decide) (by decide)⟩
  · show Steps p.tables e below (s₁.setTop (mkF m 0 #[.val (.int vi0), .val (.int vi1), .val (.int vi2), .val (.int vi3), .val (.int vi4), .unset, .unset, .unset, .unset, .unset, .unset, .unset, .unset] [])) _
    refine XS.iconst X0.here hx rfl (hb hby at_0) ?_
    show Steps p.tables e below (s₁.setTop (mkF m 1 #[.val (.int vi0), .val (.int vi1), .val (.int vi2), .val (.int vi3), .val (.int vi4), .unset, .unset, .unset, .unset, .unset, .unset, .unset, .unset] [(.int (2 : Int32))])) _
    refine st1 _ ?_
    show Steps p.tables e below (T1.setTop (mkF m 3 #[.val (.int vi0), .val (.int vi1), .val (.int vi2), .val (.int vi3), .val (.int vi4), .unset, .unset, .unset, .unset, .unset, .unset, .unset, .unset] [(.ref b1)])) _
    refine XS.astore X1.here hx rfl (hb hby at_3) rfl rfl (l' := #[.val (.int vi0), .val (.int vi1), .val (.int vi2), .val (.int vi3), .val (.int vi4), .val (.ref b1), .unset, .unset, .unset, .unset, .unset, .unset, .unset]) rfl ?_
    show Steps p.tables e below (T1.setTop (mkF m 5 #[.val (.int vi0), .val (.int vi1), .val (.int vi2), .val (.int vi3), .val (.int vi4), .val (.ref b1), .unset, .unset, .unset, .unset, .unset, .unset, .unset] [])) _
    refine XS.aload X1.here hx rfl (hb hby at_5) rfl rfl ?_
    show Steps p.tables e below (T1.setTop (mkF m 7 #[.val (.int vi0), .val (.int vi1), .val (.int vi2), .val (.int vi3), .val (.int vi4), .val (.ref b1), .unset, .unset, .unset, .unset, .unset, .unset, .unset] [(.ref b1)])) _
    refine XS.iconst X1.here hx rfl (hb hby at_7) ?_
    show Steps p.tables e below (T1.setTop (mkF m 8 #[.val (.int vi0), .val (.int vi1), .val (.int vi2), .val (.int vi3), .val (.int vi4), .val (.ref b1), .unset, .unset, .unset, .unset, .unset, .unset, .unset] [(.int (0 : Int32)), (.ref b1)])) _
    refine XS.iloadN X1.here hx rfl (hb hby at_8) rfl ?_
    show Steps p.tables e below (T1.setTop (mkF m 9 #[.val (.int vi0), .val (.int vi1), .val (.int vi2), .val (.int vi3), .val (.int vi4), .val (.ref b1), .unset, .unset, .unset, .unset, .unset, .unset, .unset] [(.int vi0), (.int (0 : Int32)), (.ref b1)])) _
    refine XS.sipush X1.here hx rfl (hb hby at_9) ?_
    show Steps p.tables e below (T1.setTop (mkF m 12 #[.val (.int vi0), .val (.int vi1), .val (.int vi2), .val (.int vi3), .val (.int vi4), .val (.ref b1), .unset, .unset, .unset, .unset, .unset, .unset, .unset] [(.int (255 : Int32)), (.int vi0), (.int (0 : Int32)), (.ref b1)])) _
    refine XS.iand X1.here hx rfl (hb hby at_12) rfl ?_
    show Steps p.tables e below (T1.setTop (mkF m 13 #[.val (.int vi0), .val (.int vi1), .val (.int vi2), .val (.int vi3), .val (.int vi4), .val (.ref b1), .unset, .unset, .unset, .unset, .unset, .unset, .unset] [(.int (vi0 &&& (255 : Int32))), (.int (0 : Int32)), (.ref b1)])) _
    refine XS.i2c X1.here hx rfl (hb hby at_13) rfl ?_
    show Steps p.tables e below (T1.setTop (mkF m 14 #[.val (.int vi0), .val (.int vi1), .val (.int vi2), .val (.int vi3), .val (.int vi4), .val (.ref b1), .unset, .unset, .unset, .unset, .unset, .unset, .unset] [(.int ((vi0 &&& (255 : Int32)).toUInt32.toUInt16.toUInt32.toInt32)), (.int (0 : Int32)), (.ref b1)])) _
    refine st2 _ ?_
    show Steps p.tables e below (T2.setTop (mkF m 15 #[.val (.int vi0), .val (.int vi1), .val (.int vi2), .val (.int vi3), .val (.int vi4), .val (.ref b1), .unset, .unset, .unset, .unset, .unset, .unset, .unset] [])) _
    refine XS.aload X2.here hx rfl (hb hby at_15) rfl rfl ?_
    show Steps p.tables e below (T2.setTop (mkF m 17 #[.val (.int vi0), .val (.int vi1), .val (.int vi2), .val (.int vi3), .val (.int vi4), .val (.ref b1), .unset, .unset, .unset, .unset, .unset, .unset, .unset] [(.ref b1)])) _
    refine XS.iconst X2.here hx rfl (hb hby at_17) ?_
    show Steps p.tables e below (T2.setTop (mkF m 18 #[.val (.int vi0), .val (.int vi1), .val (.int vi2), .val (.int vi3), .val (.int vi4), .val (.ref b1), .unset, .unset, .unset, .unset, .unset, .unset, .unset] [(.int (1 : Int32)), (.ref b1)])) _
    refine XS.iloadN X2.here hx rfl (hb hby at_18) rfl ?_
    show Steps p.tables e below (T2.setTop (mkF m 19 #[.val (.int vi0), .val (.int vi1), .val (.int vi2), .val (.int vi3), .val (.int vi4), .val (.ref b1), .unset, .unset, .unset, .unset, .unset, .unset, .unset] [(.int vi1), (.int (1 : Int32)), (.ref b1)])) _
    refine XS.sipush X2.here hx rfl (hb hby at_19) ?_
    show Steps p.tables e below (T2.setTop (mkF m 22 #[.val (.int vi0), .val (.int vi1), .val (.int vi2), .val (.int vi3), .val (.int vi4), .val (.ref b1), .unset, .unset, .unset, .unset, .unset, .unset, .unset] [(.int (255 : Int32)), (.int vi1), (.int (1 : Int32)), (.ref b1)])) _
    refine XS.iand X2.here hx rfl (hb hby at_22) rfl ?_
    show Steps p.tables e below (T2.setTop (mkF m 23 #[.val (.int vi0), .val (.int vi1), .val (.int vi2), .val (.int vi3), .val (.int vi4), .val (.ref b1), .unset, .unset, .unset, .unset, .unset, .unset, .unset] [(.int (vi1 &&& (255 : Int32))), (.int (1 : Int32)), (.ref b1)])) _
    refine XS.i2c X2.here hx rfl (hb hby at_23) rfl ?_
    show Steps p.tables e below (T2.setTop (mkF m 24 #[.val (.int vi0), .val (.int vi1), .val (.int vi2), .val (.int vi3), .val (.int vi4), .val (.ref b1), .unset, .unset, .unset, .unset, .unset, .unset, .unset] [(.int ((vi1 &&& (255 : Int32)).toUInt32.toUInt16.toUInt32.toInt32)), (.int (1 : Int32)), (.ref b1)])) _
    refine st3 _ ?_
    show Steps p.tables e below (T3.setTop (mkF m 25 #[.val (.int vi0), .val (.int vi1), .val (.int vi2), .val (.int vi3), .val (.int vi4), .val (.ref b1), .unset, .unset, .unset, .unset, .unset, .unset, .unset] [])) _
    refine st4 _ ?_
    show Steps p.tables e below (T4.setTop (mkF m 28 #[.val (.int vi0), .val (.int vi1), .val (.int vi2), .val (.int vi3), .val (.int vi4), .val (.ref b1), .unset, .unset, .unset, .unset, .unset, .unset, .unset] [(.ref b4)])) _
    refine XS.dup X4.here hx rfl (hb hby at_28) rfl rfl ?_
    show Steps p.tables e below (T4.setTop (mkF m 29 #[.val (.int vi0), .val (.int vi1), .val (.int vi2), .val (.int vi3), .val (.int vi4), .val (.ref b1), .unset, .unset, .unset, .unset, .unset, .unset, .unset] [(.ref b4), (.ref b4)])) _
    refine XS.aload X4.here hx rfl (hb hby at_29) rfl rfl ?_
    show Steps p.tables e below (T4.setTop (mkF m 31 #[.val (.int vi0), .val (.int vi1), .val (.int vi2), .val (.int vi3), .val (.int vi4), .val (.ref b1), .unset, .unset, .unset, .unset, .unset, .unset, .unset] [(.ref b1), (.ref b4), (.ref b4)])) _
    refine st5.trans ?_
    show Steps p.tables e below (T5.setTop (mkF m 34 #[.val (.int vi0), .val (.int vi1), .val (.int vi2), .val (.int vi3), .val (.int vi4), .val (.ref b1), .unset, .unset, .unset, .unset, .unset, .unset, .unset] [(.ref b4)])) _
    refine XS.astore X5.here hx rfl (hb hby at_34) rfl rfl (l' := #[.val (.int vi0), .val (.int vi1), .val (.int vi2), .val (.int vi3), .val (.int vi4), .val (.ref b1), .val (.ref b4), .unset, .unset, .unset, .unset, .unset, .unset]) rfl ?_
    show Steps p.tables e below (T5.setTop (mkF m 36 #[.val (.int vi0), .val (.int vi1), .val (.int vi2), .val (.int vi3), .val (.int vi4), .val (.ref b1), .val (.ref b4), .unset, .unset, .unset, .unset, .unset, .unset] [])) _
    refine XS.iload X5.here hx rfl (hb hby at_36) rfl ?_
    show Steps p.tables e below (T5.setTop (mkF m 38 #[.val (.int vi0), .val (.int vi1), .val (.int vi2), .val (.int vi3), .val (.int vi4), .val (.ref b1), .val (.ref b4), .unset, .unset, .unset, .unset, .unset, .unset] [(.int vi4)])) _
    refine XS.iconst X5.here hx rfl (hb hby at_38) ?_
    show Steps p.tables e below (T5.setTop (mkF m 39 #[.val (.int vi0), .val (.int vi1), .val (.int vi2), .val (.int vi3), .val (.int vi4), .val (.ref b1), .val (.ref b4), .unset, .unset, .unset, .unset, .unset, .unset] [(.int (1 : Int32)), (.int vi4)])) _
    refine XS.iand X5.here hx rfl (hb hby at_39) rfl ?_
    show Steps p.tables e below (T5.setTop (mkF m 40 #[.val (.int vi0), .val (.int vi1), .val (.int vi2), .val (.int vi3), .val (.int vi4), .val (.ref b1), .val (.ref b4), .unset, .unset, .unset, .unset, .unset, .unset] [(.int (vi4 &&& (1 : Int32)))])) _
    refine (show ∀ t, Steps p.tables e below (T5.setTop (mkF m 48 #[.val (.int vi0), .val (.int vi1), .val (.int vi2), .val (.int vi3), .val (.int vi4), .val (.ref b1), .val (.ref b4), .unset, .unset, .unset, .unset, .unset, .unset] [(.int z6)])) t → Steps p.tables e below (T5.setTop (mkF m 40 #[.val (.int vi0), .val (.int vi1), .val (.int vi2), .val (.int vi3), .val (.int vi4), .val (.ref b1), .val (.ref b4), .unset, .unset, .unset, .unset, .unset, .unset] [(.int (vi4 &&& (1 : Int32)))])) t from fun t kt => ?_) _ ?_
    · by_cases hq : (vi4 &&& (1 : Int32)) = (0 : Int32)
      · rw [z6t hq] at kt
        refine XS.ifYes X5.here hx rfl (pc0 := 40) (pc' := 47) rfl (hb hby at_40) rfl ((if0 _ _).trans (teq hq).1) (by decide) (by decide) ?_
        show Steps p.tables e below (T5.setTop (mkF m 47 #[.val (.int vi0), .val (.int vi1), .val (.int vi2), .val (.int vi3), .val (.int vi4), .val (.ref b1), .val (.ref b4), .unset, .unset, .unset, .unset, .unset, .unset] [])) _
        refine XS.iconst X5.here hx rfl (hb hby at_47) ?_
        show Steps p.tables e below (T5.setTop (mkF m 48 #[.val (.int vi0), .val (.int vi1), .val (.int vi2), .val (.int vi3), .val (.int vi4), .val (.ref b1), .val (.ref b4), .unset, .unset, .unset, .unset, .unset, .unset] [(.int (0 : Int32))])) _
        exact kt
      · rw [z6f hq] at kt
        refine XS.ifNo X5.here hx rfl (hb hby at_40) rfl ((if0 _ _).trans (feq hq).1) ?_
        show Steps p.tables e below (T5.setTop (mkF m 43 #[.val (.int vi0), .val (.int vi1), .val (.int vi2), .val (.int vi3), .val (.int vi4), .val (.ref b1), .val (.ref b4), .unset, .unset, .unset, .unset, .unset, .unset] [])) _
        refine XS.iconst X5.here hx rfl (hb hby at_43) ?_
        show Steps p.tables e below (T5.setTop (mkF m 44 #[.val (.int vi0), .val (.int vi1), .val (.int vi2), .val (.int vi3), .val (.int vi4), .val (.ref b1), .val (.ref b4), .unset, .unset, .unset, .unset, .unset, .unset] [(.int (1 : Int32))])) _
        refine XS.goto X5.here hx rfl (pc0 := 44) (pc' := 48) rfl (hb hby at_44) (by decide) (by decide) ?_
        show Steps p.tables e below (T5.setTop (mkF m 48 #[.val (.int vi0), .val (.int vi1), .val (.int vi2), .val (.int vi3), .val (.int vi4), .val (.ref b1), .val (.ref b4), .unset, .unset, .unset, .unset, .unset, .unset] [(.int (1 : Int32))])) _
        exact kt
    show Steps p.tables e below (T5.setTop (mkF m 48 #[.val (.int vi0), .val (.int vi1), .val (.int vi2), .val (.int vi3), .val (.int vi4), .val (.ref b1), .val (.ref b4), .unset, .unset, .unset, .unset, .unset, .unset] [(.int z6)])) _
    refine XS.istore X5.here hx rfl (hb hby at_48) rfl (l' := #[.val (.int vi0), .val (.int vi1), .val (.int vi2), .val (.int vi3), .val (.int vi4), .val (.ref b1), .val (.ref b4), .val (.int z6), .unset, .unset, .unset, .unset, .unset]) rfl ?_
    show Steps p.tables e below (T5.setTop (mkF m 50 #[.val (.int vi0), .val (.int vi1), .val (.int vi2), .val (.int vi3), .val (.int vi4), .val (.ref b1), .val (.ref b4), .val (.int z6), .unset, .unset, .unset, .unset, .unset] [])) _
    refine XS.iload X5.here hx rfl (hb hby at_50) rfl ?_
    show Steps p.tables e below (T5.setTop (mkF m 52 #[.val (.int vi0), .val (.int vi1), .val (.int vi2), .val (.int vi3), .val (.int vi4), .val (.ref b1), .val (.ref b4), .val (.int z6), .unset, .unset, .unset, .unset, .unset] [(.int vi4)])) _
    refine XS.iconst X5.here hx rfl (hb hby at_52) ?_
    show Steps p.tables e below (T5.setTop (mkF m 53 #[.val (.int vi0), .val (.int vi1), .val (.int vi2), .val (.int vi3), .val (.int vi4), .val (.ref b1), .val (.ref b4), .val (.int z6), .unset, .unset, .unset, .unset, .unset] [(.int (2 : Int32)), (.int vi4)])) _
    refine XS.iand X5.here hx rfl (hb hby at_53) rfl ?_
    show Steps p.tables e below (T5.setTop (mkF m 54 #[.val (.int vi0), .val (.int vi1), .val (.int vi2), .val (.int vi3), .val (.int vi4), .val (.ref b1), .val (.ref b4), .val (.int z6), .unset, .unset, .unset, .unset, .unset] [(.int (vi4 &&& (2 : Int32)))])) _
    refine (show ∀ t, Steps p.tables e below (T5.setTop (mkF m 62 #[.val (.int vi0), .val (.int vi1), .val (.int vi2), .val (.int vi3), .val (.int vi4), .val (.ref b1), .val (.ref b4), .val (.int z6), .unset, .unset, .unset, .unset, .unset] [(.int z7)])) t → Steps p.tables e below (T5.setTop (mkF m 54 #[.val (.int vi0), .val (.int vi1), .val (.int vi2), .val (.int vi3), .val (.int vi4), .val (.ref b1), .val (.ref b4), .val (.int z6), .unset, .unset, .unset, .unset, .unset] [(.int (vi4 &&& (2 : Int32)))])) t from fun t kt => ?_) _ ?_
    · by_cases hq : (vi4 &&& (2 : Int32)) = (0 : Int32)
      · rw [z7t hq] at kt
        refine XS.ifYes X5.here hx rfl (pc0 := 54) (pc' := 61) rfl (hb hby at_54) rfl ((if0 _ _).trans (teq hq).1) (by decide) (by decide) ?_
        show Steps p.tables e below (T5.setTop (mkF m 61 #[.val (.int vi0), .val (.int vi1), .val (.int vi2), .val (.int vi3), .val (.int vi4), .val (.ref b1), .val (.ref b4), .val (.int z6), .unset, .unset, .unset, .unset, .unset] [])) _
        refine XS.iconst X5.here hx rfl (hb hby at_61) ?_
        show Steps p.tables e below (T5.setTop (mkF m 62 #[.val (.int vi0), .val (.int vi1), .val (.int vi2), .val (.int vi3), .val (.int vi4), .val (.ref b1), .val (.ref b4), .val (.int z6), .unset, .unset, .unset, .unset, .unset] [(.int (0 : Int32))])) _
        exact kt
      · rw [z7f hq] at kt
        refine XS.ifNo X5.here hx rfl (hb hby at_54) rfl ((if0 _ _).trans (feq hq).1) ?_
        show Steps p.tables e below (T5.setTop (mkF m 57 #[.val (.int vi0), .val (.int vi1), .val (.int vi2), .val (.int vi3), .val (.int vi4), .val (.ref b1), .val (.ref b4), .val (.int z6), .unset, .unset, .unset, .unset, .unset] [])) _
        refine XS.iconst X5.here hx rfl (hb hby at_57) ?_
        show Steps p.tables e below (T5.setTop (mkF m 58 #[.val (.int vi0), .val (.int vi1), .val (.int vi2), .val (.int vi3), .val (.int vi4), .val (.ref b1), .val (.ref b4), .val (.int z6), .unset, .unset, .unset, .unset, .unset] [(.int (1 : Int32))])) _
        refine XS.goto X5.here hx rfl (pc0 := 58) (pc' := 62) rfl (hb hby at_58) (by decide) (by decide) ?_
        show Steps p.tables e below (T5.setTop (mkF m 62 #[.val (.int vi0), .val (.int vi1), .val (.int vi2), .val (.int vi3), .val (.int vi4), .val (.ref b1), .val (.ref b4), .val (.int z6), .unset, .unset, .unset, .unset, .unset] [(.int (1 : Int32))])) _
        exact kt
    show Steps p.tables e below (T5.setTop (mkF m 62 #[.val (.int vi0), .val (.int vi1), .val (.int vi2), .val (.int vi3), .val (.int vi4), .val (.ref b1), .val (.ref b4), .val (.int z6), .unset, .unset, .unset, .unset, .unset] [(.int z7)])) _
    refine XS.istore X5.here hx rfl (hb hby at_62) rfl (l' := #[.val (.int vi0), .val (.int vi1), .val (.int vi2), .val (.int vi3), .val (.int vi4), .val (.ref b1), .val (.ref b4), .val (.int z6), .val (.int z7), .unset, .unset, .unset, .unset]) rfl ?_
    show Steps p.tables e below (T5.setTop (mkF m 64 #[.val (.int vi0), .val (.int vi1), .val (.int vi2), .val (.int vi3), .val (.int vi4), .val (.ref b1), .val (.ref b4), .val (.int z6), .val (.int z7), .unset, .unset, .unset, .unset] [])) _
    refine XS.iload X5.here hx rfl (hb hby at_64) rfl ?_
    show Steps p.tables e below (T5.setTop (mkF m 66 #[.val (.int vi0), .val (.int vi1), .val (.int vi2), .val (.int vi3), .val (.int vi4), .val (.ref b1), .val (.ref b4), .val (.int z6), .val (.int z7), .unset, .unset, .unset, .unset] [(.int vi4)])) _
    refine XS.iconst X5.here hx rfl (hb hby at_66) ?_
    show Steps p.tables e below (T5.setTop (mkF m 67 #[.val (.int vi0), .val (.int vi1), .val (.int vi2), .val (.int vi3), .val (.int vi4), .val (.ref b1), .val (.ref b4), .val (.int z6), .val (.int z7), .unset, .unset, .unset, .unset] [(.int (4 : Int32)), (.int vi4)])) _
    refine XS.iand X5.here hx rfl (hb hby at_67) rfl ?_
    show Steps p.tables e below (T5.setTop (mkF m 68 #[.val (.int vi0), .val (.int vi1), .val (.int vi2), .val (.int vi3), .val (.int vi4), .val (.ref b1), .val (.ref b4), .val (.int z6), .val (.int z7), .unset, .unset, .unset, .unset] [(.int (vi4 &&& (4 : Int32)))])) _
    refine (show ∀ t, Steps p.tables e below (T5.setTop (mkF m 76 #[.val (.int vi0), .val (.int vi1), .val (.int vi2), .val (.int vi3), .val (.int vi4), .val (.ref b1), .val (.ref b4), .val (.int z6), .val (.int z7), .unset, .unset, .unset, .unset] [(.int z8)])) t → Steps p.tables e below (T5.setTop (mkF m 68 #[.val (.int vi0), .val (.int vi1), .val (.int vi2), .val (.int vi3), .val (.int vi4), .val (.ref b1), .val (.ref b4), .val (.int z6), .val (.int z7), .unset, .unset, .unset, .unset] [(.int (vi4 &&& (4 : Int32)))])) t from fun t kt => ?_) _ ?_
    · by_cases hq : (vi4 &&& (4 : Int32)) = (0 : Int32)
      · rw [z8t hq] at kt
        refine XS.ifYes X5.here hx rfl (pc0 := 68) (pc' := 75) rfl (hb hby at_68) rfl ((if0 _ _).trans (teq hq).1) (by decide) (by decide) ?_
        show Steps p.tables e below (T5.setTop (mkF m 75 #[.val (.int vi0), .val (.int vi1), .val (.int vi2), .val (.int vi3), .val (.int vi4), .val (.ref b1), .val (.ref b4), .val (.int z6), .val (.int z7), .unset, .unset, .unset, .unset] [])) _
        refine XS.iconst X5.here hx rfl (hb hby at_75) ?_
        show Steps p.tables e below (T5.setTop (mkF m 76 #[.val (.int vi0), .val (.int vi1), .val (.int vi2), .val (.int vi3), .val (.int vi4), .val (.ref b1), .val (.ref b4), .val (.int z6), .val (.int z7), .unset, .unset, .unset, .unset] [(.int (-1 : Int32))])) _
        exact kt
      · rw [z8f hq] at kt
        refine XS.ifNo X5.here hx rfl (hb hby at_68) rfl ((if0 _ _).trans (feq hq).1) ?_
        show Steps p.tables e below (T5.setTop (mkF m 71 #[.val (.int vi0), .val (.int vi1), .val (.int vi2), .val (.int vi3), .val (.int vi4), .val (.ref b1), .val (.ref b4), .val (.int z6), .val (.int z7), .unset, .unset, .unset, .unset] [])) _
        refine XS.iconst X5.here hx rfl (hb hby at_71) ?_
        show Steps p.tables e below (T5.setTop (mkF m 72 #[.val (.int vi0), .val (.int vi1), .val (.int vi2), .val (.int vi3), .val (.int vi4), .val (.ref b1), .val (.ref b4), .val (.int z6), .val (.int z7), .unset, .unset, .unset, .unset] [(.int (1 : Int32))])) _
        refine XS.goto X5.here hx rfl (pc0 := 72) (pc' := 76) rfl (hb hby at_72) (by decide) (by decide) ?_
        show Steps p.tables e below (T5.setTop (mkF m 76 #[.val (.int vi0), .val (.int vi1), .val (.int vi2), .val (.int vi3), .val (.int vi4), .val (.ref b1), .val (.ref b4), .val (.int z6), .val (.int z7), .unset, .unset, .unset, .unset] [(.int (1 : Int32))])) _
        exact kt
    show Steps p.tables e below (T5.setTop (mkF m 76 #[.val (.int vi0), .val (.int vi1), .val (.int vi2), .val (.int vi3), .val (.int vi4), .val (.ref b1), .val (.ref b4), .val (.int z6), .val (.int z7), .unset, .unset, .unset, .unset] [(.int z8)])) _
    refine XS.istore X5.here hx rfl (hb hby at_76) rfl (l' := #[.val (.int vi0), .val (.int vi1), .val (.int vi2), .val (.int vi3), .val (.int vi4), .val (.ref b1), .val (.ref b4), .val (.int z6), .val (.int z7), .val (.int z8), .unset, .unset, .unset]) rfl ?_
    show Steps p.tables e below (T5.setTop (mkF m 78 #[.val (.int vi0), .val (.int vi1), .val (.int vi2), .val (.int vi3), .val (.int vi4), .val (.ref b1), .val (.ref b4), .val (.int z6), .val (.int z7), .val (.int z8), .unset, .unset, .unset] [])) _
    refine XS.iload X5.here hx rfl (hb hby at_78) rfl ?_
    show Steps p.tables e below (T5.setTop (mkF m 80 #[.val (.int vi0), .val (.int vi1), .val (.int vi2), .val (.int vi3), .val (.int vi4), .val (.ref b1), .val (.ref b4), .val (.int z6), .val (.int z7), .val (.int z8), .unset, .unset, .unset] [(.int vi4)])) _
    refine XS.bipush X5.here hx rfl (hb hby at_80) ?_
    show Steps p.tables e below (T5.setTop (mkF m 82 #[.val (.int vi0), .val (.int vi1), .val (.int vi2), .val (.int vi3), .val (.int vi4), .val (.ref b1), .val (.ref b4), .val (.int z6), .val (.int z7), .val (.int z8), .unset, .unset, .unset] [(.int (8 : Int32)), (.int vi4)])) _
    refine XS.iand X5.here hx rfl (hb hby at_82) rfl ?_
    show Steps p.tables e below (T5.setTop (mkF m 83 #[.val (.int vi0), .val (.int vi1), .val (.int vi2), .val (.int vi3), .val (.int vi4), .val (.ref b1), .val (.ref b4), .val (.int z6), .val (.int z7), .val (.int z8), .unset, .unset, .unset] [(.int (vi4 &&& (8 : Int32)))])) _
    refine XS.ifYes X5.here hx rfl (pc0 := 83) (pc' := 92) rfl (hb hby at_83) rfl ((if0 _ _).trans (teq hc83).1) (by decide) (by decide) ?_
    show Steps p.tables e below (T5.setTop (mkF m 92 #[.val (.int vi0), .val (.int vi1), .val (.int vi2), .val (.int vi3), .val (.int vi4), .val (.ref b1), .val (.ref b4), .val (.int z6), .val (.int z7), .val (.int z8), .unset, .unset, .unset] [])) _
    refine XS.aconstNull X5.here hx rfl (hb hby at_92) ?_
    show Steps p.tables e below (T5.setTop (mkF m 93 #[.val (.int vi0), .val (.int vi1), .val (.int vi2), .val (.int vi3), .val (.int vi4), .val (.ref b1), .val (.ref b4), .val (.int z6), .val (.int z7), .val (.int z8), .unset, .unset, .unset] [.null])) _
    refine XS.astore X5.here hx rfl (hb hby at_93) rfl rfl (l' := #[.val (.int vi0), .val (.int vi1), .val (.int vi2), .val (.int vi3), .val (.int vi4), .val (.ref b1), .val (.ref b4), .val (.int z6), .val (.int z7), .val (.int z8), .val .null, .unset, .unset]) rfl ?_
    show Steps p.tables e below (T5.setTop (mkF m 95 #[.val (.int vi0), .val (.int vi1), .val (.int vi2), .val (.int vi3), .val (.int vi4), .val (.ref b1), .val (.ref b4), .val (.int z6), .val (.int z7), .val (.int z8), .val .null, .unset, .unset] [])) _
    refine st9 _ ?_
    show Steps p.tables e below (T9.setTop (mkF m 98 #[.val (.int vi0), .val (.int vi1), .val (.int vi2), .val (.int vi3), .val (.int vi4), .val (.ref b1), .val (.ref b4), .val (.int z6), .val (.int z7), .val (.int z8), .val .null, .unset, .unset] [(.ref b9)])) _
    refine XS.dup X9.here hx rfl (hb hby at_98) rfl rfl ?_
    show Steps p.tables e below (T9.setTop (mkF m 99 #[.val (.int vi0), .val (.int vi1), .val (.int vi2), .val (.int vi3), .val (.int vi4), .val (.ref b1), .val (.ref b4), .val (.int z6), .val (.int z7), .val (.int z8), .val .null, .unset, .unset] [(.ref b9), (.ref b9)])) _
    refine XS.aload X9.here hx rfl (hb hby at_99) rfl rfl ?_
    show Steps p.tables e below (T9.setTop (mkF m 101 #[.val (.int vi0), .val (.int vi1), .val (.int vi2), .val (.int vi3), .val (.int vi4), .val (.ref b1), .val (.ref b4), .val (.int z6), .val (.int z7), .val (.int z8), .val .null, .unset, .unset] [(.ref b4), (.ref b9), (.ref b9)])) _
    refine XS.iloadN X9.here hx rfl (hb hby at_101) rfl ?_
    show Steps p.tables e below (T9.setTop (mkF m 102 #[.val (.int vi0), .val (.int vi1), .val (.int vi2), .val (.int vi3), .val (.int vi4), .val (.ref b1), .val (.ref b4), .val (.int z6), .val (.int z7), .val (.int z8), .val .null, .unset, .unset] [(.int vi2), (.ref b4), (.ref b9), (.ref b9)])) _
    refine XS.aload X9.here hx rfl (hb hby at_102) rfl rfl ?_
    show Steps p.tables e below (T9.setTop (mkF m 104 #[.val (.int vi0), .val (.int vi1), .val (.int vi2), .val (.int vi3), .val (.int vi4), .val (.ref b1), .val (.ref b4), .val (.int z6), .val (.int z7), .val (.int z8), .val .null, .unset, .unset] [.null, (.int vi2), (.ref b4), (.ref b9), (.ref b9)])) _
    refine XS.iloadN X9.here hx rfl (hb hby at_104) rfl ?_
    show Steps p.tables e below (T9.setTop (mkF m 105 #[.val (.int vi0), .val (.int vi1), .val (.int vi2), .val (.int vi3), .val (.int vi4), .val (.ref b1), .val (.ref b4), .val (.int z6), .val (.int z7), .val (.int z8), .val .null, .unset, .unset] [(.int vi3), .null, (.int vi2), (.ref b4), (.ref b9), (.ref b9)])) _
    refine XS.iload X9.here hx rfl (hb hby at_105) rfl ?_
    show Steps p.tables e below (T9.setTop (mkF m 107 #[.val (.int vi0), .val (.int vi1), .val (.int vi2), .val (.int vi3), .val (.int vi4), .val (.ref b1), .val (.ref b4), .val (.int z6), .val (.int z7), .val (.int z8), .val .null, .unset, .unset] [(.int z6), (.int vi3), .null, (.int vi2), (.ref b4), (.ref b9), (.ref b9)])) _
    refine st10.trans ?_
    show Steps p.tables e below (T10.setTop (mkF m 110 #[.val (.int vi0), .val (.int vi1), .val (.int vi2), .val (.int vi3), .val (.int vi4), .val (.ref b1), .val (.ref b4), .val (.int z6), .val (.int z7), .val (.int z8), .val .null, .unset, .unset] [(.ref b9)])) _
    refine XS.astore X10.here hx rfl (hb hby at_110) rfl rfl (l' := #[.val (.int vi0), .val (.int vi1), .val (.int vi2), .val (.int vi3), .val (.int vi4), .val (.ref b1), .val (.ref b4), .val (.int z6), .val (.int z7), .val (.int z8), .val .null, .val (.ref b9), .unset]) rfl ?_
    show Steps p.tables e below (T10.setTop (mkF m 112 #[.val (.int vi0), .val (.int vi1), .val (.int vi2), .val (.int vi3), .val (.int vi4), .val (.ref b1), .val (.ref b4), .val (.int z6), .val (.int z7), .val (.int z8), .val .null, .val (.ref b9), .unset] [])) _
    refine XS.aload X10.here hx rfl (hb hby at_112) rfl rfl ?_
    show Steps p.tables e below (T10.setTop (mkF m 114 #[.val (.int vi0), .val (.int vi1), .val (.int vi2), .val (.int vi3), .val (.int vi4), .val (.ref b1), .val (.ref b4), .val (.int z6), .val (.int z7), .val (.int z8), .val .null, .val (.ref b9), .unset] [(.ref b9)])) _
    refine XS.iload X10.here hx rfl (hb hby at_114) rfl ?_
    show Steps p.tables e below (T10.setTop (mkF m 116 #[.val (.int vi0), .val (.int vi1), .val (.int vi2), .val (.int vi3), .val (.int vi4), .val (.ref b1), .val (.ref b4), .val (.int z6), .val (.int z7), .val (.int z8), .val .null, .val (.ref b9), .unset] [(.int z8), (.ref b9)])) _
    refine XS.iload X10.here hx rfl (hb hby at_116) rfl ?_
    show Steps p.tables e below (T10.setTop (mkF m 118 #[.val (.int vi0), .val (.int vi1), .val (.int vi2), .val (.int vi3), .val (.int vi4), .val (.ref b1), .val (.ref b4), .val (.int z6), .val (.int z7), .val (.int z8), .val .null, .val (.ref b9), .unset] [(.int z7), (.int z8), (.ref b9)])) _
    refine st11.trans ?_
    show Steps p.tables e below (T11.setTop (mkF m 121 #[.val (.int vi0), .val (.int vi1), .val (.int vi2), .val (.int vi3), .val (.int vi4), .val (.ref b1), .val (.ref b4), .val (.int z6), .val (.int z7), .val (.int z8), .val .null, .val (.ref b9), .unset] [(.ref r11)])) _
    refine XS.astore X11.here hx rfl (hb hby at_121) rfl rfl (l' := #[.val (.int vi0), .val (.int vi1), .val (.int vi2), .val (.int vi3), .val (.int vi4), .val (.ref b1), .val (.ref b4), .val (.int z6), .val (.int z7), .val (.int z8), .val .null, .val (.ref b9), .val (.ref r11)]) rfl ?_
    show Steps p.tables e below (T11.setTop (mkF m 123 #[.val (.int vi0), .val (.int vi1), .val (.int vi2), .val (.int vi3), .val (.int vi4), .val (.ref b1), .val (.ref b4), .val (.int z6), .val (.int z7), .val (.int z8), .val .null, .val (.ref b9), .val (.ref r11)] [])) _
    refine XS.aload X11.here hx rfl (hb hby at_123) rfl rfl ?_
    show Steps p.tables e below (T11.setTop (mkF m 125 #[.val (.int vi0), .val (.int vi1), .val (.int vi2), .val (.int vi3), .val (.int vi4), .val (.ref b1), .val (.ref b4), .val (.int z6), .val (.int z7), .val (.int z8), .val .null, .val (.ref b9), .val (.ref r11)] [(.ref r11)])) _
    refine XS.ifnonnullYes X11.here hx rfl (pc0 := 125) (pc' := 130) rfl (hb hby at_125) rfl (by decide) (by decide) ?_
    show Steps p.tables e below (T11.setTop (mkF m 130 #[.val (.int vi0), .val (.int vi1), .val (.int vi2), .val (.int vi3), .val (.int vi4), .val (.ref b1), .val (.ref b4), .val (.int z6), .val (.int z7), .val (.int z8), .val .null, .val (.ref b9), .val (.ref r11)] [])) _
    refine XS.aload X11.here hx rfl (hb hby at_130) rfl rfl ?_
    show Steps p.tables e below (T11.setTop (mkF m 132 #[.val (.int vi0), .val (.int vi1), .val (.int vi2), .val (.int vi3), .val (.int vi4), .val (.ref b1), .val (.ref b4), .val (.int z6), .val (.int z7), .val (.int z8), .val .null, .val (.ref b9), .val (.ref r11)] [(.ref r11)])) _
    refine st12.trans ?_
    show Steps p.tables e below (T12.setTop (mkF m 135 #[.val (.int vi0), .val (.int vi1), .val (.int vi2), .val (.int vi3), .val (.int vi4), .val (.ref b1), .val (.ref b4), .val (.int z6), .val (.int z7), .val (.int z8), .val .null, .val (.ref b9), .val (.ref r11)] [(.ref b4)])) _
    refine XS.aload X12.here hx rfl (hb hby at_135) rfl rfl ?_
    show Steps p.tables e below (T12.setTop (mkF m 137 #[.val (.int vi0), .val (.int vi1), .val (.int vi2), .val (.int vi3), .val (.int vi4), .val (.ref b1), .val (.ref b4), .val (.int z6), .val (.int z7), .val (.int z8), .val .null, .val (.ref b9), .val (.ref r11)] [(.ref b4), (.ref b4)])) _
    refine st13.trans ?_
    show Steps p.tables e below (T13.setTop (mkF m 140 #[.val (.int vi0), .val (.int vi1), .val (.int vi2), .val (.int vi3), .val (.int vi4), .val (.ref b1), .val (.ref b4), .val (.int z6), .val (.int z7), .val (.int z8), .val .null, .val (.ref b9), .val (.ref r11)] [(.int (1 : Int32))])) _
    refine XS.ifNo X13.here hx rfl (hb hby at_140) rfl ((if0 _ _).trans (feq (by decide : ¬ ((1 : Int32) = (0 : Int32)))).1) ?_
    show Steps p.tables e below (T13.setTop (mkF m 143 #[.val (.int vi0), .val (.int vi1), .val (.int vi2), .val (.int vi3), .val (.int vi4), .val (.ref b1), .val (.ref b4), .val (.int z6), .val (.int z7), .val (.int z8), .val .null, .val (.ref b9), .val (.ref r11)] [])) _
    refine XS.aload X13.here hx rfl (hb hby at_143) rfl rfl ?_
    show Steps p.tables e below (T13.setTop (mkF m 145 #[.val (.int vi0), .val (.int vi1), .val (.int vi2), .val (.int vi3), .val (.int vi4), .val (.ref b1), .val (.ref b4), .val (.int z6), .val (.int z7), .val (.int z8), .val .null, .val (.ref b9), .val (.ref r11)] [(.ref r11)])) _
    refine st14.trans ?_
    show Steps p.tables e below (T14.setTop (mkF m 148 #[.val (.int vi0), .val (.int vi1), .val (.int vi2), .val (.int vi3), .val (.int vi4), .val (.ref b1), .val (.ref b4), .val (.int z6), .val (.int z7), .val (.int z8), .val .null, .val (.ref b9), .val (.ref r11)] [(.int vi2)])) _
    refine XS.iloadN X14.here hx rfl (hb hby at_148) rfl ?_
    show Steps p.tables e below (T14.setTop (mkF m 149 #[.val (.int vi0), .val (.int vi1), .val (.int vi2), .val (.int vi3), .val (.int vi4), .val (.ref b1), .val (.ref b4), .val (.int z6), .val (.int z7), .val (.int z8), .val .null, .val (.ref b9), .val (.ref r11)] [(.int vi2), (.int vi2)])) _
    refine XS.icmpNo X14.here hx rfl (hb hby at_149) rfl (teq (rfl : vi2 = vi2)).2 ?_
    show Steps p.tables e below (T14.setTop (mkF m 152 #[.val (.int vi0), .val (.int vi1), .val (.int vi2), .val (.int vi3), .val (.int vi4), .val (.ref b1), .val (.ref b4), .val (.int z6), .val (.int z7), .val (.int z8), .val .null, .val (.ref b9), .val (.ref r11)] [])) _
    refine XS.aload X14.here hx rfl (hb hby at_152) rfl rfl ?_
    show Steps p.tables e below (T14.setTop (mkF m 154 #[.val (.int vi0), .val (.int vi1), .val (.int vi2), .val (.int vi3), .val (.int vi4), .val (.ref b1), .val (.ref b4), .val (.int z6), .val (.int z7), .val (.int z8), .val .null, .val (.ref b9), .val (.ref r11)] [(.ref r11)])) _
    refine st15.trans ?_
    show Steps p.tables e below (T15.setTop (mkF m 157 #[.val (.int vi0), .val (.int vi1), .val (.int vi2), .val (.int vi3), .val (.int vi4), .val (.ref b1), .val (.ref b4), .val (.int z6), .val (.int z7), .val (.int z8), .val .null, .val (.ref b9), .val (.ref r11)] [.null])) _
    refine XS.aload X15.here hx rfl (hb hby at_157) rfl rfl ?_
    show Steps p.tables e below (T15.setTop (mkF m 159 #[.val (.int vi0), .val (.int vi1), .val (.int vi2), .val (.int vi3), .val (.int vi4), .val (.ref b1), .val (.ref b4), .val (.int z6), .val (.int z7), .val (.int z8), .val .null, .val (.ref b9), .val (.ref r11)] [.null, .null])) _
    refine Jvm.RoadKit.acmp (g := (mkF m 159 #[.val (.int vi0), .val (.int vi1), .val (.int vi2), .val (.int vi3), .val (.int vi4), .val (.ref b1), .val (.ref b4), .val (.int z6), .val (.int z7), .val (.int z8), .val .null, .val (.ref b9), .val (.ref r11)] [.null, .null])) X15 hx rfl rfl rfl (pc0 := 159) (pc' := 162) (same := true) rfl (hb hby at_159) rfl (decide_eq_true rfl) (by decide) (by decide) ?_
    show Steps p.tables e below (T15.setTop (mkF m 162 #[.val (.int vi0), .val (.int vi1), .val (.int vi2), .val (.int vi3), .val (.int vi4), .val (.ref b1), .val (.ref b4), .val (.int z6), .val (.int z7), .val (.int z8), .val .null, .val (.ref b9), .val (.ref r11)] [])) _
    refine XS.aload X15.here hx rfl (hb hby at_162) rfl rfl ?_
    show Steps p.tables e below (T15.setTop (mkF m 164 #[.val (.int vi0), .val (.int vi1), .val (.int vi2), .val (.int vi3), .val (.int vi4), .val (.ref b1), .val (.ref b4), .val (.int z6), .val (.int z7), .val (.int z8), .val .null, .val (.ref b9), .val (.ref r11)] [(.ref r11)])) _
    refine st16.trans ?_
    show Steps p.tables e below (T16.setTop (mkF m 167 #[.val (.int vi0), .val (.int vi1), .val (.int vi2), .val (.int vi3), .val (.int vi4), .val (.ref b1), .val (.ref b4), .val (.int z6), .val (.int z7), .val (.int z8), .val .null, .val (.ref b9), .val (.ref r11)] [(.int (vi3 + z8))])) _
    refine XS.iloadN X16.here hx rfl (hb hby at_167) rfl ?_
    show Steps p.tables e below (T16.setTop (mkF m 168 #[.val (.int vi0), .val (.int vi1), .val (.int vi2), .val (.int vi3), .val (.int vi4), .val (.ref b1), .val (.ref b4), .val (.int z6), .val (.int z7), .val (.int z8), .val .null, .val (.ref b9), .val (.ref r11)] [(.int vi3), (.int (vi3 + z8))])) _
    refine XS.iload X16.here hx rfl (hb hby at_168) rfl ?_
    show Steps p.tables e below (T16.setTop (mkF m 170 #[.val (.int vi0), .val (.int vi1), .val (.int vi2), .val (.int vi3), .val (.int vi4), .val (.ref b1), .val (.ref b4), .val (.int z6), .val (.int z7), .val (.int z8), .val .null, .val (.ref b9), .val (.ref r11)] [(.int z8), (.int vi3), (.int (vi3 + z8))])) _
    refine XS.iadd X16.here hx rfl (hb hby at_170) rfl ?_
    show Steps p.tables e below (T16.setTop (mkF m 171 #[.val (.int vi0), .val (.int vi1), .val (.int vi2), .val (.int vi3), .val (.int vi4), .val (.ref b1), .val (.ref b4), .val (.int z6), .val (.int z7), .val (.int z8), .val .null, .val (.ref b9), .val (.ref r11)] [(.int (vi3 + z8)), (.int (vi3 + z8))])) _
    refine XS.icmpNo X16.here hx rfl (hb hby at_171) rfl (teq (rfl : (vi3 + z8) = (vi3 + z8))).2 ?_
    show Steps p.tables e below (T16.setTop (mkF m 174 #[.val (.int vi0), .val (.int vi1), .val (.int vi2), .val (.int vi3), .val (.int vi4), .val (.ref b1), .val (.ref b4), .val (.int z6), .val (.int z7), .val (.int z8), .val .null, .val (.ref b9), .val (.ref r11)] [])) _
    refine XS.aload X16.here hx rfl (hb hby at_174) rfl rfl ?_
    show Steps p.tables e below (T16.setTop (mkF m 176 #[.val (.int vi0), .val (.int vi1), .val (.int vi2), .val (.int vi3), .val (.int vi4), .val (.ref b1), .val (.ref b4), .val (.int z6), .val (.int z7), .val (.int z8), .val .null, .val (.ref b9), .val (.ref r11)] [(.ref r11)])) _
    refine st17.trans ?_
    show Steps p.tables e below (T17.setTop (mkF m 179 #[.val (.int vi0), .val (.int vi1), .val (.int vi2), .val (.int vi3), .val (.int vi4), .val (.ref b1), .val (.ref b4), .val (.int z6), .val (.int z7), .val (.int z8), .val .null, .val (.ref b9), .val (.ref r11)] [(.int z7)])) _
    refine XS.iload X17.here hx rfl (hb hby at_179) rfl ?_
    show Steps p.tables e below (T17.setTop (mkF m 181 #[.val (.int vi0), .val (.int vi1), .val (.int vi2), .val (.int vi3), .val (.int vi4), .val (.ref b1), .val (.ref b4), .val (.int z6), .val (.int z7), .val (.int z8), .val .null, .val (.ref b9), .val (.ref r11)] [(.int z7), (.int z7)])) _
    refine XS.icmpNo X17.here hx rfl (hb hby at_181) rfl (teq (rfl : z7 = z7)).2 ?_
    show Steps p.tables e below (T17.setTop (mkF m 184 #[.val (.int vi0), .val (.int vi1), .val (.int vi2), .val (.int vi3), .val (.int vi4), .val (.ref b1), .val (.ref b4), .val (.int z6), .val (.int z7), .val (.int z8), .val .null, .val (.ref b9), .val (.ref r11)] [])) _
    refine XS.aload X17.here hx rfl (hb hby at_184) rfl rfl ?_
    show Steps p.tables e below (T17.setTop (mkF m 186 #[.val (.int vi0), .val (.int vi1), .val (.int vi2), .val (.int vi3), .val (.int vi4), .val (.ref b1), .val (.ref b4), .val (.int z6), .val (.int z7), .val (.int z8), .val .null, .val (.ref b9), .val (.ref r11)] [(.ref b9)])) _
    refine st18.trans ?_
    show Steps p.tables e below (T18.setTop (mkF m 189 #[.val (.int vi0), .val (.int vi1), .val (.int vi2), .val (.int vi3), .val (.int vi4), .val (.ref b1), .val (.ref b4), .val (.int z6), .val (.int z7), .val (.int z8), .val .null, .val (.ref b9), .val (.ref r11)] [(.int vi3)])) _
    refine XS.iloadN X18.here hx rfl (hb hby at_189) rfl ?_
    show Steps p.tables e below (T18.setTop (mkF m 190 #[.val (.int vi0), .val (.int vi1), .val (.int vi2), .val (.int vi3), .val (.int vi4), .val (.ref b1), .val (.ref b4), .val (.int z6), .val (.int z7), .val (.int z8), .val .null, .val (.ref b9), .val (.ref r11)] [(.int vi3), (.int vi3)])) _
    refine XS.icmpNo X18.here hx rfl (hb hby at_190) rfl (teq (rfl : vi3 = vi3)).2 ?_
    show Steps p.tables e below (T18.setTop (mkF m 193 #[.val (.int vi0), .val (.int vi1), .val (.int vi2), .val (.int vi3), .val (.int vi4), .val (.ref b1), .val (.ref b4), .val (.int z6), .val (.int z7), .val (.int z8), .val .null, .val (.ref b9), .val (.ref r11)] [])) _
    refine XS.aload X18.here hx rfl (hb hby at_193) rfl rfl ?_
    show Steps p.tables e below (T18.setTop (mkF m 195 #[.val (.int vi0), .val (.int vi1), .val (.int vi2), .val (.int vi3), .val (.int vi4), .val (.ref b1), .val (.ref b4), .val (.int z6), .val (.int z7), .val (.int z8), .val .null, .val (.ref b9), .val (.ref r11)] [(.ref b9)])) _
    refine st19.trans ?_
    show Steps p.tables e below (T19.setTop (mkF m 198 #[.val (.int vi0), .val (.int vi1), .val (.int vi2), .val (.int vi3), .val (.int vi4), .val (.ref b1), .val (.ref b4), .val (.int z6), .val (.int z7), .val (.int z8), .val .null, .val (.ref b9), .val (.ref r11)] [(.int z6)])) _
    refine XS.iload X19.here hx rfl (hb hby at_198) rfl ?_
    show Steps p.tables e below (T19.setTop (mkF m 200 #[.val (.int vi0), .val (.int vi1), .val (.int vi2), .val (.int vi3), .val (.int vi4), .val (.ref b1), .val (.ref b4), .val (.int z6), .val (.int z7), .val (.int z8), .val .null, .val (.ref b9), .val (.ref r11)] [(.int z6), (.int z6)])) _
    refine XS.icmpNo X19.here hx rfl (hb hby at_200) rfl (teq (rfl : z6 = z6)).2 ?_
    show Steps p.tables e below (T19.setTop (mkF m 203 #[.val (.int vi0), .val (.int vi1), .val (.int vi2), .val (.int vi3), .val (.int vi4), .val (.ref b1), .val (.ref b4), .val (.int z6), .val (.int z7), .val (.int z8), .val .null, .val (.ref b9), .val (.ref r11)] [])) _
    refine XS.aload X19.here hx rfl (hb hby at_203) rfl rfl ?_
    show Steps p.tables e below (T19.setTop (mkF m 205 #[.val (.int vi0), .val (.int vi1), .val (.int vi2), .val (.int vi3), .val (.int vi4), .val (.ref b1), .val (.ref b4), .val (.int z6), .val (.int z7), .val (.int z8), .val .null, .val (.ref b9), .val (.ref r11)] [(.ref b9)])) _
    refine st20.trans ?_
    show Steps p.tables e below (T20.setTop (mkF m 208 #[.val (.int vi0), .val (.int vi1), .val (.int vi2), .val (.int vi3), .val (.int vi4), .val (.ref b1), .val (.ref b4), .val (.int z6), .val (.int z7), .val (.int z8), .val .null, .val (.ref b9), .val (.ref r11)] [(.int vi2)])) _
    refine XS.iloadN X20.here hx rfl (hb hby at_208) rfl ?_
    show Steps p.tables e below (T20.setTop (mkF m 209 #[.val (.int vi0), .val (.int vi1), .val (.int vi2), .val (.int vi3), .val (.int vi4), .val (.ref b1), .val (.ref b4), .val (.int z6), .val (.int z7), .val (.int z8), .val .null, .val (.ref b9), .val (.ref r11)] [(.int vi2), (.int vi2)])) _
    refine XS.icmpNo X20.here hx rfl (hb hby at_209) rfl (teq (rfl : vi2 = vi2)).2 ?_
    show Steps p.tables e below (T20.setTop (mkF m 212 #[.val (.int vi0), .val (.int vi1), .val (.int vi2), .val (.int vi3), .val (.int vi4), .val (.ref b1), .val (.ref b4), .val (.int z6), .val (.int z7), .val (.int z8), .val .null, .val (.ref b9), .val (.ref r11)] [])) _
    refine XS.iconst X20.here hx rfl (hb hby at_212) ?_
    show Steps p.tables e below (T20.setTop (mkF m 213 #[.val (.int vi0), .val (.int vi1), .val (.int vi2), .val (.int vi3), .val (.int vi4), .val (.ref b1), .val (.ref b4), .val (.int z6), .val (.int z7), .val (.int z8), .val .null, .val (.ref b9), .val (.ref r11)] [(.int (1 : Int32))])) _
    refine XS.goto X20.here hx rfl (pc0 := 213) (pc' := 217) rfl (hb hby at_213) (by decide) (by decide) ?_
    show Steps p.tables e below (T20.setTop (mkF m 217 #[.val (.int vi0), .val (.int vi1), .val (.int vi2), .val (.int vi3), .val (.int vi4), .val (.ref b1), .val (.ref b4), .val (.int z6), .val (.int z7), .val (.int z8), .val .null, .val (.ref b9), .val (.ref r11)] [(.int (1 : Int32))])) _
    exact retN X20 hx (t := .boolean) Bd.returns (by simp) (hb hby at_217) hr
  · show Q0_N Z vi0 vi1 vi2 vi3 vi4 w_COMPACT_STRINGS h0 n0 _ T20.heap _
    rw [e20]
    exact ⟨rfl, N20⟩
set_option maxRecDepth 65536 in
theorem rmL (l : Launch) (Z : State) (a0 : Array Value) (hw : ∀ d ∈ tables_1, d.before a0 Z = true) (ws : List Jvm.Cond) (vi0 : Int32) (vi1 : Int32) (vi2 : Int32) (vi3 : Int32) (vi4 : Int32) (w_COMPACT_STRINGS : Int32) (w_NONE : Addr) (h0 : Heap) (n0 : Nat) (Z0 : n0 ≤ h0.size) (S_COMPACT_STRINGS : Sta Z Z.heap "java/lang/String" "COMPACT_STRINGS" "Z" (.int w_COMPACT_STRINGS)) (hG : ¬ (w_COMPACT_STRINGS = (0 : Int32))) (O0 : Old Z n0 h0) (S_NONE : Sta Z Z.heap "com/example/vernacular/vernacular/Lineage" "NONE" "Lcom/example/vernacular/vernacular/Lineage;" (.ref w_NONE)) :
    MetFree l x (head1 (Jvm.Cond.code x code maxLocals ret :: ws) room_1) (fun a U => a = #[(.int vi0), (.int vi1), (.int vi2), (.int vi3), (.int vi4)] ∧ Z.Warmed39 U.vm ∧ U.heap = h0) (fun _ _ _ _ _ => True) (fun _ U o U' => ∃ v L, o = .returned v ∧ (v = some (.int (1 : Int32)) ∧ Fr n0 L) ∧ FrameEnd U o U' L room_1.cells room_1.slots) := by
  by_cases cN : (vi4 &&& (8 : Int32)) = (0 : Int32)
  · exact rm0_N l Z a0 hw ws vi0 vi1 vi2 vi3 vi4 w_COMPACT_STRINGS h0 n0 Z0 S_COMPACT_STRINGS hG O0 cN
  · exact rm0_R l Z a0 hw ws vi0 vi1 vi2 vi3 vi4 w_COMPACT_STRINGS w_NONE h0 n0 Z0 S_COMPACT_STRINGS hG O0 cN S_NONE
theorem wd_90 {Z : State} {a0 : Array Value} (hw : ∀ d ∈ tables_1, d.before a0 Z = true) : ((Jvm.Cond.initialized "com/example/vernacular/vernacular/Lineage")).before a0 Z = true := hw _ (List.mem_of_getElem? (i := 90) rfl)
theorem wd_91 {Z : State} {a0 : Array Value} (hw : ∀ d ∈ tables_1, d.before a0 Z = true) : ((Jvm.Cond.laysStatic "com/example/vernacular/vernacular/Lineage" "NONE" "Lcom/example/vernacular/vernacular/Lineage;")).before a0 Z = true := hw _ (List.mem_of_getElem? (i := 91) rfl)
set_option maxRecDepth 65536 in
set_option maxHeartbeats 40000000 in
theorem comes_1 {Post : Tables → Env → Array Value → State → Outcome → State → Prop} (hpost : ∀ tb e args s v u, (limb_1_1.after args s (.returned v) u = true ∧ limb_1_2.after args s (.returned v) u = true ∧ True) → FrameEnd s (.returned v) u (Jvm.fieldLocs frame_1_writes args s ++ Jvm.arrayLocs frame_1_arrays args s ++ Jvm.staticLocs frame_1_statics s) 24 128 → Post tb e args s (.returned v) u) :
    ArmFor flags0 classFile x code maxLocals ret World_1 tables_1 room_1 Calls_1 rest_1 Pre_1 Post := by
  intro l hfl _ _ p e ha hc hk s m args below hf hA hF happ hP
  obtain ⟨hcalls, hrest, hpre⟩ := hP
  obtain ⟨-, -, -, hnamed, -, -, -, hat⟩ := (Spec.applies_iff hf).mp happ
  obtain ⟨hg, hn⟩ := and_e (Cond.before_iff.mp (show (Jvm.Cond.and given_1 narrow_1).before args s = true from hpre))
  obtain ⟨gc, hg⟩ := and_e hg
  obtain ⟨ga0, hg⟩ := and_e hg
  obtain ⟨ga1, hg⟩ := and_e hg
  obtain ⟨ga2, hg⟩ := and_e hg
  obtain ⟨ga3, hg⟩ := and_e hg
  have ga4 := hg
  obtain ⟨w0, w1, w2, w3, w4, rfl⟩ : ∃ w0 w1 w2 w3 w4 : Value, args = #[w0, w1, w2, w3, w4] := by
    have hs : args.size = 5 := by simpa [Cond.value, given_1] using gc
    obtain ⟨L⟩ := args
    match L, hs with
    | [w0, w1, w2, w3, w4], _ => exact ⟨w0, w1, w2, w3, w4, rfl⟩
  have hw := fun d (hd : d ∈ tables_1) => atoms_spec (ws := Jvm.Cond.code x code maxLocals ret :: tables_1) hat d (List.mem_cons_of_mem _ hd)
  obtain ⟨hsets, hown0⟩ := atoms_of _ (rest_1_c_eq ▸ (show rest_1_c.before _ s = true from hrest))
  obtain ⟨i0, ei0⟩ := is_v ga0
  obtain rfl : w0 = (.int i0) := Option.some.inj ei0
  obtain ⟨i1, ei1⟩ := is_v ga1
  obtain rfl : w1 = (.int i1) := Option.some.inj ei1
  obtain ⟨i2, ei2⟩ := is_v ga2
  obtain rfl : w2 = (.int i2) := Option.some.inj ei2
  obtain ⟨i3, ei3⟩ := is_v ga3
  obtain rfl : w3 = (.int i3) := Option.some.inj ei3
  obtain ⟨i4, ei4⟩ := is_v ga4
  obtain rfl : w4 = (.int i4) := Option.some.inj ei4
  have h_0 := hn
  obtain ⟨a_NONE, e_NONE⟩ := exa_v h_0
  have S_NONE : Sta s s.heap "com/example/vernacular/vernacular/Lineage" "NONE" "Lcom/example/vernacular/vernacular/Lineage;" (.ref a_NONE) := Sta.start e_NONE (Or.inr ⟨(wd_90 hw), (wd_91 hw)⟩)
  have E_NONE : Exa s s.heap a_NONE "com/example/vernacular/vernacular/Lineage" := Exa.start e_NONE h_0
  have n3 := not_v (Cond.before_iff.mp (hsets _ (List.mem_of_getElem? (i := 2) rfl)))
  obtain ⟨iG, eG⟩ := is_v (Cond.before_iff.mp (hsets _ (List.mem_of_getElem? (i := 1) rfl)))
  have SG : Sta s s.heap "java/lang/String" "COMPACT_STRINGS" "Z" (.int iG) := Sta.start eG (Or.inl (hsets _ (List.mem_of_getElem? (i := 0) rfl)))
  have hG : ¬ (iG = (0 : Int32)) := gotF (Cond.eq_ints eG (Term.int_eval (0))) n3
  obtain ⟨n, o, h1, h2, h3, _, L, rfl, ⟨rfl, N⟩, hq⟩ := rmL l s _ hw tables_1 i0 i1 i2 i3 i4 iG a_NONE s.heap s.heap.size (Nat.le_refl _) SG hG (Old.start s) S_NONE p e ha hc hk s m _ below hf ((Spec.applies_iff_loose hf).mp happ).1 ⟨rfl, State.Warmed39.refl s, rfl⟩ trivial
  refine ⟨n, _, h1, h2, h3, hpost _ _ _ _ _ _ ⟨Cond.after_iff.mpr rfl, Cond.after_iff.mpr (eq_i res_at (Term.int_eval (1)) rfl), trivial⟩ ⟨hq.1, hq.2.1, (hq.2.2.sift fun y hy => Or.inr (N y hy)).mono (by decide) (by decide)⟩⟩
theorem main_1_1 : Claimed_1_1 := comes_1 fun _ _ _ _ _ _ h hF => ⟨h.1, hF⟩
theorem main_1_2 : Claimed_1_2 := comes_1 fun _ _ _ _ _ _ h hF => ⟨h.2.1, hF⟩
end Jvm.Pilot.@@N@@
namespace Jvm.Pilot.@@N@@
open Jvm Jvm.ClassFile Sem Op Lib Jvm.Free Jvm.Stand Jvm.Pilot.@@N@@.Jvm.D
/-! MADE BY PROGRAM (witnessworld.py) out of the Statement's table words and the real class files: 22 classes; the members and pool entries that the words name. The judged class is class 1, her method 1. -/
namespace start1
open Jvm.ClassFile
def u (s : String) : CpInfo := .utf8 (stringToUtf16 s)
/-- a pool by its gaps: so many unusable entries, then the entry; so many at the end -/
def gap : Nat → List CpInfo → List CpInfo
  | 0, r => r
  | n + 1, r => .unusable :: gap n r
def poolList (es : List (Nat × CpInfo)) (last : Nat) : List CpInfo := es.foldr (fun e r => gap e.1 (e.2 :: r)) (gap last [])
def pool (es : List (Nat × CpInfo)) (last : Nat) : Array CpInfo := ⟨poolList es last⟩
def fileOf (pool : Array CpInfo) (this : Nat) (attrs : Array Attribute := #[]) (ms : Array MethodInfo := #[]) (fl : Nat := 33) (sup : Nat := 0) (ifs : Array Nat := #[]) (fds : Array FieldInfo := #[]) : ClassFile where
  minorVersion := 0
  majorVersion := 65
  constantPool := pool
  accessFlags := fl
  thisClass := this
  superClass := sup
  interfaces := ifs
  fields := fds
  methods := ms
  attributes := attrs
def plain (name : String) (sup : Option ClassId) : Class where
  name := name
  kind := .ordinary
  loader := none
  accessFlags := 33
  super := sup
  interfaces := #[]
  cf := none
  fields := #[]
  methods := #[]
  instanceTypes := #[]
  staticTypes := #[]
  resolved := #[]
  callSites := []
  init := .initialized
  statics := none
  mirror := none

def pool0 : Array CpInfo := pool [(5, u "<init>"), (0, u "()V"), (1, .class_ 10), (1, u "java/lang/Object")] 113

def k0c0 : Code := { maxStack := 0, maxLocals := 1, code := object_method_1_code, exceptionTable := #[], attributes := #[] }
def k0m0 : Method := { name := "<init>", desc := "()V", sig := { parameters := [], returnType := none }, accessFlags := 1, code := some k0c0 }
/-- java/lang/Object -/
def k0 : Class := { plain "java/lang/Object" none with
  accessFlags := 33
  interfaces := #[]
  cf := some (fileOf pool0 8 #[] #[{ accessFlags := 1, nameIndex := 5, descriptorIndex := 6, attributes := #[] }] 33 0 #[] #[])
  fields := #[]
  methods := #[k0m0]
  instanceTypes := #[]
  staticTypes := #[]
  resolved := Array.replicate 124 none
  statics := none }

def pool1 : Array CpInfo := pool [(2, .class_ 4), (1, u "java/lang/Object"), (0, u "<init>"), (0, u "()V"), (0, .class_ 8), (0, u "java/lang/String"), (0, .methodref 7 10), (0, .nameAndType 5 11), (0, u "([C)V"), (0, .fieldref 13 14), (0, .class_ 15), (0, .nameAndType 16 17), (0, u "com/example/vernacular/vernacular/Lineage"), (0, u "NONE"), (0, u "Lcom/example/vernacular/vernacular/Lineage;"), (0, .class_ 19), (0, u "com/example/vernacular/vernacular/Table$Column"), (0, .methodref 18 21), (0, .nameAndType 5 22), (0, u "(Ljava/lang/String;ILcom/example/vernacular/vernacular/Lineage;IZ)V"), (0, .methodref 18 24), (0, .nameAndType 25 26), (0, u "inheriting"), (0, u "(IZ)Lcom/example/vernacular/vernacular/Table$Column;"), (0, .methodref 18 28), (0, .nameAndType 29 30), (0, u "name"), (0, u "()Ljava/lang/String;"), (0, .methodref 7 32), (0, .nameAndType 33 34), (0, u "equals"), (0, u "(Ljava/lang/Object;)Z"), (0, .methodref 18 36), (0, .nameAndType 37 38), (0, u "position"), (0, u "()I"), (0, .methodref 18 40), (0, .nameAndType 41 42), (0, u "lineage"), (0, u "()Lcom/example/vernacular/vernacular/Lineage;"), (0, .methodref 18 44), (0, .nameAndType 45 38), (0, u "inherited"), (0, .methodref 18 47), (0, .nameAndType 48 49), (0, u "local"), (0, u "()Z"), (0, .class_ 51), (0, u "com/example/vernacular/vernacular/ColumnInheritingPinLaw"), (2, u "law"), (0, u "(IIIII)Z")] 9

def k1m0 : Method := { name := "<init>", desc := "()V", sig := { parameters := [], returnType := none }, accessFlags := 1, code := none }
def k1c1 : Code := { maxStack := 7, maxLocals := 13, code := code, exceptionTable := #[], attributes := #[] }
def k1m1 : Method := { name := "law", desc := "(IIIII)Z", sig := { parameters := [.int, .int, .int, .int, .int], returnType := some .boolean }, accessFlags := 9, code := some k1c1 }
/-- com/example/vernacular/vernacular/ColumnInheritingPinLaw -/
def k1 : Class := { plain "com/example/vernacular/vernacular/ColumnInheritingPinLaw" (some 0) with
  accessFlags := 49
  interfaces := #[]
  cf := some (fileOf pool1 50 #[] #[{ accessFlags := 1, nameIndex := 5, descriptorIndex := 6, attributes := #[] }, { accessFlags := 9, nameIndex := 54, descriptorIndex := 55, attributes := #[] }] 49 2 #[] #[])
  fields := #[]
  methods := #[k1m0, k1m1]
  instanceTypes := #[]
  staticTypes := #[]
  resolved := Array.replicate 65 none
  statics := none }

def pool2 : Array CpInfo := pool [(1, .class_ 2), (0, u "java/io/Serializable"), (0, .class_ 4), (0, u "java/lang/Object")] 2

/-- java/io/Serializable -/
def k2 : Class := { plain "java/io/Serializable" (some 0) with
  accessFlags := 1537
  interfaces := #[]
  cf := some (fileOf pool2 1 #[] #[] 1537 3 #[] #[])
  fields := #[]
  methods := #[]
  instanceTypes := #[]
  staticTypes := #[]
  resolved := Array.replicate 7 none
  statics := none }

def pool3 : Array CpInfo := pool [(1, .class_ 2), (0, u "java/lang/Comparable"), (0, .class_ 4), (0, u "java/lang/Object")] 7

/-- java/lang/Comparable -/
def k3 : Class := { plain "java/lang/Comparable" (some 0) with
  accessFlags := 1537
  interfaces := #[]
  cf := some (fileOf pool3 1 #[] #[] 1537 3 #[] #[])
  fields := #[]
  methods := #[]
  instanceTypes := #[]
  staticTypes := #[]
  resolved := Array.replicate 12 none
  statics := none }

def pool4 : Array CpInfo := pool [(2, .class_ 4), (1, u "java/lang/CharSequence"), (42, .class_ 48), (0, u "java/lang/CharSequence$1CodePointIterator"), (10, .class_ 60), (0, u "java/lang/CharSequence$1CharIterator"), (5, .class_ 67), (0, u "java/lang/Object")] 63

/-- java/lang/CharSequence -/
def k4 : Class := { plain "java/lang/CharSequence" (some 0) with
  accessFlags := 1537
  interfaces := #[]
  cf := some (fileOf pool4 2 #[.nestMembers #[47, 59]] #[] 1537 66 #[] #[])
  fields := #[]
  methods := #[]
  instanceTypes := #[]
  staticTypes := #[]
  resolved := Array.replicate 131 none
  statics := none }

def pool5 : Array CpInfo := pool [(1, .class_ 2), (0, u "java/lang/constant/Constable"), (0, .class_ 4), (0, u "java/lang/Object")] 6

/-- java/lang/constant/Constable -/
def k5 : Class := { plain "java/lang/constant/Constable" (some 0) with
  accessFlags := 1537
  interfaces := #[]
  cf := some (fileOf pool5 1 #[] #[] 1537 3 #[] #[])
  fields := #[]
  methods := #[]
  instanceTypes := #[]
  staticTypes := #[]
  resolved := Array.replicate 11 none
  statics := none }

def pool6 : Array CpInfo := pool [(1, .class_ 2), (0, u "java/lang/constant/ConstantDesc"), (0, .class_ 4), (0, u "java/lang/Object")] 32

/-- java/lang/constant/ConstantDesc -/
def k6 : Class := { plain "java/lang/constant/ConstantDesc" (some 0) with
  accessFlags := 1537
  interfaces := #[]
  cf := some (fileOf pool6 1 #[] #[] 1537 3 #[] #[])
  fields := #[]
  methods := #[]
  instanceTypes := #[]
  staticTypes := #[]
  resolved := Array.replicate 37 none
  statics := none }

def pool7 : Array CpInfo := pool [(1, .methodref 2 3), (0, .class_ 4), (0, .nameAndType 5 6), (0, u "java/lang/Object"), (0, u "<init>"), (0, u "()V"), (2, .fieldref 10 11), (0, .class_ 12), (0, .nameAndType 13 14), (0, u "java/lang/String"), (0, u "value"), (0, u "[B"), (0, .fieldref 10 16), (0, .nameAndType 17 18), (0, u "coder"), (0, u "B"), (2, u "hash"), (0, u "I"), (2, u "hashIsZero"), (0, u "Z"), (0, .methodref 10 28), (0, .nameAndType 5 29), (0, u "([CIILjava/lang/Void;)V"), (8, .fieldref 10 39), (0, .nameAndType 40 26), (0, u "COMPACT_STRINGS"), (1, .class_ 44), (1, u "java/lang/StringUTF16"), (0, u "compress"), (1, .methodref 42 48), (0, .nameAndType 49 50), (0, u "coderFromArrayLen"), (0, u "([BI)B"), (126, .methodref 42 178), (0, .nameAndType 45 179), (0, u "([CII)[B"), (363, u "equals"), (29, u "(Ljava/lang/Object;)Z"), (1, .class_ 576), (0, u "java/lang/CharSequence"), (22, u "CASE_INSENSITIVE_ORDER"), (0, u "Ljava/util/Comparator;"), (409, u "([C)V"), (90, u "serialPersistentFields"), (0, u "[Ljava/io/ObjectStreamField;"), (0, .class_ 1104), (0, u "java/lang/String$CaseInsensitiveComparator"), (1, .class_ 1107), (0, u "java/io/Serializable"), (0, .class_ 1109), (0, u "java/lang/Comparable"), (0, .class_ 1111), (0, u "java/lang/constant/Constable"), (0, .class_ 1113), (0, u "java/lang/constant/ConstantDesc"), (2, u "serialVersionUID"), (0, u "J"), (3, u "REPL"), (0, u "C"), (2, u "LATIN1"), (1, u "UTF16")] 323

def k7m0 : Method := { name := "<init>", desc := "()V", sig := { parameters := [], returnType := none }, accessFlags := 1, code := none }
def k7c1 : Code := { maxStack := 5, maxLocals := 2, code := jdk_42_method_3_code, exceptionTable := #[], attributes := #[] }
def k7m1 : Method := { name := "<init>", desc := "([C)V", sig := { parameters := [(.array .char)], returnType := none }, accessFlags := 1, code := some k7c1 }
def k7c2 : Code := { maxStack := 2, maxLocals := 3, code := jdk_42_method_66_code, exceptionTable := #[], attributes := #[] }
def k7m2 : Method := { name := "equals", desc := "(Ljava/lang/Object;)Z", sig := { parameters := [(.object "java/lang/Object")], returnType := some .boolean }, accessFlags := 1, code := some k7c2 }
def k7c3 : Code := { maxStack := 4, maxLocals := 6, code := jdk_42_method_149_code, exceptionTable := #[], attributes := #[] }
def k7m3 : Method := { name := "<init>", desc := "([CIILjava/lang/Void;)V", sig := { parameters := [(.array .char), .int, .int, (.object "java/lang/Void")], returnType := none }, accessFlags := 2, code := some k7c3 }
/-- java/lang/String -/
def k7 : Class := { plain "java/lang/String" (some 0) with
  accessFlags := 49
  interfaces := #[2, 3, 4, 5, 6]
  cf := some (fileOf pool7 10 #[.nestMembers #[1103]] #[{ accessFlags := 1, nameIndex := 5, descriptorIndex := 6, attributes := #[] }, { accessFlags := 1, nameIndex := 5, descriptorIndex := 1010, attributes := #[] }, { accessFlags := 1, nameIndex := 543, descriptorIndex := 573, attributes := #[] }, { accessFlags := 2, nameIndex := 5, descriptorIndex := 29, attributes := #[] }] 49 2 #[1106, 1108, 575, 1110, 1112] #[{ accessFlags := 18, nameIndex := 13, descriptorIndex := 14, attributes := #[] }, { accessFlags := 18, nameIndex := 17, descriptorIndex := 18, attributes := #[] }, { accessFlags := 2, nameIndex := 21, descriptorIndex := 22, attributes := #[] }, { accessFlags := 2, nameIndex := 25, descriptorIndex := 26, attributes := #[] }, { accessFlags := 26, nameIndex := 1116, descriptorIndex := 1117, attributes := #[] }, { accessFlags := 24, nameIndex := 40, descriptorIndex := 26, attributes := #[] }, { accessFlags := 26, nameIndex := 1101, descriptorIndex := 1102, attributes := #[] }, { accessFlags := 26, nameIndex := 1121, descriptorIndex := 1122, attributes := #[] }, { accessFlags := 25, nameIndex := 599, descriptorIndex := 600, attributes := #[] }, { accessFlags := 24, nameIndex := 1125, descriptorIndex := 18, attributes := #[] }, { accessFlags := 24, nameIndex := 1127, descriptorIndex := 18, attributes := #[] }])
  fields := #[{ name := "value", type := (.array .byte), accessFlags := 18, slot := 0, constantValue := 0 }, { name := "coder", type := .byte, accessFlags := 18, slot := 1, constantValue := 0 }, { name := "hash", type := .int, accessFlags := 2, slot := 2, constantValue := 0 }, { name := "hashIsZero", type := .boolean, accessFlags := 2, slot := 3, constantValue := 0 }, { name := "serialVersionUID", type := .long, accessFlags := 26, slot := 0, constantValue := 0 }, { name := "COMPACT_STRINGS", type := .boolean, accessFlags := 24, slot := 1, constantValue := 0 }, { name := "serialPersistentFields", type := (.array (.object "java/io/ObjectStreamField")), accessFlags := 26, slot := 2, constantValue := 0 }, { name := "REPL", type := .char, accessFlags := 26, slot := 3, constantValue := 0 }, { name := "CASE_INSENSITIVE_ORDER", type := (.object "java/util/Comparator"), accessFlags := 25, slot := 4, constantValue := 0 }, { name := "LATIN1", type := .byte, accessFlags := 24, slot := 5, constantValue := 0 }, { name := "UTF16", type := .byte, accessFlags := 24, slot := 6, constantValue := 0 }]
  methods := #[k7m0, k7m1, k7m2, k7m3]
  instanceTypes := #[(.array .byte), .byte, .int, .boolean]
  staticTypes := #[.long, .boolean, (.array (.object "java/io/ObjectStreamField")), .char, (.object "java/util/Comparator"), .byte, .byte]
  resolved := Array.replicate 1451 none
  statics := some 0 }

def pool8 : Array CpInfo := pool [(6, .class_ 8), (1, u "java/lang/Object"), (0, u "<init>"), (0, u "()V"), (1, .class_ 14), (1, u "java/lang/StringUTF16"), (31, u "$assertionsDisabled"), (0, u "Z"), (13, u "HI_BYTE_SHIFT"), (0, u "I"), (2, u "LO_BYTE_SHIFT"), (49, .methodref 12 116), (0, .nameAndType 117 118), (0, u "compress"), (0, u "([CI[BII)I"), (3, u "([CII)[B"), (138, u "coderFromArrayLen"), (0, u "([BI)B"), (106, .class_ 371), (1, u "java/lang/StringUTF16$LinesSpliterator"), (58, u "MAX_LENGTH"), (196, .class_ 628), (0, u "java/lang/StringUTF16$CodePointsSpliterator"), (0, .class_ 630), (0, u "java/lang/StringUTF16$CharsSpliterator")] 4

def k8m0 : Method := { name := "<init>", desc := "()V", sig := { parameters := [], returnType := none }, accessFlags := 0, code := none }
def k8c1 : Code := { maxStack := 2, maxLocals := 2, code := jdk_52_method_15_code, exceptionTable := #[], attributes := #[] }
def k8m1 : Method := { name := "coderFromArrayLen", desc := "([BI)B", sig := { parameters := [(.array .byte), .int], returnType := some .byte }, accessFlags := 8, code := some k8c1 }
def k8c2 : Code := { maxStack := 5, maxLocals := 6, code := jdk_52_method_16_code, exceptionTable := #[], attributes := #[] }
def k8m2 : Method := { name := "compress", desc := "([CII)[B", sig := { parameters := [(.array .char), .int, .int], returnType := some (.array .byte) }, accessFlags := 9, code := some k8c2 }
def k8c3 : Code := { maxStack := 3, maxLocals := 7, code := jdk_52_method_21_code, exceptionTable := #[], attributes := #[] }
def k8m3 : Method := { name := "compress", desc := "([CI[BII)I", sig := { parameters := [(.array .char), .int, (.array .byte), .int, .int], returnType := some .int }, accessFlags := 9, code := some k8c3 }
/-- java/lang/StringUTF16 -/
def k8 : Class := { plain "java/lang/StringUTF16" (some 0) with
  accessFlags := 48
  interfaces := #[]
  cf := some (fileOf pool8 12 #[.nestMembers #[627, 629, 369]] #[{ accessFlags := 0, nameIndex := 9, descriptorIndex := 10, attributes := #[] }, { accessFlags := 8, nameIndex := 261, descriptorIndex := 262, attributes := #[] }, { accessFlags := 9, nameIndex := 117, descriptorIndex := 122, attributes := #[] }, { accessFlags := 9, nameIndex := 117, descriptorIndex := 118, attributes := #[] }] 48 6 #[] #[{ accessFlags := 26, nameIndex := 61, descriptorIndex := 62, attributes := #[] }, { accessFlags := 26, nameIndex := 65, descriptorIndex := 62, attributes := #[] }, { accessFlags := 24, nameIndex := 430, descriptorIndex := 62, attributes := #[] }, { accessFlags := 4120, nameIndex := 46, descriptorIndex := 47, attributes := #[] }])
  fields := #[{ name := "HI_BYTE_SHIFT", type := .int, accessFlags := 26, slot := 0, constantValue := 0 }, { name := "LO_BYTE_SHIFT", type := .int, accessFlags := 26, slot := 1, constantValue := 0 }, { name := "MAX_LENGTH", type := .int, accessFlags := 24, slot := 2, constantValue := 0 }, { name := "$assertionsDisabled", type := .boolean, accessFlags := 4120, slot := 3, constantValue := 0 }]
  methods := #[k8m0, k8m1, k8m2, k8m3]
  instanceTypes := #[]
  staticTypes := #[.int, .int, .int, .boolean]
  resolved := Array.replicate 635 none
  statics := none }

def pool9 : Array CpInfo := pool [(1, .methodref 2 3), (0, .class_ 4), (0, .nameAndType 5 6), (0, u "java/lang/Object"), (0, u "<init>"), (0, u "()V"), (0, .class_ 8), (0, u "java/lang/Record")] 13

def k9c0 : Code := { maxStack := 1, maxLocals := 1, code := jdk_30_method_1_code, exceptionTable := #[], attributes := #[] }
def k9m0 : Method := { name := "<init>", desc := "()V", sig := { parameters := [], returnType := none }, accessFlags := 4, code := some k9c0 }
/-- java/lang/Record -/
def k9 : Class := { plain "java/lang/Record" (some 0) with
  accessFlags := 1057
  interfaces := #[]
  cf := some (fileOf pool9 7 #[] #[{ accessFlags := 4, nameIndex := 5, descriptorIndex := 6, attributes := #[] }] 1057 2 #[] #[])
  fields := #[]
  methods := #[k9m0]
  instanceTypes := #[]
  staticTypes := #[]
  resolved := Array.replicate 22 none
  statics := none }

def pool10 : Array CpInfo := pool [(1, .methodref 2 3), (0, .class_ 4), (0, .nameAndType 5 6), (0, u "java/lang/Record"), (0, u "<init>"), (0, u "()V"), (0, .fieldref 8 9), (0, .class_ 10), (0, .nameAndType 11 12), (0, u "com/example/vernacular/vernacular/Table$Column"), (0, u "name"), (0, u "Ljava/lang/String;"), (0, .fieldref 8 14), (0, .nameAndType 15 16), (0, u "position"), (0, u "I"), (0, .fieldref 8 18), (0, .nameAndType 19 20), (0, u "lineage"), (0, u "Lcom/example/vernacular/vernacular/Lineage;"), (0, .fieldref 8 22), (0, .nameAndType 23 16), (0, u "inherited"), (0, .fieldref 8 25), (0, .nameAndType 26 27), (0, u "local"), (0, u "Z"), (11, .methodref 8 40), (0, .nameAndType 5 41), (0, u "(Ljava/lang/String;ILcom/example/vernacular/vernacular/Lineage;IZ)V"), (17, u "inheriting"), (0, u "(IZ)Lcom/example/vernacular/vernacular/Table$Column;"), (0, u "()Ljava/lang/String;"), (0, u "()I"), (1, u "()Lcom/example/vernacular/vernacular/Lineage;"), (0, u "()Z"), (3, .class_ 70), (0, u "com/example/vernacular/vernacular/Table")] 23

def k10c0 : Code := { maxStack := 2, maxLocals := 6, code := prog_96_method_1_code, exceptionTable := #[], attributes := #[] }
def k10m0 : Method := { name := "<init>", desc := "(Ljava/lang/String;ILcom/example/vernacular/vernacular/Lineage;IZ)V", sig := { parameters := [(.object "java/lang/String"), .int, (.object "com/example/vernacular/vernacular/Lineage"), .int, .boolean], returnType := none }, accessFlags := 0, code := some k10c0 }
def k10c1 : Code := { maxStack := 7, maxLocals := 3, code := prog_96_method_3_code, exceptionTable := #[], attributes := #[] }
def k10m1 : Method := { name := "inheriting", desc := "(IZ)Lcom/example/vernacular/vernacular/Table$Column;", sig := { parameters := [.int, .boolean], returnType := some (.object "com/example/vernacular/vernacular/Table$Column") }, accessFlags := 0, code := some k10c1 }
def k10c2 : Code := { maxStack := 1, maxLocals := 1, code := prog_96_method_7_code, exceptionTable := #[], attributes := #[] }
def k10m2 : Method := { name := "name", desc := "()Ljava/lang/String;", sig := { parameters := [], returnType := some (.object "java/lang/String") }, accessFlags := 1, code := some k10c2 }
def k10c3 : Code := { maxStack := 1, maxLocals := 1, code := prog_96_method_8_code, exceptionTable := #[], attributes := #[] }
def k10m3 : Method := { name := "position", desc := "()I", sig := { parameters := [], returnType := some .int }, accessFlags := 1, code := some k10c3 }
def k10c4 : Code := { maxStack := 1, maxLocals := 1, code := prog_96_method_9_code, exceptionTable := #[], attributes := #[] }
def k10m4 : Method := { name := "lineage", desc := "()Lcom/example/vernacular/vernacular/Lineage;", sig := { parameters := [], returnType := some (.object "com/example/vernacular/vernacular/Lineage") }, accessFlags := 1, code := some k10c4 }
def k10c5 : Code := { maxStack := 1, maxLocals := 1, code := prog_96_method_10_code, exceptionTable := #[], attributes := #[] }
def k10m5 : Method := { name := "inherited", desc := "()I", sig := { parameters := [], returnType := some .int }, accessFlags := 1, code := some k10c5 }
def k10c6 : Code := { maxStack := 1, maxLocals := 1, code := prog_96_method_11_code, exceptionTable := #[], attributes := #[] }
def k10m6 : Method := { name := "local", desc := "()Z", sig := { parameters := [], returnType := some .boolean }, accessFlags := 1, code := some k10c6 }
/-- com/example/vernacular/vernacular/Table$Column -/
def k10 : Class := { plain "com/example/vernacular/vernacular/Table$Column" (some 9) with
  accessFlags := 48
  interfaces := #[]
  cf := some (fileOf pool10 8 #[.nestHost 69] #[{ accessFlags := 0, nameIndex := 5, descriptorIndex := 41, attributes := #[] }, { accessFlags := 0, nameIndex := 59, descriptorIndex := 60, attributes := #[] }, { accessFlags := 1, nameIndex := 11, descriptorIndex := 61, attributes := #[] }, { accessFlags := 1, nameIndex := 15, descriptorIndex := 62, attributes := #[] }, { accessFlags := 1, nameIndex := 19, descriptorIndex := 64, attributes := #[] }, { accessFlags := 1, nameIndex := 23, descriptorIndex := 62, attributes := #[] }, { accessFlags := 1, nameIndex := 26, descriptorIndex := 65, attributes := #[] }] 48 2 #[] #[{ accessFlags := 18, nameIndex := 11, descriptorIndex := 12, attributes := #[] }, { accessFlags := 18, nameIndex := 15, descriptorIndex := 16, attributes := #[] }, { accessFlags := 18, nameIndex := 19, descriptorIndex := 20, attributes := #[] }, { accessFlags := 18, nameIndex := 23, descriptorIndex := 16, attributes := #[] }, { accessFlags := 18, nameIndex := 26, descriptorIndex := 27, attributes := #[] }])
  fields := #[{ name := "name", type := (.object "java/lang/String"), accessFlags := 18, slot := 0, constantValue := 0 }, { name := "position", type := .int, accessFlags := 18, slot := 1, constantValue := 0 }, { name := "lineage", type := (.object "com/example/vernacular/vernacular/Lineage"), accessFlags := 18, slot := 2, constantValue := 0 }, { name := "inherited", type := .int, accessFlags := 18, slot := 3, constantValue := 0 }, { name := "local", type := .boolean, accessFlags := 18, slot := 4, constantValue := 0 }]
  methods := #[k10m0, k10m1, k10m2, k10m3, k10m4, k10m5, k10m6]
  instanceTypes := #[(.object "java/lang/String"), .int, (.object "com/example/vernacular/vernacular/Lineage"), .int, .boolean]
  staticTypes := #[]
  resolved := Array.replicate 94 none
  statics := none }

def pool11 : Array CpInfo := pool [(2, .class_ 4), (1, u "java/lang/Record"), (9, .class_ 16), (1, u "com/example/vernacular/vernacular/Lineage"), (0, u "calculated"), (0, u "Z"), (2, u "columns"), (0, u "Ljava/util/List;"), (9, u "CONSTANT"), (0, u "Lcom/example/vernacular/vernacular/Lineage;"), (65, u "NONE")] 40

/-- com/example/vernacular/vernacular/Lineage -/
def k11 : Class := { plain "com/example/vernacular/vernacular/Lineage" (some 9) with
  accessFlags := 48
  interfaces := #[]
  cf := some (fileOf pool11 14 #[] #[] 48 2 #[] #[{ accessFlags := 18, nameIndex := 17, descriptorIndex := 18, attributes := #[] }, { accessFlags := 18, nameIndex := 21, descriptorIndex := 22, attributes := #[] }, { accessFlags := 24, nameIndex := 99, descriptorIndex := 33, attributes := #[] }, { accessFlags := 26, nameIndex := 32, descriptorIndex := 33, attributes := #[] }])
  fields := #[{ name := "calculated", type := .boolean, accessFlags := 18, slot := 0, constantValue := 0 }, { name := "columns", type := (.object "java/util/List"), accessFlags := 18, slot := 1, constantValue := 0 }, { name := "NONE", type := (.object "com/example/vernacular/vernacular/Lineage"), accessFlags := 24, slot := 0, constantValue := 0 }, { name := "CONSTANT", type := (.object "com/example/vernacular/vernacular/Lineage"), accessFlags := 26, slot := 1, constantValue := 0 }]
  methods := #[]
  instanceTypes := #[.boolean, (.object "java/util/List")]
  staticTypes := #[(.object "com/example/vernacular/vernacular/Lineage"), (.object "com/example/vernacular/vernacular/Lineage")]
  resolved := Array.replicate 140 none
  statics := some 1 }

def pool12 : Array CpInfo := pool [(4, .class_ 6), (1, u "java/lang/Object"), (0, u "<init>"), (0, u "()V"), (5, .class_ 16), (1, u "java/lang/StringLatin1"), (104, u "$assertionsDisabled"), (0, u "Z"), (98, .class_ 223), (1, u "java/lang/StringLatin1$LinesSpliterator"), (166, .class_ 391), (0, u "java/lang/StringLatin1$CharsSpliterator")] 3

def k12m0 : Method := { name := "<init>", desc := "()V", sig := { parameters := [], returnType := none }, accessFlags := 0, code := none }
/-- java/lang/StringLatin1 -/
def k12 : Class := { plain "java/lang/StringLatin1" (some 0) with
  accessFlags := 48
  interfaces := #[]
  cf := some (fileOf pool12 14 #[.nestMembers #[390, 221]] #[{ accessFlags := 0, nameIndex := 7, descriptorIndex := 8, attributes := #[] }] 48 4 #[] #[{ accessFlags := 4120, nameIndex := 121, descriptorIndex := 122, attributes := #[] }])
  fields := #[{ name := "$assertionsDisabled", type := .boolean, accessFlags := 4120, slot := 0, constantValue := 0 }]
  methods := #[k12m0]
  instanceTypes := #[]
  staticTypes := #[.boolean]
  resolved := Array.replicate 395 none
  statics := none }

def pool13 : Array CpInfo := pool [(2, .class_ 4), (1, u "java/lang/Object"), (0, u "<init>"), (0, u "()V"), (17, .class_ 26), (1, u "jdk/internal/util/Preconditions"), (28, .class_ 56), (0, u "jdk/internal/util/Preconditions$4"), (57, .class_ 115), (0, u "jdk/internal/util/Preconditions$1"), (7, u "SIOOBE_FORMATTER"), (0, u "Ljava/util/function/BiFunction;"), (0, .class_ 126), (0, u "jdk/internal/util/Preconditions$2"), (3, u "AIOOBE_FORMATTER"), (0, .class_ 132), (0, u "jdk/internal/util/Preconditions$3"), (3, u "IOOBE_FORMATTER")] 57

def k13m0 : Method := { name := "<init>", desc := "()V", sig := { parameters := [], returnType := none }, accessFlags := 1, code := none }
/-- jdk/internal/util/Preconditions -/
def k13 : Class := { plain "jdk/internal/util/Preconditions" (some 0) with
  accessFlags := 33
  interfaces := #[]
  cf := some (fileOf pool13 24 #[.nestMembers #[55, 131, 125, 114]] #[{ accessFlags := 1, nameIndex := 5, descriptorIndex := 6, attributes := #[] }] 33 2 #[] #[{ accessFlags := 25, nameIndex := 123, descriptorIndex := 124, attributes := #[] }, { accessFlags := 25, nameIndex := 130, descriptorIndex := 124, attributes := #[] }, { accessFlags := 25, nameIndex := 136, descriptorIndex := 124, attributes := #[] }])
  fields := #[{ name := "SIOOBE_FORMATTER", type := (.object "java/util/function/BiFunction"), accessFlags := 25, slot := 0, constantValue := 0 }, { name := "AIOOBE_FORMATTER", type := (.object "java/util/function/BiFunction"), accessFlags := 25, slot := 1, constantValue := 0 }, { name := "IOOBE_FORMATTER", type := (.object "java/util/function/BiFunction"), accessFlags := 25, slot := 2, constantValue := 0 }]
  methods := #[k13m0]
  instanceTypes := #[]
  staticTypes := #[(.object "java/util/function/BiFunction"), (.object "java/util/function/BiFunction"), (.object "java/util/function/BiFunction")]
  resolved := Array.replicate 194 none
  statics := some 2 }

def pool14 : Array CpInfo := pool [(9, u "<init>"), (6, .class_ 18), (1, u "java/lang/Object"), (0, u "()V"), (1, .class_ 23), (1, u "jdk/internal/util/ArraysSupport"), (0, u "LOG2_ARRAY_LONG_INDEX_SCALE"), (0, u "I"), (2, u "U"), (0, u "Ljdk/internal/misc/Unsafe;"), (8, u "BIG_ENDIAN"), (0, u "Z"), (8, u "LOG2_BYTE_BIT_SIZE"), (4, u "LOG2_ARRAY_INT_INDEX_SCALE"), (54, u "JLA"), (0, u "Ljdk/internal/access/JavaLangAccess;"), (11, u "LOG2_ARRAY_BOOLEAN_INDEX_SCALE"), (9, u "LOG2_ARRAY_BYTE_INDEX_SCALE"), (5, u "LOG2_ARRAY_CHAR_INDEX_SCALE"), (5, u "LOG2_ARRAY_SHORT_INDEX_SCALE"), (18, u "LOG2_ARRAY_FLOAT_INDEX_SCALE"), (24, u "LOG2_ARRAY_DOUBLE_INDEX_SCALE"), (89, u "T_BOOLEAN"), (2, u "T_CHAR"), (1, u "T_FLOAT"), (1, u "T_DOUBLE"), (1, u "T_BYTE"), (1, u "T_SHORT"), (1, u "T_INT"), (1, u "T_LONG"), (1, u "SOFT_MAX_ARRAY_LENGTH")] 83

def k14m0 : Method := { name := "<init>", desc := "()V", sig := { parameters := [], returnType := none }, accessFlags := 2, code := none }
/-- jdk/internal/util/ArraysSupport -/
def k14 : Class := { plain "jdk/internal/util/ArraysSupport" (some 0) with
  accessFlags := 33
  interfaces := #[]
  cf := some (fileOf pool14 21 #[] #[{ accessFlags := 2, nameIndex := 9, descriptorIndex := 19, attributes := #[] }] 33 16 #[] #[{ accessFlags := 24, nameIndex := 28, descriptorIndex := 29, attributes := #[] }, { accessFlags := 26, nameIndex := 38, descriptorIndex := 39, attributes := #[] }, { accessFlags := 25, nameIndex := 121, descriptorIndex := 25, attributes := #[] }, { accessFlags := 25, nameIndex := 131, descriptorIndex := 25, attributes := #[] }, { accessFlags := 25, nameIndex := 137, descriptorIndex := 25, attributes := #[] }, { accessFlags := 25, nameIndex := 143, descriptorIndex := 25, attributes := #[] }, { accessFlags := 25, nameIndex := 53, descriptorIndex := 25, attributes := #[] }, { accessFlags := 25, nameIndex := 24, descriptorIndex := 25, attributes := #[] }, { accessFlags := 25, nameIndex := 162, descriptorIndex := 25, attributes := #[] }, { accessFlags := 25, nameIndex := 187, descriptorIndex := 25, attributes := #[] }, { accessFlags := 26, nameIndex := 48, descriptorIndex := 25, attributes := #[] }, { accessFlags := 25, nameIndex := 277, descriptorIndex := 25, attributes := #[] }, { accessFlags := 25, nameIndex := 280, descriptorIndex := 25, attributes := #[] }, { accessFlags := 25, nameIndex := 282, descriptorIndex := 25, attributes := #[] }, { accessFlags := 25, nameIndex := 284, descriptorIndex := 25, attributes := #[] }, { accessFlags := 25, nameIndex := 286, descriptorIndex := 25, attributes := #[] }, { accessFlags := 25, nameIndex := 288, descriptorIndex := 25, attributes := #[] }, { accessFlags := 25, nameIndex := 290, descriptorIndex := 25, attributes := #[] }, { accessFlags := 25, nameIndex := 292, descriptorIndex := 25, attributes := #[] }, { accessFlags := 26, nameIndex := 108, descriptorIndex := 109, attributes := #[] }, { accessFlags := 25, nameIndex := 294, descriptorIndex := 25, attributes := #[] }])
  fields := #[{ name := "U", type := (.object "jdk/internal/misc/Unsafe"), accessFlags := 24, slot := 0, constantValue := 0 }, { name := "BIG_ENDIAN", type := .boolean, accessFlags := 26, slot := 1, constantValue := 0 }, { name := "LOG2_ARRAY_BOOLEAN_INDEX_SCALE", type := .int, accessFlags := 25, slot := 2, constantValue := 0 }, { name := "LOG2_ARRAY_BYTE_INDEX_SCALE", type := .int, accessFlags := 25, slot := 3, constantValue := 0 }, { name := "LOG2_ARRAY_CHAR_INDEX_SCALE", type := .int, accessFlags := 25, slot := 4, constantValue := 0 }, { name := "LOG2_ARRAY_SHORT_INDEX_SCALE", type := .int, accessFlags := 25, slot := 5, constantValue := 0 }, { name := "LOG2_ARRAY_INT_INDEX_SCALE", type := .int, accessFlags := 25, slot := 6, constantValue := 0 }, { name := "LOG2_ARRAY_LONG_INDEX_SCALE", type := .int, accessFlags := 25, slot := 7, constantValue := 0 }, { name := "LOG2_ARRAY_FLOAT_INDEX_SCALE", type := .int, accessFlags := 25, slot := 8, constantValue := 0 }, { name := "LOG2_ARRAY_DOUBLE_INDEX_SCALE", type := .int, accessFlags := 25, slot := 9, constantValue := 0 }, { name := "LOG2_BYTE_BIT_SIZE", type := .int, accessFlags := 26, slot := 10, constantValue := 0 }, { name := "T_BOOLEAN", type := .int, accessFlags := 25, slot := 11, constantValue := 0 }, { name := "T_CHAR", type := .int, accessFlags := 25, slot := 12, constantValue := 0 }, { name := "T_FLOAT", type := .int, accessFlags := 25, slot := 13, constantValue := 0 }, { name := "T_DOUBLE", type := .int, accessFlags := 25, slot := 14, constantValue := 0 }, { name := "T_BYTE", type := .int, accessFlags := 25, slot := 15, constantValue := 0 }, { name := "T_SHORT", type := .int, accessFlags := 25, slot := 16, constantValue := 0 }, { name := "T_INT", type := .int, accessFlags := 25, slot := 17, constantValue := 0 }, { name := "T_LONG", type := .int, accessFlags := 25, slot := 18, constantValue := 0 }, { name := "JLA", type := (.object "jdk/internal/access/JavaLangAccess"), accessFlags := 26, slot := 19, constantValue := 0 }, { name := "SOFT_MAX_ARRAY_LENGTH", type := .int, accessFlags := 25, slot := 20, constantValue := 0 }]
  methods := #[k14m0]
  instanceTypes := #[]
  staticTypes := #[(.object "jdk/internal/misc/Unsafe"), .boolean, .int, .int, .int, .int, .int, .int, .int, .int, .int, .int, .int, .int, .int, .int, .int, .int, .int, (.object "jdk/internal/access/JavaLangAccess"), .int]
  resolved := Array.replicate 378 none
  statics := none }

def pool15 : Array CpInfo := pool [(1, u "java/lang/Cloneable"), (0, .class_ 1), (0, u "java/lang/Object"), (0, .class_ 3)] 3

/-- java/lang/Cloneable -/
def k15 : Class := { plain "java/lang/Cloneable" (some 0) with
  accessFlags := 1537
  interfaces := #[]
  cf := some (fileOf pool15 2 #[] #[] 1537 4 #[] #[])
  fields := #[]
  methods := #[]
  instanceTypes := #[]
  staticTypes := #[]
  resolved := Array.replicate 8 none
  statics := none }

/-- the primitive byte -/
def k16 : Class := { plain "byte" none with kind := .primitive 'B', accessFlags := 0x411 }
/-- [B -/
def k17 : Class := { plain "[B" (some 0) with kind := .array 16 .byte, interfaces := #[15, 2], accessFlags := 1041 }

/-- the primitive char -/
def k18 : Class := { plain "char" none with kind := .primitive 'C', accessFlags := 0x411 }
/-- [C -/
def k19 : Class := { plain "[C" (some 0) with kind := .array 18 .char, interfaces := #[15, 2], accessFlags := 1041 }

/-- the primitive int -/
def k20 : Class := { plain "int" none with kind := .primitive 'I', accessFlags := 0x411 }
/-- [I -/
def k21 : Class := { plain "[I" (some 0) with kind := .array 20 .int, interfaces := #[15, 2], accessFlags := 1041 }

def heap : Heap := #[{ cls := 7, slots := #[.long 0, .int 1, .null, .int 0, .null, .int 0, .int 0], vm := .statics 7 },
  { cls := 11, slots := #[.ref 3, .null], vm := .statics 11 },
  { cls := 13, slots := #[.null, .null, .null], vm := .statics 13 },
  { cls := 11, slots := #[.int 0, .null], vm := .none }]
def classes : Array Class := #[k0, k1, k2, k3, k4, k5, k6, k7, k8, k9, k10, k11, k12, k13, k14, k15, k16, k17, k18, k19, k20, k21]
def interned : List (Array UInt16 × Addr) := []
def slotsUsed : Nat := 14
def theMethod : MethodId := ⟨1, 1⟩
def args0 : Array Value := #[.int 65, .int 66, .int 3, .int 4, .int 9]
def aboutOver (below : List Frame) : State where
  vm := { classes := classes, interned := interned.toArray }
  heap := heap
  slotsUsed := slotsUsed
  threads := #[{ frames := .invoking theMethod args0 :: below }]
def below0 : List Frame := [.native { method := ⟨0, 0⟩, args := #[] }]
def about1 : State := aboutOver below0
def p0 : Program := .bare "" "" ""
def e0 : Env := launch0.env 0 0 0
theorem w_frames : about1.frames = Frame.invoking theMethod args0 :: below0 := rfl
set_option maxRecDepth 65536 in
theorem w_args : argsFit about1.vm theMethod args0 = true := by decide +kernel
set_option maxRecDepth 65536 in
theorem w_heap : heapFits about1 = true := by decide +kernel
set_option maxRecDepth 65536 in
theorem w_runnable : about1.curStatus? = some .runnable := by decide +kernel
set_option maxRecDepth 65536 in
theorem w_alone : about1.alone = true := by decide +kernel
set_option maxRecDepth 65536 in
theorem w_named : about1.methodNamed? x = some theMethod := by decide +kernel
set_option maxRecDepth 65536 in
theorem w_hears : about1.hears theMethod below0 = true := by decide +kernel
set_option maxRecDepth 65536 in
theorem w_ripe : about1.ripe theMethod args0 below0 = true := by decide +kernel
theorem w_running : about1.status = .running := rfl
set_option maxRecDepth 65536 in
theorem w_room : about1.hasRoom e0.platform room_1 = true :=
  launch0.hasRoom_least _ room_1 (by decide +kernel) (by decide +kernel) (by decide +kernel) (by decide +kernel) (by decide +kernel) (by decide +kernel)
theorem allAtoms_all (ts : List Jvm.Cond) (a : Array Jvm.Value) (st : Jvm.State) : (allAtoms ts).before a st = ts.all (fun c => c.before a st) := by
  induction ts with
  | nil => rfl
  | cons c t ih =>
    show (Jvm.Cond.and c (allAtoms t)).before a st = _
    rw [Jvm.Cond.before_and, ih, List.all_cons]
def words1 : List Jvm.Cond := Jvm.Cond.code x code maxLocals ret :: tables_1
/-- a 'code' word, met by the world's own term for the bytes: nothing is compared byte by byte -/
theorem code_word {y : MethodName} {bytes : ByteArray} {mx : Nat} {rt : Option FieldType} {a : Array Value} {s : State} {m : MethodId} {meth : Method} {c : Code} (h1 : s.methodNamed? y = some m) (h2 : s.vm.method? m = some meth) (h3 : meth.code = some c) (h4 : c.code = bytes)
    (h5 : (c.maxLocals == mx && c.exceptionTable.isEmpty && decide (c.maxStack ≤ mostOperands) && decide (meth.sig.returnType = rt) && !meth.locks && decide (parseMethodDescriptor y.desc = some meth.sig)) = true) : (Jvm.Cond.code y bytes mx rt).before a s = true := by
  simp only [Bool.and_eq_true, beq_iff_eq, Bool.not_eq_true', decide_eq_true_eq] at h5
  obtain ⟨⟨⟨⟨⟨g1, g2⟩, g3⟩, g4⟩, g5⟩, g6⟩ := h5
  simp [Cond.before, Cond.holds, Cond.value, h1, h2, h3, h4, g1, g2, g3, g4, g5, g6]
def isCode : Jvm.Cond → Bool
  | .code _ _ _ _ => true
  | _ => false
theorem all_split {L : List Jvm.Cond} {P : Jvm.Cond → Bool} (h1 : L.all (fun c => isCode c || P c) = true) (h2 : ∀ c ∈ L.filter isCode, P c = true) : L.all P = true := by
  refine List.all_eq_true.mpr fun c hc => ?_
  have h := List.all_eq_true.mp h1 c hc
  rcases Bool.eq_false_or_eq_true (isCode c) with hi | hi
  · exact h2 c (List.mem_filter.mpr ⟨hc, hi⟩)
  · simpa [hi] using h
set_option maxRecDepth 65536 in
theorem w_c0 : (Jvm.Cond.code x code maxLocals ret).before args0 about1 = true := code_word (m := ⟨1, 1⟩) (meth := k1m1) (c := k1c1) (by decide +kernel) rfl rfl rfl (by decide +kernel)
set_option maxRecDepth 65536 in
theorem w_c1 : (Jvm.Cond.code ({ cls := "java/lang/String", name := "<init>", desc := "([C)V" } : Jvm.MethodName) jdk_42_method_3_code (2 : Nat) (Option.none : Option Jvm.ClassFile.FieldType)).before args0 about1 = true := code_word (m := ⟨7, 1⟩) (meth := k7m1) (c := k7c1) (by decide +kernel) rfl rfl rfl (by decide +kernel)
set_option maxRecDepth 65536 in
theorem w_c2 : (Jvm.Cond.code ({ cls := "java/lang/String", name := "<init>", desc := "([CIILjava/lang/Void;)V" } : Jvm.MethodName) jdk_42_method_149_code (6 : Nat) (Option.none : Option Jvm.ClassFile.FieldType)).before args0 about1 = true := code_word (m := ⟨7, 3⟩) (meth := k7m3) (c := k7c3) (by decide +kernel) rfl rfl rfl (by decide +kernel)
set_option maxRecDepth 65536 in
theorem w_c3 : (Jvm.Cond.code ({ cls := "java/lang/Object", name := "<init>", desc := "()V" } : Jvm.MethodName) object_method_1_code (1 : Nat) (Option.none : Option Jvm.ClassFile.FieldType)).before args0 about1 = true := code_word (m := ⟨0, 0⟩) (meth := k0m0) (c := k0c0) (by decide +kernel) rfl rfl rfl (by decide +kernel)
set_option maxRecDepth 65536 in
theorem w_c4 : (Jvm.Cond.code ({ cls := "java/lang/StringUTF16", name := "compress", desc := "([CII)[B" } : Jvm.MethodName) jdk_52_method_16_code (6 : Nat) (Option.some (Jvm.ClassFile.FieldType.array Jvm.ClassFile.FieldType.byte))).before args0 about1 = true := code_word (m := ⟨8, 2⟩) (meth := k8m2) (c := k8c2) (by decide +kernel) rfl rfl rfl (by decide +kernel)
set_option maxRecDepth 65536 in
theorem w_c5 : (Jvm.Cond.code ({ cls := "java/lang/StringUTF16", name := "compress", desc := "([CI[BII)I" } : Jvm.MethodName) jdk_52_method_21_code (7 : Nat) (Option.some Jvm.ClassFile.FieldType.int)).before args0 about1 = true := code_word (m := ⟨8, 3⟩) (meth := k8m3) (c := k8c3) (by decide +kernel) rfl rfl rfl (by decide +kernel)
set_option maxRecDepth 65536 in
theorem w_c6 : (Jvm.Cond.code ({ cls := "java/lang/StringUTF16", name := "coderFromArrayLen", desc := "([BI)B" } : Jvm.MethodName) jdk_52_method_15_code (2 : Nat) (Option.some Jvm.ClassFile.FieldType.byte)).before args0 about1 = true := code_word (m := ⟨8, 1⟩) (meth := k8m1) (c := k8c1) (by decide +kernel) rfl rfl rfl (by decide +kernel)
set_option maxRecDepth 65536 in
theorem w_c7 : (Jvm.Cond.code ({ cls := "com/example/vernacular/vernacular/Table$Column", name := "<init>", desc := "(Ljava/lang/String;ILcom/example/vernacular/vernacular/Lineage;IZ)V" } : Jvm.MethodName) prog_96_method_1_code (6 : Nat) (Option.none : Option Jvm.ClassFile.FieldType)).before args0 about1 = true := code_word (m := ⟨10, 0⟩) (meth := k10m0) (c := k10c0) (by decide +kernel) rfl rfl rfl (by decide +kernel)
set_option maxRecDepth 65536 in
theorem w_c8 : (Jvm.Cond.code ({ cls := "java/lang/Record", name := "<init>", desc := "()V" } : Jvm.MethodName) jdk_30_method_1_code (1 : Nat) (Option.none : Option Jvm.ClassFile.FieldType)).before args0 about1 = true := code_word (m := ⟨9, 0⟩) (meth := k9m0) (c := k9c0) (by decide +kernel) rfl rfl rfl (by decide +kernel)
set_option maxRecDepth 65536 in
theorem w_c9 : (Jvm.Cond.code ({ cls := "com/example/vernacular/vernacular/Table$Column", name := "inheriting", desc := "(IZ)Lcom/example/vernacular/vernacular/Table$Column;" } : Jvm.MethodName) prog_96_method_3_code (3 : Nat) (Option.some (Jvm.ClassFile.FieldType.object "com/example/vernacular/vernacular/Table$Column"))).before args0 about1 = true := code_word (m := ⟨10, 1⟩) (meth := k10m1) (c := k10c1) (by decide +kernel) rfl rfl rfl (by decide +kernel)
set_option maxRecDepth 65536 in
theorem w_c10 : (Jvm.Cond.code ({ cls := "com/example/vernacular/vernacular/Table$Column", name := "name", desc := "()Ljava/lang/String;" } : Jvm.MethodName) prog_96_method_7_code (1 : Nat) (Option.some (Jvm.ClassFile.FieldType.object "java/lang/String"))).before args0 about1 = true := code_word (m := ⟨10, 2⟩) (meth := k10m2) (c := k10c2) (by decide +kernel) rfl rfl rfl (by decide +kernel)
set_option maxRecDepth 65536 in
theorem w_c11 : (Jvm.Cond.code ({ cls := "java/lang/String", name := "equals", desc := "(Ljava/lang/Object;)Z" } : Jvm.MethodName) jdk_42_method_66_code (3 : Nat) (Option.some Jvm.ClassFile.FieldType.boolean)).before args0 about1 = true := code_word (m := ⟨7, 2⟩) (meth := k7m2) (c := k7c2) (by decide +kernel) rfl rfl rfl (by decide +kernel)
set_option maxRecDepth 65536 in
theorem w_c12 : (Jvm.Cond.code ({ cls := "com/example/vernacular/vernacular/Table$Column", name := "position", desc := "()I" } : Jvm.MethodName) prog_96_method_8_code (1 : Nat) (Option.some Jvm.ClassFile.FieldType.int)).before args0 about1 = true := code_word (m := ⟨10, 3⟩) (meth := k10m3) (c := k10c3) (by decide +kernel) rfl rfl rfl (by decide +kernel)
set_option maxRecDepth 65536 in
theorem w_c13 : (Jvm.Cond.code ({ cls := "com/example/vernacular/vernacular/Table$Column", name := "lineage", desc := "()Lcom/example/vernacular/vernacular/Lineage;" } : Jvm.MethodName) prog_96_method_9_code (1 : Nat) (Option.some (Jvm.ClassFile.FieldType.object "com/example/vernacular/vernacular/Lineage"))).before args0 about1 = true := code_word (m := ⟨10, 4⟩) (meth := k10m4) (c := k10c4) (by decide +kernel) rfl rfl rfl (by decide +kernel)
set_option maxRecDepth 65536 in
theorem w_c14 : (Jvm.Cond.code ({ cls := "com/example/vernacular/vernacular/Table$Column", name := "inherited", desc := "()I" } : Jvm.MethodName) prog_96_method_10_code (1 : Nat) (Option.some Jvm.ClassFile.FieldType.int)).before args0 about1 = true := code_word (m := ⟨10, 5⟩) (meth := k10m5) (c := k10c5) (by decide +kernel) rfl rfl rfl (by decide +kernel)
set_option maxRecDepth 65536 in
theorem w_c15 : (Jvm.Cond.code ({ cls := "com/example/vernacular/vernacular/Table$Column", name := "local", desc := "()Z" } : Jvm.MethodName) prog_96_method_11_code (1 : Nat) (Option.some Jvm.ClassFile.FieldType.boolean)).before args0 about1 = true := code_word (m := ⟨10, 6⟩) (meth := k10m6) (c := k10c6) (by decide +kernel) rfl rfl rfl (by decide +kernel)
def codes1 : List Jvm.Cond := [Jvm.Cond.code x code maxLocals ret, Jvm.Cond.code ({ cls := "java/lang/String", name := "<init>", desc := "([C)V" } : Jvm.MethodName) jdk_42_method_3_code (2 : Nat) (Option.none : Option Jvm.ClassFile.FieldType), Jvm.Cond.code ({ cls := "java/lang/String", name := "<init>", desc := "([CIILjava/lang/Void;)V" } : Jvm.MethodName) jdk_42_method_149_code (6 : Nat) (Option.none : Option Jvm.ClassFile.FieldType), Jvm.Cond.code ({ cls := "java/lang/Object", name := "<init>", desc := "()V" } : Jvm.MethodName) object_method_1_code (1 : Nat) (Option.none : Option Jvm.ClassFile.FieldType), Jvm.Cond.code ({ cls := "java/lang/StringUTF16", name := "compress", desc := "([CII)[B" } : Jvm.MethodName) jdk_52_method_16_code (6 : Nat) (Option.some (Jvm.ClassFile.FieldType.array Jvm.ClassFile.FieldType.byte)), Jvm.Cond.code ({ cls := "java/lang/StringUTF16", name := "compress", desc := "([CI[BII)I" } : Jvm.MethodName) jdk_52_method_21_code (7 : Nat) (Option.some Jvm.ClassFile.FieldType.int), Jvm.Cond.code ({ cls := "java/lang/StringUTF16", name := "coderFromArrayLen", desc := "([BI)B" } : Jvm.MethodName) jdk_52_method_15_code (2 : Nat) (Option.some Jvm.ClassFile.FieldType.byte), Jvm.Cond.code ({ cls := "com/example/vernacular/vernacular/Table$Column", name := "<init>", desc := "(Ljava/lang/String;ILcom/example/vernacular/vernacular/Lineage;IZ)V" } : Jvm.MethodName) prog_96_method_1_code (6 : Nat) (Option.none : Option Jvm.ClassFile.FieldType), Jvm.Cond.code ({ cls := "java/lang/Record", name := "<init>", desc := "()V" } : Jvm.MethodName) jdk_30_method_1_code (1 : Nat) (Option.none : Option Jvm.ClassFile.FieldType), Jvm.Cond.code ({ cls := "com/example/vernacular/vernacular/Table$Column", name := "inheriting", desc := "(IZ)Lcom/example/vernacular/vernacular/Table$Column;" } : Jvm.MethodName) prog_96_method_3_code (3 : Nat) (Option.some (Jvm.ClassFile.FieldType.object "com/example/vernacular/vernacular/Table$Column")), Jvm.Cond.code ({ cls := "com/example/vernacular/vernacular/Table$Column", name := "name", desc := "()Ljava/lang/String;" } : Jvm.MethodName) prog_96_method_7_code (1 : Nat) (Option.some (Jvm.ClassFile.FieldType.object "java/lang/String")), Jvm.Cond.code ({ cls := "java/lang/String", name := "equals", desc := "(Ljava/lang/Object;)Z" } : Jvm.MethodName) jdk_42_method_66_code (3 : Nat) (Option.some Jvm.ClassFile.FieldType.boolean), Jvm.Cond.code ({ cls := "com/example/vernacular/vernacular/Table$Column", name := "position", desc := "()I" } : Jvm.MethodName) prog_96_method_8_code (1 : Nat) (Option.some Jvm.ClassFile.FieldType.int), Jvm.Cond.code ({ cls := "com/example/vernacular/vernacular/Table$Column", name := "lineage", desc := "()Lcom/example/vernacular/vernacular/Lineage;" } : Jvm.MethodName) prog_96_method_9_code (1 : Nat) (Option.some (Jvm.ClassFile.FieldType.object "com/example/vernacular/vernacular/Lineage")), Jvm.Cond.code ({ cls := "com/example/vernacular/vernacular/Table$Column", name := "inherited", desc := "()I" } : Jvm.MethodName) prog_96_method_10_code (1 : Nat) (Option.some Jvm.ClassFile.FieldType.int), Jvm.Cond.code ({ cls := "com/example/vernacular/vernacular/Table$Column", name := "local", desc := "()Z" } : Jvm.MethodName) prog_96_method_11_code (1 : Nat) (Option.some Jvm.ClassFile.FieldType.boolean)]
set_option maxRecDepth 65536 in
theorem codes_eq : words1.filter isCode = codes1 := rfl
theorem w_codes : ∀ c ∈ words1.filter isCode, c.before args0 about1 = true := by
  rw [codes_eq]
  intro c hc
  simp only [codes1, List.mem_cons, List.not_mem_nil, or_false] at hc
  rcases hc with rfl | rfl | rfl | rfl | rfl | rfl | rfl | rfl | rfl | rfl | rfl | rfl | rfl | rfl | rfl | rfl
  · exact w_c0
  · exact w_c1
  · exact w_c2
  · exact w_c3
  · exact w_c4
  · exact w_c5
  · exact w_c6
  · exact w_c7
  · exact w_c8
  · exact w_c9
  · exact w_c10
  · exact w_c11
  · exact w_c12
  · exact w_c13
  · exact w_c14
  · exact w_c15
set_option maxRecDepth 65536 in
theorem w_t1 : (words1.take 24).all (fun c => isCode c || c.before args0 about1) = true := by decide +kernel
set_option maxRecDepth 65536 in
theorem w_t2 : ((words1.drop 24).take 24).all (fun c => isCode c || c.before args0 about1) = true := by decide +kernel
set_option maxRecDepth 65536 in
theorem w_t3 : (((words1.drop 24).drop 24).take 24).all (fun c => isCode c || c.before args0 about1) = true := by decide +kernel
set_option maxRecDepth 65536 in
theorem w_t4 : (((words1.drop 24).drop 24).drop 24).all (fun c => isCode c || c.before args0 about1) = true := by decide +kernel
theorem w_tables : (allAtoms (Jvm.Cond.code x code maxLocals ret :: tables_1)).before args0 about1 = true := by
  rw [allAtoms_all]
  show words1.all (fun c => c.before args0 about1) = true
  refine all_split ?_ w_codes
  rw [← List.take_append_drop 24 words1, List.all_append, w_t1, ← List.take_append_drop 24 (words1.drop 24), List.all_append, w_t2, ← List.take_append_drop 24 ((words1.drop 24).drop 24), List.all_append, w_t3, w_t4]
  rfl
set_option maxRecDepth 65536 in
theorem w_rest : rest_1_c.before args0 about1 = true := by decide +kernel
set_option maxRecDepth 65536 in
theorem w_case : (Jvm.Cond.and given_1 narrow_1).before args0 about1 = true := by decide +kernel
theorem w_applies : (headSpec (Jvm.Cond.code x code maxLocals ret :: tables_1) room_1).applies x e0.platform about1 = true :=
  (Spec.applies_iff w_frames).mpr ⟨w_running, w_runnable, w_alone, w_named, w_hears, w_ripe, w_room, w_tables⟩
theorem atStart : AtStart classFile x code maxLocals ret World_1 tables_1 room_1 Calls_1 rest_1 Pre_1 launch0 p0 e0 about1 theMethod args0 below0 :=
  ⟨lists_1, trivial, launch0.admits_env _ _ _, launch0.least_env, fairChoices_fair.cas, fairChoices_fair.clock, w_frames, w_args, w_heap, w_applies, trivial, w_rest, w_case⟩
end start1
theorem witness_1 : WitnessClaimed_1 := ⟨start1.p0, start1.e0, start1.about1, start1.theMethod, start1.args0, start1.below0, start1.atStart⟩
end Jvm.Pilot.@@N@@
