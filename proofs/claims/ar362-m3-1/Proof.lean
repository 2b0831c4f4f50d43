import JvmDerived
import JvmDerived.Pilot.@@N@@Statement
import JvmDerived.Pilot.@@N@@Code
set_option linter.unusedVariables false
set_option linter.unusedSimpArgs false
/- laws to paste: Road.backV, Road.codOf (cut by pick.py; bodies as the Statement names them) -/
namespace Jvm.Pilot.@@N@@
namespace StrChars
open Jvm Sem ClassFile Op Lib Jvm.Stand Jvm.Free.XT Jvm.Free.ALB Jvm.Free.JM Jvm.Free
open Jvm.Lib.Cold (StaticIs)
/-- a char array whose places are chars -/
def Ch (a : Addr) (A : Cell) (U : State) : Prop := Arr .char a A U ∧ Typed .char A
theorem Ch.mv {a : Addr} {A : Cell} {U U' : State} (h : Ch a A U) (hal : U.vm.Alike U'.vm) (hh : U'.heap = U.heap) : Ch a A U' := ⟨h.1.mv hal hh, h.2⟩
theorem Ch.keep {a : Addr} {A : Cell} {U U' : State} (h : Ch a A U) (hal : U.vm.Alike U'.vm) (hk : U'.heap[a]? = some A) : Ch a A U' := ⟨h.1.keep hal hk, h.2⟩
/-- what place i of a char[]'s cell holds -/
def cv (A : Cell) (i : Nat) : Int32 := match A.slots[i]? with | some (.int x) => x | _ => 0
theorem Ch.get {a : Addr} {A : Cell} {U : State} (h : Ch a A U) {i : Nat} (hi : i < A.slots.size) : A.slots[i]? = some (.int (cv A i)) := by
  have e := Array.getElem?_eq_getElem hi
  have f := h.2 i _ e
  unfold cv; rw [e]
  generalize A.slots[i] = v at f
  cases v <;> simp [fits] at f ⊢
/-- the byte that i2b leaves of a char -/
def lo8 (x : Int32) : Int32 := x.toInt8.toInt32
theorem fits_lo8 (y : Int32) : fits .byte (.int (lo8 y)) = true := by
  have h1 := y.toInt8.le_toInt
  have h2 := y.toInt8.toInt_lt
  simp only [lo8, fits, Bool.and_eq_true, decide_eq_true_eq, Int32.le_iff_toInt_le, Int8.toInt_toInt32, show (-128 : Int32).toInt = -128 from by decide, show (127 : Int32).toInt = 127 from by decide]
  omega
/-- A' is A but that each place j of lo .. hi - 1 holds f j -/
def Laid (A A' : Cell) (lo hi : Nat) (f : Nat → Value) : Prop := A'.cls = A.cls ∧ A'.vm = A.vm ∧ A'.slots.size = A.slots.size ∧ ∀ i, A'.slots[i]? = if lo ≤ i ∧ i < hi then some (f i) else A.slots[i]?
theorem Laid.zero (A : Cell) (lo : Nat) (f : Nat → Value) : Laid A A lo (lo + 0) f := ⟨rfl, rfl, rfl, fun i => by rw [if_neg (by omega)]⟩
theorem Laid.step {A Ak : Cell} {lo k : Nat} {f : Nat → Value} {v : Value} (h : Laid A Ak lo k f) (hlo : lo ≤ k) (hk : k < Ak.slots.size) (hv : v = f k) : Laid A (Ak.setSlot k v) lo (k + 1) f := by
  refine ⟨h.1, h.2.1, by simpa [Cell.setSlot] using h.2.2.1, fun i => ?_⟩
  by_cases e : k = i
  · subst e; rw [Cell.slots_setSlot_self v hk, if_pos (by omega), hv]
  · rw [Cell.slots_setSlot_ne v e, h.2.2.2 i]
    by_cases q : lo ≤ i ∧ i < k
    · rw [if_pos q, if_pos (by omega)]
    · rw [if_neg q, if_neg (by omega)]
def U16 : String := "java/lang/StringUTF16"
namespace Cmp5
def yN : MethodName := ⟨"java/lang/StringUTF16", "compress", "([CI[BII)I"⟩
abbrev yB : ByteArray := jdk_52_method_21_code
theorem d0 : decode yB 0 = .ok (.iconst 0, 1) := by decide +kernel
theorem d1 : decode yB 1 = .ok (.istore 5, 2) := by decide +kernel
theorem d3 : decode yB 3 = .ok (.iload 5, 2) := by decide +kernel
theorem d5 : decode yB 5 = .ok (.iload 4, 2) := by decide +kernel
theorem d7 : decode yB 7 = .ok (.if_icmp (.ge) 37, 3) := by decide +kernel
theorem d10 : decode yB 10 = .ok (.aload_n 0, 1) := by decide +kernel
theorem d11 : decode yB 11 = .ok (.iload_n 1, 1) := by decide +kernel
theorem d12 : decode yB 12 = .ok (.caload, 1) := by decide +kernel
theorem d13 : decode yB 13 = .ok (.istore 6, 2) := by decide +kernel
theorem d15 : decode yB 15 = .ok (.iload 6, 2) := by decide +kernel
theorem d17 : decode yB 17 = .ok (.sipush 255, 3) := by decide +kernel
theorem d20 : decode yB 20 = .ok (.if_icmp (.le) 6, 3) := by decide +kernel
theorem d26 : decode yB 26 = .ok (.aload_n 2, 1) := by decide +kernel
theorem d27 : decode yB 27 = .ok (.iload_n 3, 1) := by decide +kernel
theorem d28 : decode yB 28 = .ok (.iload 6, 2) := by decide +kernel
theorem d30 : decode yB 30 = .ok (.i2b, 1) := by decide +kernel
theorem d31 : decode yB 31 = .ok (.bastore, 1) := by decide +kernel
theorem d32 : decode yB 32 = .ok (.iinc 1 1, 3) := by decide +kernel
theorem d35 : decode yB 35 = .ok (.iinc 3 1, 3) := by decide +kernel
theorem d38 : decode yB 38 = .ok (.iinc 5 1, 3) := by decide +kernel
theorem d41 : decode yB 41 = .ok (.goto (-38), 3) := by decide +kernel
theorem d44 : decode yB 44 = .ok (.iload 4, 2) := by decide +kernel
theorem d46 : decode yB 46 = .ok (.ireturn, 1) := by decide +kernel
def site : List Cond := []
def tab : Cond := tabOf yN yB 7 (some .int) site
def P (b : Addr) (A : Cell) (d : Addr) (B : Cell) (o q len : Nat) (args : Array Value) (s : State) : Prop := args = #[.ref b, .int (Int32.ofNat o), .ref d, .int (Int32.ofNat q), .int (Int32.ofNat len)] ∧ Ch b A s ∧ Arr .byte d B s ∧ b ≠ d ∧ o + len ≤ A.slots.size ∧ q + len ≤ B.slots.size ∧ ∀ i, i < len → ¬ 255 < cv A (o + i)
def E (b : Addr) (A : Cell) (d : Addr) (B : Cell) (o q len : Nat) (r : Option Value) (s u : State) : Prop := r = some (.int (Int32.ofNat len)) ∧ ∃ B', Put d B' s u ∧ Laid B B' q (q + len) (fun j => Value.int (lo8 (cv A (o + (j - q)))))
/-- no char of the range above 255: len; the places written hold each char's low byte -/
theorem law (l : Launch) (b : Addr) (A : Cell) (d : Addr) (B : Cell) (o q len : Nat) : Law l yN 5 5 0 0 yB 7 (some .int) site (P b A d B o q len) (E b A d B o q len) (copyLocs d q len) 0 0 := by
  refine Law.of_walk (plainFor_of_name (by decide +kernel)) (by decide +kernel) (by decide +kernel) (by decide) (fun _ _ h => by rw [h.1]; rfl) (fun _ U U' hal hh h => ⟨h.1, h.2.1.mv hal hh, h.2.2.1.mv hal hh, h.2.2.2⟩) (fun r U U' V V' h1 hal h2 h => ⟨h.1, h.2.elim fun B' q => ⟨B', q.1.mv h1 h2, q.2⟩⟩) ?_
  intro p e s m args below meth c s₁ X0 hexec hbytes hml hret hlk hnm hown hh0 W hP
  obtain ⟨rfl, hA, hB, hne, l1, l2, hp⟩ := hP
  have c1 : Steps p.tables e below (s₁.setTop (entryFrame m #[.ref b, .int (Int32.ofNat o), .ref d, .int (Int32.ofNat q), .int (Int32.ofNat len)] 7)) (s₁.setTop (mkF m 0 #[.val (.ref b), .val (.int (Int32.ofNat o)), .val (.ref d), .val (.int (Int32.ofNat q)), .val (.int (Int32.ofNat len)), .unset, .unset] [])) := entry rfl
  have hA0 := hA.1.mv X0.warmed.alike hh0
  have hB0 := hB.mv X0.warmed.alike hh0
  have a31 := hA.1.2.2.2
  have c2 : Steps p.tables e below (s₁.setTop (entryFrame m #[.ref b, .int (Int32.ofNat o), .ref d, .int (Int32.ofNat q), .int (Int32.ofNat len)] 7)) (s₁.setTop (mkF m 3 #[.val (.ref b), .val (.int (Int32.ofNat o)), .val (.ref d), .val (.int (Int32.ofNat q)), .val (.int (Int32.ofNat len)), .val (.int 0), .unset] [])) := c1.trans (by
    refine iconstV X0.here hexec rfl 0 (hb hbytes d0) (by decide) ?_
    refine XS.istore X0.here hexec rfl (hb hbytes d1) rfl rfl ?_
    exact Steps.refl _)
  have loop : ∀ (r i : Nat), i + r = len → ∀ (z : Slot), (z = .unset ∨ ∃ w, z = .val w ∧ w.category = 1) → ∀ (Tl : State) (Bk : Cell), Stand p l e { frames := 0, locals := 0, cells := 0, slots := 0 } s m #[.ref b, .int (Int32.ofNat o), .ref d, .int (Int32.ofNat q), .int (Int32.ofNat len)] below meth c Tl ([] ++ copyLocs d q i) 0 0 → Put d Bk s₁ Tl → Laid B Bk q (q + i) (fun j => Value.int (lo8 (cv A (o + (j - q))))) →
      Steps p.tables e below (s₁.setTop (entryFrame m #[.ref b, .int (Int32.ofNat o), .ref d, .int (Int32.ofNat q), .int (Int32.ofNat len)] 7)) (Tl.setTop (mkF m 3 #[.val (.ref b), .val (.int (Int32.ofNat (o + i))), .val (.ref d), .val (.int (Int32.ofNat (q + i))), .val (.int (Int32.ofNat len)), .val (.int (Int32.ofNat i)), z] [])) → ∃ (T' : State) (B' : Cell) (z' : Slot), Stand p l e { frames := 0, locals := 0, cells := 0, slots := 0 } s m #[.ref b, .int (Int32.ofNat o), .ref d, .int (Int32.ofNat q), .int (Int32.ofNat len)] below meth c T' ([] ++ copyLocs d q len) 0 0 ∧ Put d B' s₁ T' ∧ Laid B B' q (q + len) (fun j => Value.int (lo8 (cv A (o + (j - q))))) ∧
      Steps p.tables e below (s₁.setTop (entryFrame m #[.ref b, .int (Int32.ofNat o), .ref d, .int (Int32.ofNat q), .int (Int32.ofNat len)] 7)) (T'.setTop (mkF m 3 #[.val (.ref b), .val (.int (Int32.ofNat (o + len))), .val (.ref d), .val (.int (Int32.ofNat (q + len))), .val (.int (Int32.ofNat len)), .val (.int (Int32.ofNat len)), z'] [])) := by
    intro r
    induction r with
    | zero =>
      intro i hi z hz Tl Bk Xl pl fl cl
      have hil : i = len := by omega
      rw [hil] at Xl fl cl
      exact ⟨Tl, Bk, z, Xl, pl, fl, cl⟩
    | succ r ih =>
      intro i hi z hz Tl Bk Xl pl fl cl
      have all := X0.warmed.alike.symm.trans Xl.warmed.alike
      have hAl := hA0.keep all (pl.other hne hA0.1)
      have hBk := hB0.like all pl.1 fl.1 fl.2.1 fl.2.2.1
      have hlt : q + i < Bk.slots.size := by rw [fl.2.2.1]; omega
      have c3 : Steps p.tables e below (s₁.setTop (entryFrame m #[.ref b, .int (Int32.ofNat o), .ref d, .int (Int32.ofNat q), .int (Int32.ofNat len)] 7)) (Tl.setTop (mkF m 12 #[.val (.ref b), .val (.int (Int32.ofNat (o + i))), .val (.ref d), .val (.int (Int32.ofNat (q + i))), .val (.int (Int32.ofNat len)), .val (.int (Int32.ofNat i)), z] [.int (Int32.ofNat (o + i)), .ref b])) := cl.trans (by
        refine XS.iload Xl.here hexec rfl (hb hbytes d3) rfl ?_
        refine XS.iload Xl.here hexec rfl (hb hbytes d5) rfl ?_
        refine XS.icmpNo Xl.here hexec rfl (hb hbytes d7) rfl (ii_ge_f (lt32 (by omega) (by omega))) ?_
        refine XS.aloadN Xl.here hexec rfl (hb hbytes d10) rfl rfl ?_
        refine XS.iloadN Xl.here hexec rfl (hb hbytes d11) rfl ?_
        exact Steps.refl _)
      have c4 : Steps p.tables e below (s₁.setTop (entryFrame m #[.ref b, .int (Int32.ofNat o), .ref d, .int (Int32.ofNat q), .int (Int32.ofNat len)] 7)) (Tl.setTop (mkF m 13 #[.val (.ref b), .val (.int (Int32.ofNat (o + i))), .val (.ref d), .val (.int (Int32.ofNat (q + i))), .val (.int (Int32.ofNat len)), .val (.int (Int32.ofNat i)), z] [.int (cv A (o + i))])) := c3.trans (by
        refine Xl.aget hexec hAl rfl (hA.get (i := o + i) (by omega)) rfl rfl (hb hbytes d12) ?_
        exact Steps.refl _)
      have c5 : Steps p.tables e below (s₁.setTop (entryFrame m #[.ref b, .int (Int32.ofNat o), .ref d, .int (Int32.ofNat q), .int (Int32.ofNat len)] 7)) (Tl.setTop (mkF m 15 #[.val (.ref b), .val (.int (Int32.ofNat (o + i))), .val (.ref d), .val (.int (Int32.ofNat (q + i))), .val (.int (Int32.ofNat len)), .val (.int (Int32.ofNat i)), .val (.int (cv A (o + i)))] [])) := c4.trans (by
        refine XS.istoreS Xl.here hexec rfl (hb hbytes d13) rfl rfl hz ?_
        exact Steps.refl _)
      have c6 : Steps p.tables e below (s₁.setTop (entryFrame m #[.ref b, .int (Int32.ofNat o), .ref d, .int (Int32.ofNat q), .int (Int32.ofNat len)] 7)) (Tl.setTop (mkF m 31 #[.val (.ref b), .val (.int (Int32.ofNat (o + i))), .val (.ref d), .val (.int (Int32.ofNat (q + i))), .val (.int (Int32.ofNat len)), .val (.int (Int32.ofNat i)), .val (.int (cv A (o + i)))] [.int (lo8 (cv A (o + i))), .int (Int32.ofNat (q + i)), .ref d])) := c5.trans (by
        refine XS.iload Xl.here hexec rfl (hb hbytes d15) rfl ?_
        refine sipushV Xl.here hexec rfl 255 (hb hbytes d17) (by decide) ?_
        refine XS.icmpYes Xl.here hexec rfl (pc0 := 20) rfl (hb hbytes d20) rfl (ii_le_t (hp i (by omega))) (by decide) rfl ?_
        refine XS.aloadN Xl.here hexec rfl (hb hbytes d26) rfl rfl ?_
        refine XS.iloadN Xl.here hexec rfl (hb hbytes d27) rfl ?_
        refine XS.iload Xl.here hexec rfl (hb hbytes d28) rfl ?_
        refine i2b Xl.here hexec rfl (hb hbytes d30) rfl ?_
        exact Steps.refl _)
      obtain ⟨T7, X7, p7, st7⟩ := Xl.aput hexec hBk rfl hlt rfl (fits_lo8 (cv A (o + i))) (g := (mkF m 31 #[.val (.ref b), .val (.int (Int32.ofNat (o + i))), .val (.ref d), .val (.int (Int32.ofNat (q + i))), .val (.int (Int32.ofNat len)), .val (.int (Int32.ofNat i)), .val (.int (cv A (o + i)))] [.int (lo8 (cv A (o + i))), .int (Int32.ofNat (q + i)), .ref d])) rfl (rest := []) rfl (hb hbytes d31)
      have c8 : Steps p.tables e below (s₁.setTop (entryFrame m #[.ref b, .int (Int32.ofNat o), .ref d, .int (Int32.ofNat q), .int (Int32.ofNat len)] 7)) (T7.setTop (mkF m 32 #[.val (.ref b), .val (.int (Int32.ofNat (o + i))), .val (.ref d), .val (.int (Int32.ofNat (q + i))), .val (.int (Int32.ofNat len)), .val (.int (Int32.ofNat i)), .val (.int (cv A (o + i)))] [])) := c6.trans (st7 _ (Steps.refl _))
      have c9 : Steps p.tables e below (s₁.setTop (entryFrame m #[.ref b, .int (Int32.ofNat o), .ref d, .int (Int32.ofNat q), .int (Int32.ofNat len)] 7)) (T7.setTop (mkF m 3 #[.val (.ref b), .val (.int (Int32.ofNat (o + i) + 1)), .val (.ref d), .val (.int (Int32.ofNat (q + i) + 1)), .val (.int (Int32.ofNat len)), .val (.int (Int32.ofNat i + 1)), .val (.int (cv A (o + i)))] [])) := c8.trans (by
        refine iincV X7.here hexec rfl 1 (hb hbytes d32) (by decide) rfl rfl ?_
        refine iincV X7.here hexec rfl 1 (hb hbytes d35) (by decide) rfl rfl ?_
        refine iincV X7.here hexec rfl 1 (hb hbytes d38) (by decide) rfl rfl ?_
        refine XS.goto X7.here hexec rfl (pc0 := 41) rfl (hb hbytes d41) (by decide) rfl ?_
        exact Steps.refl _)
      have c10 : Steps p.tables e below (s₁.setTop (entryFrame m #[.ref b, .int (Int32.ofNat o), .ref d, .int (Int32.ofNat q), .int (Int32.ofNat len)] 7)) (T7.setTop (mkF m 3 #[.val (.ref b), .val (.int (Int32.ofNat (o + (i + 1)))), .val (.ref d), .val (.int (Int32.ofNat (q + (i + 1)))), .val (.int (Int32.ofNat len)), .val (.int (Int32.ofNat (i + 1))), .val (.int (cv A (o + i)))] [])) := by
        have := c9
        rw [succ32, succ32, succ32] at this
        exact this
      exact ih (i + 1) (by omega) _ (Or.inr ⟨_, rfl, rfl⟩) T7 _ (by rw [copyLocs_step, ← List.append_assoc]; exact X7) (pl.trans p7) (fl.step (by omega) hlt (by simp)) c10
  obtain ⟨T9, B9, z9, X9, p9, f9, g9⟩ := loop len 0 (by omega) .unset (Or.inl rfl) s₁ B (by simpa [copyLocs] using X0) ⟨hB0.1, fun _ _ => rfl, rfl⟩ (Laid.zero _ _ _) c2
  have c11 : Steps p.tables e below (s₁.setTop (entryFrame m #[.ref b, .int (Int32.ofNat o), .ref d, .int (Int32.ofNat q), .int (Int32.ofNat len)] 7)) (T9.setTop (mkF m 46 #[.val (.ref b), .val (.int (Int32.ofNat (o + len))), .val (.ref d), .val (.int (Int32.ofNat (q + len))), .val (.int (Int32.ofNat len)), .val (.int (Int32.ofNat len)), z9] [.int (Int32.ofNat len)])) := g9.trans (by
    refine XS.iload X9.here hexec rfl (hb hbytes d3) rfl ?_
    refine XS.iload X9.here hexec rfl (hb hbytes d5) rfl ?_
    refine XS.icmpYes X9.here hexec rfl (pc0 := 7) rfl (hb hbytes d7) rfl (ii_ge_t (nlt32 (by omega) (Nat.le_refl _))) (by decide) rfl ?_
    refine XS.iload X9.here hexec rfl (hb hbytes d44) rfl ?_
    exact Steps.refl _)
  exact ⟨T9, some (.int (Int32.ofNat len)), _, _, _, X9, by simp, rfl, rfl, (fun h => by cases h), ⟨rfl, B9, p9.from hh0, f9⟩, fun fs hl => c11.trans (X9.ireturnOut hexec hret rfl (Or.inl rfl) (hb hbytes d46) hl)⟩
end Cmp5
namespace Cmp3
def yN : MethodName := ⟨"java/lang/StringUTF16", "compress", "([CII)[B"⟩
abbrev yB : ByteArray := jdk_52_method_16_code
theorem d0 : decode yB 0 = .ok (.iload_n 2, 1) := by decide +kernel
theorem d1 : decode yB 1 = .ok (.newarray .byte, 2) := by decide +kernel
theorem d3 : decode yB 3 = .ok (.astore_n 3, 1) := by decide +kernel
theorem d4 : decode yB 4 = .ok (.aload_n 0, 1) := by decide +kernel
theorem d5 : decode yB 5 = .ok (.iload_n 1, 1) := by decide +kernel
theorem d6 : decode yB 6 = .ok (.aload_n 3, 1) := by decide +kernel
theorem d7 : decode yB 7 = .ok (.iconst 0, 1) := by decide +kernel
theorem d8 : decode yB 8 = .ok (.iload_n 2, 1) := by decide +kernel
theorem d9 : decode yB 9 = .ok (.invokestatic 115, 3) := by decide +kernel
theorem d12 : decode yB 12 = .ok (.istore 4, 2) := by decide +kernel
theorem d14 : decode yB 14 = .ok (.iload 4, 2) := by decide +kernel
theorem d16 : decode yB 16 = .ok (.iload_n 2, 1) := by decide +kernel
theorem d17 : decode yB 17 = .ok (.if_icmp (.eq) 40, 3) := by decide +kernel
theorem d57 : decode yB 57 = .ok (.aload_n 3, 1) := by decide +kernel
theorem d58 : decode yB 58 = .ok (.areturn, 1) := by decide +kernel
def site : List Cond := [.arrayClass .byte, Cmp5.tab] ++ staticW U16 115 Cmp5.yN
def tab : Cond := tabOf yN yB 6 (some (.array .byte)) site
def P (b : Addr) (A : Cell) (o len : Nat) (args : Array Value) (s : State) : Prop := args = #[.ref b, .int (Int32.ofNat o), .int (Int32.ofNat len)] ∧ Ch b A s ∧ o + len ≤ A.slots.size ∧ len ≤ 536870912 ∧ ∀ i, i < len → ¬ 255 < cv A (o + i)
def E (b : Addr) (A : Cell) (o len : Nat) (r : Option Value) (s u : State) : Prop := NewArr .byte "[B" len (fun j => .int (lo8 (cv A (o + j)))) r s u ∧ u.heap.size = s.heap.size + 1
/-- no char of the range above 255: a new byte[] of their low bytes -/
theorem law (l : Launch) (b : Addr) (A : Cell) (o len : Nat) : Law l yN 3 3 1 18 yB 6 (some (.array .byte)) site (P b A o len) (E b A o len) [] 1 len := by
  refine Law.of_walk (plainFor_of_name (by decide +kernel)) (by decide +kernel) (by decide +kernel) (by decide) (fun _ _ h => by rw [h.1]; rfl) (fun _ U U' hal hh h => ⟨h.1, h.2.1.mv hal hh, h.2.2⟩) (fun r U U' V V' h1 hal h2 h => ⟨NewArr.mv r U U' V V' h1 hal h2 h.1, by rw [h1, h2]; exact h.2⟩) ?_
  intro p e s m args below meth c s₁ X0 hexec hbytes hml hret hlk hnm hown hh0 W hP
  obtain ⟨rfl, hA, l1, l2, hp⟩ := hP
  have a31 := hA.1.2.2.2
  have c1 : Steps p.tables e below (s₁.setTop (entryFrame m #[.ref b, .int (Int32.ofNat o), .int (Int32.ofNat len)] 6)) (s₁.setTop (mkF m 0 #[.val (.ref b), .val (.int (Int32.ofNat o)), .val (.int (Int32.ofNat len)), .unset, .unset, .unset] [])) := entry rfl
  have c2 : Steps p.tables e below (s₁.setTop (entryFrame m #[.ref b, .int (Int32.ofNat o), .int (Int32.ofNat len)] 6)) (s₁.setTop (mkF m 1 #[.val (.ref b), .val (.int (Int32.ofNat o)), .val (.int (Int32.ofNat len)), .unset, .unset, .unset] [.int (Int32.ofNat len)])) := c1.trans (by
    refine XS.iloadN X0.here hexec rfl (hb hbytes d0) rfl ?_
    exact Steps.refl _)
  obtain ⟨T3, B3, X3, ba3, bs3, bv3, bh3, bf3, st3⟩ := X0.anew hexec (atype := .byte) (wk W (.arrayClass .byte)) rfl (by show len * 1 ≤ _; omega) (by omega) (g := (mkF m 1 #[.val (.ref b), .val (.int (Int32.ofNat o)), .val (.int (Int32.ofNat len)), .unset, .unset, .unset] [.int (Int32.ofNat len)])) rfl (hb hbytes d1) (rest := []) rfl (Nat.le_refl _) (by show 0 + len ≤ len; omega)
  rw [hh0] at ba3 st3
  have kp3 : XT.Kept s T3 := (XT.Kept.of_eq hh0).push bh3
  have hA3 := hA.keep X3.warmed.alike (kp3 _ _ hA.1.1)
  have hne : b ≠ s.heap.size := hA.1.ne
  have c4 : Steps p.tables e below (s₁.setTop (entryFrame m #[.ref b, .int (Int32.ofNat o), .int (Int32.ofNat len)] 6)) (T3.setTop (mkF m 3 #[.val (.ref b), .val (.int (Int32.ofNat o)), .val (.int (Int32.ofNat len)), .unset, .unset, .unset] [.ref s.heap.size])) := c2.trans (st3 _ (Steps.refl _))
  have c5 : Steps p.tables e below (s₁.setTop (entryFrame m #[.ref b, .int (Int32.ofNat o), .int (Int32.ofNat len)] 6)) (T3.setTop (mkF m 9 #[.val (.ref b), .val (.int (Int32.ofNat o)), .val (.int (Int32.ofNat len)), .val (.ref s.heap.size), .unset, .unset] [.int (Int32.ofNat len), .int 0, .ref s.heap.size, .int (Int32.ofNat o), .ref b])) := c4.trans (by
    refine XS.astoreN X3.here hexec rfl (hb hbytes d3) rfl rfl rfl ?_
    refine XS.aloadN X3.here hexec rfl (hb hbytes d4) rfl rfl ?_
    refine XS.iloadN X3.here hexec rfl (hb hbytes d5) rfl ?_
    refine XS.aloadN X3.here hexec rfl (hb hbytes d6) rfl rfl ?_
    refine iconstV X3.here hexec rfl 0 (hb hbytes d7) (by decide) ?_
    refine XS.iloadN X3.here hexec rfl (hb hbytes d8) rfl ?_
    exact Steps.refl _)
  obtain ⟨v6, T6, X6, E6, g6⟩ := X3.callS hexec (Cmp5.law l b A s.heap.size B3 o 0 len) hown (wks W (staticW U16 115 Cmp5.yN)) (wk W Cmp5.tab) (W := 0) (Nat.le_of_ble_eq_true rfl) (Nat.le_of_ble_eq_true rfl) (Nat.le_refl _) (by show 0 + len + 0 ≤ len; omega) (g := (mkF m 9 #[.val (.ref b), .val (.int (Int32.ofNat o)), .val (.int (Int32.ofNat len)), .val (.ref s.heap.size), .unset, .unset] [.int (Int32.ofNat len), .int (Int32.ofNat 0), .ref s.heap.size, .int (Int32.ofNat o), .ref b])) rfl (by rw [hml]; rfl) c5 (argsL := [.ref b, .int (Int32.ofNat o), .ref s.heap.size, .int (Int32.ofNat 0), .int (Int32.ofNat len)]) (rest := []) rfl rfl (by show 2 * 0 + 0 ≤ _; decide) (hb hbytes d9) (⟨rfl, hA3, ba3, hne, l1, by rw [bs3]; simp, hp⟩)
  obtain ⟨rfl, B6, p6, f6⟩ := E6
  have c7 : Steps p.tables e below (s₁.setTop (entryFrame m #[.ref b, .int (Int32.ofNat o), .int (Int32.ofNat len)] 6)) (T6.setTop (mkF m 12 #[.val (.ref b), .val (.int (Int32.ofNat o)), .val (.int (Int32.ofNat len)), .val (.ref s.heap.size), .unset, .unset] [.int (Int32.ofNat len)])) := g6
  have c8 : Steps p.tables e below (s₁.setTop (entryFrame m #[.ref b, .int (Int32.ofNat o), .int (Int32.ofNat len)] 6)) (T6.setTop (mkF m 58 #[.val (.ref b), .val (.int (Int32.ofNat o)), .val (.int (Int32.ofNat len)), .val (.ref s.heap.size), .val (.int (Int32.ofNat len)), .unset] [.ref s.heap.size])) := c7.trans (by
    refine XS.istore X6.here hexec rfl (hb hbytes d12) rfl rfl ?_
    refine XS.iload X6.here hexec rfl (hb hbytes d14) rfl ?_
    refine XS.iloadN X6.here hexec rfl (hb hbytes d16) rfl ?_
    refine XS.icmpYes X6.here hexec rfl (pc0 := 17) rfl (hb hbytes d17) rfl (ii_eq_t rfl) (by decide) rfl ?_
    refine XS.aloadN X6.here hexec rfl (hb hbytes d57) rfl rfl ?_
    exact Steps.refl _)
  have X8 := X6.wide (L' := []) (cells' := 1) (slots' := len) (fun x hx hlt => by
    simp only [List.nil_append, copyLocs, List.mem_map, List.mem_range] at hx
    obtain ⟨i, -, rfl⟩ := hx
    exact absurd hlt (Nat.lt_irrefl _)) (Nat.le_refl _) (by omega)
  exact ⟨T6, some (.ref s.heap.size), _, _, _, X8, rfl, rfl, rfl, (fun h => by cases h), ⟨⟨rfl, B6, ba3.like (X3.warmed.alike.symm.trans X6.warmed.alike) p6.1 f6.1 f6.2.1 f6.2.2.1, f6.2.1.trans bv3, by rw [X6.warmed.alike.findClass, f6.1]; exact bf3, by rw [f6.2.2.1, bs3]; simp, fun j hj => by rw [f6.2.2.2 j, if_pos (by omega)]; rfl, kp3.put p6 (Nat.le_refl _)⟩, by rw [p6.2.2, bh3, hh0]; simp⟩, fun fs hl => c8.trans (X8.areturnOut hexec rfl hret rfl (hb hbytes d58) hl)⟩
end Cmp3
namespace CodL
def yN : MethodName := ⟨"java/lang/StringUTF16", "coderFromArrayLen", "([BI)B"⟩
abbrev yB : ByteArray := jdk_52_method_15_code
theorem d0 : decode yB 0 = .ok (.iload_n 1, 1) := by decide +kernel
theorem d1 : decode yB 1 = .ok (.aload_n 0, 1) := by decide +kernel
theorem d2 : decode yB 2 = .ok (.arraylength, 1) := by decide +kernel
theorem d3 : decode yB 3 = .ok (.isub, 1) := by decide +kernel
theorem d4 : decode yB 4 = .ok (.bipush 31, 2) := by decide +kernel
theorem d6 : decode yB 6 = .ok (.iushr, 1) := by decide +kernel
theorem d7 : decode yB 7 = .ok (.i2b, 1) := by decide +kernel
theorem d8 : decode yB 8 = .ok (.ireturn, 1) := by decide +kernel
def site : List Cond := []
def tab : Cond := tabOf yN yB 2 (some .byte) site
def P (d : Addr) (B : Cell) (args : Array Value) (s : State) : Prop := args = #[.ref d, .int (Int32.ofNat B.slots.size)] ∧ Arr .byte d B s
def E (r : Option Value) (s u : State) : Prop := XT.PureE (some (.int 0)) r s u
/-- an array as long as the number of chars: LATIN1 -/
theorem law (l : Launch) (d : Addr) (B : Cell) : Law l yN 2 2 0 0 yB 2 (some .byte) site (P d B) E [] 0 0 := by
  refine Law.of_walk (plainFor_of_name (by decide +kernel)) (by decide +kernel) (by decide +kernel) (by decide) (fun _ _ h => by rw [h.1]; rfl) (fun _ U U' hal hh h => ⟨h.1, h.2.mv hal hh⟩) (fun r U U' V V' h1 hal h2 h => XT.PureE.mv r U U' V V' h1 hal h2 h) ?_
  intro p e s m args below meth c s₁ X0 hexec hbytes hml hret hlk hnm hown hh0 W hP
  obtain ⟨rfl, hB⟩ := hP
  have hB0 := hB.mv X0.warmed.alike hh0
  have c1 : Steps p.tables e below (s₁.setTop (entryFrame m #[.ref d, .int (Int32.ofNat B.slots.size)] 2)) (s₁.setTop (mkF m 0 #[.val (.ref d), .val (.int (Int32.ofNat B.slots.size))] [])) := entry rfl
  have c2 : Steps p.tables e below (s₁.setTop (entryFrame m #[.ref d, .int (Int32.ofNat B.slots.size)] 2)) (s₁.setTop (mkF m 2 #[.val (.ref d), .val (.int (Int32.ofNat B.slots.size))] [.ref d, .int (Int32.ofNat B.slots.size)])) := c1.trans (by
    refine XS.iloadN X0.here hexec rfl (hb hbytes d0) rfl ?_
    refine XS.aloadN X0.here hexec rfl (hb hbytes d1) rfl rfl ?_
    exact Steps.refl _)
  have c3 : Steps p.tables e below (s₁.setTop (entryFrame m #[.ref d, .int (Int32.ofNat B.slots.size)] 2)) (s₁.setTop (mkF m 8 #[.val (.ref d), .val (.int (Int32.ofNat B.slots.size))] [.int (lo8 (ushr (Int32.ofNat B.slots.size - Int32.ofNat B.slots.size) 31))])) := c2.trans (by
    refine X0.alen hexec hB0 rfl rfl (hb hbytes d2) ?_
    refine XS.isub X0.here hexec rfl (hb hbytes d3) rfl ?_
    refine bipushV X0.here hexec rfl 31 (hb hbytes d4) (by decide) ?_
    refine iushr X0.here hexec rfl (hb hbytes d6) rfl ?_
    refine i2b X0.here hexec rfl (hb hbytes d7) rfl ?_
    exact Steps.refl _)
  have e0 : lo8 (ushr (Int32.ofNat B.slots.size - Int32.ofNat B.slots.size) 31) = 0 := by rw [Int32.sub_self]; decide
  rw [e0] at c3
  exact ⟨s₁, some (.int 0), _, _, _, X0, rfl, rfl, rfl, (fun h => by cases h), ⟨rfl, hh0⟩, fun fs hl => c3.trans (X0.ireturnOut hexec hret rfl (Or.inr (Or.inr (Or.inl rfl))) (hb hbytes d8) hl)⟩
end CodL
/-- the String at a is Latin-1 over a new byte[] (the heap's one new cell): the low bytes of the len chars of A from o on; every cell but a is kept -/
def Got (a : Addr) (D : Cell) (fV fC : Field) (A : Cell) (o len : Nat) (r : Option Value) (s u : State) : Prop := r = none ∧ ∃ D' V : Cell, Blank "java/lang/String" a D' u ∧ Same D D' [fV.slot, fC.slot] ∧ D'.slots[fV.slot]? = some (.ref s.heap.size) ∧ D'.slots[fC.slot]? = some (.int 0) ∧ Arr .byte s.heap.size V u ∧ V.vm = .none ∧ u.vm.findClass "[B" = some V.cls ∧ V.slots.size = len ∧ (∀ j, j < len → V.slots[j]? = some (.int (lo8 (cv A (o + j))))) ∧ (∀ (y : Addr) (c : Cell), y ≠ a → s.heap[y]? = some c → u.heap[y]? = some c) ∧ u.heap.size = s.heap.size + 1
theorem Got.mv {a : Addr} {D A : Cell} {fV fC : Field} {o len : Nat} : ∀ r (U U' V V' : State), U'.heap = U.heap → V.vm.Alike V'.vm → V'.heap = V.heap → Got a D fV fC A o len r U V → Got a D fV fC A o len r U' V' :=
  fun r U U' V V' h1 hal h2 ⟨e0, D', X, a1, a2, a3, a4, a5, a6, a7, a8, a9, a10, a11⟩ => ⟨e0, D', X, a1.mv hal h2, a2, by rw [h1]; exact a3, a4, by rw [h1]; exact a5.mv hal h2, a6, by rw [hal.findClass]; exact a7, a8, a9, by rw [h1, h2]; exact a10, by rw [h1, h2]; exact a11⟩
namespace New4
def yN : MethodName := ⟨"java/lang/String", "<init>", "([CIILjava/lang/Void;)V"⟩
abbrev yB : ByteArray := jdk_42_method_149_code
theorem d0 : decode yB 0 = .ok (.aload_n 0, 1) := by decide +kernel
theorem d1 : decode yB 1 = .ok (.invokespecial 1, 3) := by decide +kernel
theorem d4 : decode yB 4 = .ok (.iload_n 3, 1) := by decide +kernel
theorem d5 : decode yB 5 = .ok (.ifCond (.ne) 22, 3) := by decide +kernel
theorem d27 : decode yB 27 = .ok (.getstatic 38, 3) := by decide +kernel
theorem d30 : decode yB 30 = .ok (.ifCond (.eq) 28, 3) := by decide +kernel
theorem d33 : decode yB 33 = .ok (.aload_n 1, 1) := by decide +kernel
theorem d34 : decode yB 34 = .ok (.iload_n 2, 1) := by decide +kernel
theorem d35 : decode yB 35 = .ok (.iload_n 3, 1) := by decide +kernel
theorem d36 : decode yB 36 = .ok (.invokestatic 177, 3) := by decide +kernel
theorem d39 : decode yB 39 = .ok (.astore 5, 2) := by decide +kernel
theorem d41 : decode yB 41 = .ok (.aload_n 0, 1) := by decide +kernel
theorem d42 : decode yB 42 = .ok (.aload 5, 2) := by decide +kernel
theorem d44 : decode yB 44 = .ok (.iload_n 3, 1) := by decide +kernel
theorem d45 : decode yB 45 = .ok (.invokestatic 47, 3) := by decide +kernel
theorem d48 : decode yB 48 = .ok (.putfield 15, 3) := by decide +kernel
theorem d51 : decode yB 51 = .ok (.aload_n 0, 1) := by decide +kernel
theorem d52 : decode yB 52 = .ok (.aload 5, 2) := by decide +kernel
theorem d54 : decode yB 54 = .ok (.putfield 9, 3) := by decide +kernel
theorem d57 : decode yB 57 = .ok (.return_, 1) := by decide +kernel
def site : List Cond := [.fieldLink "java/lang/String" 38 "java/lang/String" "COMPACT_STRINGS" "Z", Cmp3.tab, CodL.tab, .laysFinal "java/lang/String" "java/lang/String" "value" "[B", .fieldLink "java/lang/String" 9 "java/lang/String" "value" "[B", .laysFinal "java/lang/String" "java/lang/String" "coder" "B", .fieldLink "java/lang/String" 15 "java/lang/String" "coder" "B"] ++ objW "java/lang/String" 1 ++ staticW "java/lang/String" 177 Cmp3.yN ++ staticW "java/lang/String" 47 CodL.yN
def tab : Cond := tabOf yN yB 6 none site
def P (a : Addr) (D : Cell) (fV fC : Field) (b : Addr) (A : Cell) (z : Int32) (o len : Nat) (args : Array Value) (s : State) : Prop := args = #[.ref a, .ref b, .int (Int32.ofNat o), .int (Int32.ofNat len), .null] ∧ Blank "java/lang/String" a D s ∧ Found "java/lang/String" "value" "[B" fV s ∧ Found "java/lang/String" "coder" "B" fC s ∧ Ch b A s ∧ StaticIs s "java/lang/String" "COMPACT_STRINGS" "Z" (.int z) ∧ ¬ z = 0 ∧ 0 < len ∧ o + len ≤ A.slots.size ∧ len ≤ 536870912 ∧ ∀ i, i < len → ¬ 255 < cv A (o + i)
def E (a : Addr) (D : Cell) (fV fC : Field) (A : Cell) (o len : Nat) (r : Option Value) (s u : State) : Prop := Got a D fV fC A o len r s u
/-- len > 0, no char of the range above 255: a Latin-1 String of their low bytes -/
theorem law (l : Launch) (a : Addr) (D : Cell) (fV fC : Field) (b : Addr) (A : Cell) (z : Int32) (o len : Nat) : Law l yN 5 4 2 35 yB 6 none site (P a D fV fC b A z o len) (E a D fV fC A o len) [⟨a, fC.slot⟩, ⟨a, fV.slot⟩] 1 len := by
  refine Law.of_walk (plainFor_of_name (by decide +kernel)) (by decide +kernel) (by decide +kernel) (by decide) (fun _ _ h => by rw [h.1]; rfl) (fun _ U U' hal hh h => ⟨h.1, h.2.1.mv hal hh, h.2.2.1.al hal, h.2.2.2.1.al hal, h.2.2.2.2.1.mv hal hh, h.2.2.2.2.2.1.there hal hh, h.2.2.2.2.2.2⟩) (fun r U U' V V' h1 hal h2 h => Got.mv r U U' V V' h1 hal h2 h) ?_
  intro p e s m args below meth c s₁ X0 hexec hbytes hml hret hlk hnm hown hh0 W hP
  obtain ⟨rfl, hB, f1, f2, hA, s1, hz, l0, l1, l2, hp⟩ := hP
  have a31 := hA.1.2.2.2
  have c1 : Steps p.tables e below (s₁.setTop (entryFrame m #[.ref a, .ref b, .int (Int32.ofNat o), .int (Int32.ofNat len), .null] 6)) (s₁.setTop (mkF m 0 #[.val (.ref a), .val (.ref b), .val (.int (Int32.ofNat o)), .val (.int (Int32.ofNat len)), .val .null, .unset] [])) := entry rfl
  have c2 : Steps p.tables e below (s₁.setTop (entryFrame m #[.ref a, .ref b, .int (Int32.ofNat o), .int (Int32.ofNat len), .null] 6)) (s₁.setTop (mkF m 1 #[.val (.ref a), .val (.ref b), .val (.int (Int32.ofNat o)), .val (.int (Int32.ofNat len)), .val .null, .unset] [.ref a])) := c1.trans (by
    refine XS.aloadN X0.here hexec rfl (hb hbytes d0) rfl rfl ?_
    exact Steps.refl _)
  obtain ⟨T3, X3, q3, st3⟩ := X0.oinit hexec hown (wks W (objW "java/lang/String" 1)) (g := (mkF m 1 #[.val (.ref a), .val (.ref b), .val (.int (Int32.ofNat o)), .val (.int (Int32.ofNat len)), .val .null, .unset] [.ref a])) rfl (by rw [hml]; rfl) (rest := []) rfl (hb hbytes d1) (W := 0) (by show 2 * 0 + 0 ≤ _; decide) (Nat.le_of_ble_eq_true rfl) (Nat.le_of_ble_eq_true rfl)
  have hh3 := q3.trans hh0
  have c4 : Steps p.tables e below (s₁.setTop (entryFrame m #[.ref a, .ref b, .int (Int32.ofNat o), .int (Int32.ofNat len), .null] 6)) (T3.setTop (mkF m 27 #[.val (.ref a), .val (.ref b), .val (.int (Int32.ofNat o)), .val (.int (Int32.ofNat len)), .val .null, .unset] [])) := (c2.trans (st3 _ (Steps.refl _))).trans (by
    refine XS.iloadN X3.here hexec rfl (hb hbytes d4) rfl ?_
    refine XS.ifYes X3.here hexec rfl (pc0 := 5) rfl (hb hbytes d5) rfl (i0_ne_t (nz32 (by omega) l0)) (by decide) rfl ?_
    exact Steps.refl _)
  obtain ⟨T5, X5, q5, st5⟩ := X3.sget hexec hown (wk W (.fieldLink "java/lang/String" 38 "java/lang/String" "COMPACT_STRINGS" "Z")) s1 (fun _ _ h => by rw [hh3]; exact h) (g := (mkF m 27 #[.val (.ref a), .val (.ref b), .val (.int (Int32.ofNat o)), .val (.int (Int32.ofNat len)), .val .null, .unset] [])) rfl (hb hbytes d27)
  have hh5 := q5.trans hh3
  have c6 : Steps p.tables e below (s₁.setTop (entryFrame m #[.ref a, .ref b, .int (Int32.ofNat o), .int (Int32.ofNat len), .null] 6)) (T5.setTop (mkF m 30 #[.val (.ref a), .val (.ref b), .val (.int (Int32.ofNat o)), .val (.int (Int32.ofNat len)), .val .null, .unset] [.int z])) := c4.trans (st5 _ (Steps.refl _))
  have c7 : Steps p.tables e below (s₁.setTop (entryFrame m #[.ref a, .ref b, .int (Int32.ofNat o), .int (Int32.ofNat len), .null] 6)) (T5.setTop (mkF m 36 #[.val (.ref a), .val (.ref b), .val (.int (Int32.ofNat o)), .val (.int (Int32.ofNat len)), .val .null, .unset] [.int (Int32.ofNat len), .int (Int32.ofNat o), .ref b])) := c6.trans (by
    refine XS.ifNo X5.here hexec rfl (hb hbytes d30) rfl (i0_eq_f hz) ?_
    refine XS.aloadN X5.here hexec rfl (hb hbytes d33) rfl rfl ?_
    refine XS.iloadN X5.here hexec rfl (hb hbytes d34) rfl ?_
    refine XS.iloadN X5.here hexec rfl (hb hbytes d35) rfl ?_
    exact Steps.refl _)
  obtain ⟨v8, T8, X8, E8, g8⟩ := X5.callS hexec (Cmp3.law l b A o len) hown (wks W (staticW "java/lang/String" 177 Cmp3.yN)) (wk W Cmp3.tab) (W := 0) (Nat.le_of_ble_eq_true rfl) (Nat.le_of_ble_eq_true rfl) (Nat.le_refl _) (by show 0 + len ≤ len; omega) (g := (mkF m 36 #[.val (.ref a), .val (.ref b), .val (.int (Int32.ofNat o)), .val (.int (Int32.ofNat len)), .val .null, .unset] [.int (Int32.ofNat len), .int (Int32.ofNat o), .ref b])) rfl (by rw [hml]; rfl) c7 (argsL := [.ref b, .int (Int32.ofNat o), .int (Int32.ofNat len)]) (rest := []) rfl rfl (by show 2 * 0 + 0 ≤ _; decide) (hb hbytes d36) (⟨rfl, hA.mv X5.warmed.alike hh5, l1, l2, hp⟩)
  obtain ⟨e8, z8⟩ := E8
  obtain ⟨rfl, N, n1, n2, n3, n4, n5, n6⟩ := NewArr.mv _ T5 s _ _ hh5.symm (Vm.Alike.refl _) rfl e8
  rw [hh5] at z8
  have hB1 := hB.keep X8.warmed.alike (n6 _ _ hB.1)
  have hne : s.heap.size ≠ a := (Nat.ne_of_lt (Array.getElem?_eq_some_iff.mp hB.1).1).symm
  have c9 : Steps p.tables e below (s₁.setTop (entryFrame m #[.ref a, .ref b, .int (Int32.ofNat o), .int (Int32.ofNat len), .null] 6)) (T8.setTop (mkF m 39 #[.val (.ref a), .val (.ref b), .val (.int (Int32.ofNat o)), .val (.int (Int32.ofNat len)), .val .null, .unset] [.ref s.heap.size])) := g8
  have c10 : Steps p.tables e below (s₁.setTop (entryFrame m #[.ref a, .ref b, .int (Int32.ofNat o), .int (Int32.ofNat len), .null] 6)) (T8.setTop (mkF m 45 #[.val (.ref a), .val (.ref b), .val (.int (Int32.ofNat o)), .val (.int (Int32.ofNat len)), .val .null, .val (.ref s.heap.size)] [.int (Int32.ofNat N.slots.size), .ref s.heap.size, .ref a])) := by
    have hc : Steps p.tables e below (s₁.setTop (entryFrame m #[.ref a, .ref b, .int (Int32.ofNat o), .int (Int32.ofNat len), .null] 6)) (T8.setTop (mkF m 45 #[.val (.ref a), .val (.ref b), .val (.int (Int32.ofNat o)), .val (.int (Int32.ofNat len)), .val .null, .val (.ref s.heap.size)] [.int (Int32.ofNat len), .ref s.heap.size, .ref a])) := c9.trans (by
      refine XS.astore X8.here hexec rfl (hb hbytes d39) rfl rfl rfl ?_
      refine XS.aloadN X8.here hexec rfl (hb hbytes d41) rfl rfl ?_
      refine XS.aload X8.here hexec rfl (hb hbytes d42) rfl rfl ?_
      refine XS.iloadN X8.here hexec rfl (hb hbytes d44) rfl ?_
      exact Steps.refl _)
    rw [n4]; exact hc
  obtain ⟨v11, T11, X11, E11, g11⟩ := X8.callS hexec (CodL.law l s.heap.size N) hown (wks W (staticW "java/lang/String" 47 CodL.yN)) (wk W CodL.tab) (W := 1) (Nat.le_of_ble_eq_true rfl) (Nat.le_of_ble_eq_true rfl) (Nat.le_refl _) (by show 0 + len + 0 ≤ len; omega) (g := (mkF m 45 #[.val (.ref a), .val (.ref b), .val (.int (Int32.ofNat o)), .val (.int (Int32.ofNat len)), .val .null, .val (.ref s.heap.size)] [.int (Int32.ofNat N.slots.size), .ref s.heap.size, .ref a])) rfl (by rw [hml]; rfl) c10 (argsL := [.ref s.heap.size, .int (Int32.ofNat N.slots.size)]) (rest := [.ref a]) rfl rfl (by show 2 * 0 + (1 + 0) ≤ _; decide) (hb hbytes d45) (⟨rfl, n1⟩)
  obtain ⟨rfl, q11⟩ := E11
  have hB11 := hB1.mv (X8.warmed.alike.symm.trans X11.warmed.alike) q11
  have c12 : Steps p.tables e below (s₁.setTop (entryFrame m #[.ref a, .ref b, .int (Int32.ofNat o), .int (Int32.ofNat len), .null] 6)) (T11.setTop (mkF m 48 #[.val (.ref a), .val (.ref b), .val (.int (Int32.ofNat o)), .val (.int (Int32.ofNat len)), .val .null, .val (.ref s.heap.size)] [.int 0, .ref a])) := g11
  obtain ⟨T13, X13, p13, bl13, sl13, st13⟩ := X11.finit hexec hown (wk W (.fieldLink "java/lang/String" 15 "java/lang/String" "coder" "B")) (Or.inr ⟨_, (wk W (.laysFinal "java/lang/String" "java/lang/String" "coder" "B"))⟩) (Or.inl ⟨rfl, hnm⟩) f2 (Or.inl rfl) hB11 (t := .byte) (by decide +kernel) rfl (g := (mkF m 48 #[.val (.ref a), .val (.ref b), .val (.int (Int32.ofNat o)), .val (.int (Int32.ofNat len)), .val .null, .val (.ref s.heap.size)] [.int 0, .ref a])) rfl (rest := []) rfl (hb hbytes d48)
  have c14 : Steps p.tables e below (s₁.setTop (entryFrame m #[.ref a, .ref b, .int (Int32.ofNat o), .int (Int32.ofNat len), .null] 6)) (T13.setTop (mkF m 54 #[.val (.ref a), .val (.ref b), .val (.int (Int32.ofNat o)), .val (.int (Int32.ofNat len)), .val .null, .val (.ref s.heap.size)] [.ref s.heap.size, .ref a])) := (c12.trans (st13 _ (Steps.refl _))).trans (by
    refine XS.aloadN X13.here hexec rfl (hb hbytes d51) rfl rfl ?_
    refine XS.aload X13.here hexec rfl (hb hbytes d52) rfl rfl ?_
    exact Steps.refl _)
  obtain ⟨T15, X15, p15, bl15, sl15, st15⟩ := X13.finit hexec hown (wk W (.fieldLink "java/lang/String" 9 "java/lang/String" "value" "[B")) (Or.inr ⟨_, (wk W (.laysFinal "java/lang/String" "java/lang/String" "value" "[B"))⟩) (Or.inl ⟨rfl, hnm⟩) f1 (Or.inl rfl) bl13 (t := (.array .byte)) (by decide +kernel) rfl (g := (mkF m 54 #[.val (.ref a), .val (.ref b), .val (.int (Int32.ofNat o)), .val (.int (Int32.ofNat len)), .val .null, .val (.ref s.heap.size)] [.ref s.heap.size, .ref a])) rfl (rest := []) rfl (hb hbytes d54)
  have c16 : Steps p.tables e below (s₁.setTop (entryFrame m #[.ref a, .ref b, .int (Int32.ofNat o), .int (Int32.ofNat len), .null] 6)) (T15.setTop (mkF m 57 #[.val (.ref a), .val (.ref b), .val (.int (Int32.ofNat o)), .val (.int (Int32.ofNat len)), .val .null, .val (.ref s.heap.size)] [])) := c14.trans (st15 _ (Steps.refl _))
  have ap := apart (Or.inr ⟨_, (wk W (.laysFinal "java/lang/String" "java/lang/String" "value" "[B"))⟩) (Or.inr ⟨_, (wk W (.laysFinal "java/lang/String" "java/lang/String" "coder" "B"))⟩) f1 f2 (t₁ := .array .byte) (t₂ := .byte) (by decide +kernel) (by decide +kernel) (by decide)
  have al := X8.warmed.alike.symm.trans X15.warmed.alike
  have n7 : T11.heap[s.heap.size]? = some N := by rw [q11]; exact n1.1
  exact ⟨T15, none, _, _, _, X15, by simp, rfl, by omega, (fun _ => rfl), ⟨rfl, _, N, bl15, ((Same.refl D _).set _ (by simp)).set _ (by simp), sl15, (Cell.slots_setSlot_ne _ ap).trans sl13, n1.keep al (p15.other hne (p13.other hne n7)), n2, by rw [al.findClass]; exact n3, n4, n5, fun y c h1 h2 => p15.other h1 (p13.other h1 (by rw [q11]; exact n6 y c h2)), by rw [p15.2.2, p13.2.2, q11]; exact z8⟩, fun fs hl => c16.trans (X15.returnOut hexec hret (hb hbytes d57) hl)⟩
end New4
namespace New1
def yN : MethodName := ⟨"java/lang/String", "<init>", "([C)V"⟩
abbrev yB : ByteArray := jdk_42_method_3_code
theorem d0 : decode yB 0 = .ok (.aload_n 0, 1) := by decide +kernel
theorem d1 : decode yB 1 = .ok (.aload_n 1, 1) := by decide +kernel
theorem d2 : decode yB 2 = .ok (.iconst 0, 1) := by decide +kernel
theorem d3 : decode yB 3 = .ok (.aload_n 1, 1) := by decide +kernel
theorem d4 : decode yB 4 = .ok (.arraylength, 1) := by decide +kernel
theorem d5 : decode yB 5 = .ok (.aconst_null, 1) := by decide +kernel
theorem d6 : decode yB 6 = .ok (.invokespecial 27, 3) := by decide +kernel
theorem d9 : decode yB 9 = .ok (.return_, 1) := by decide +kernel
def site : List Cond := [New4.tab] ++ initW "java/lang/String" 27 New4.yN
def tab : Cond := tabOf yN yB 2 none site
def P (a : Addr) (D : Cell) (fV fC : Field) (b : Addr) (A : Cell) (z : Int32) (args : Array Value) (s : State) : Prop := args = #[.ref a, .ref b] ∧ Blank "java/lang/String" a D s ∧ Found "java/lang/String" "value" "[B" fV s ∧ Found "java/lang/String" "coder" "B" fC s ∧ Ch b A s ∧ StaticIs s "java/lang/String" "COMPACT_STRINGS" "Z" (.int z) ∧ ¬ z = 0 ∧ 0 < A.slots.size ∧ A.slots.size ≤ 536870912 ∧ ∀ i, i < A.slots.size → ¬ 255 < cv A i
def E (a : Addr) (D : Cell) (fV fC : Field) (A : Cell) (r : Option Value) (s u : State) : Prop := Got a D fV fC A 0 A.slots.size r s u
/-- new String(chars), not empty, no char above 255: a Latin-1 String of their low bytes -/
theorem law (l : Launch) (a : Addr) (D : Cell) (fV fC : Field) (b : Addr) (A : Cell) (z : Int32) : Law l yN 2 1 3 52 yB 2 none site (P a D fV fC b A z) (E a D fV fC A) [⟨a, fC.slot⟩, ⟨a, fV.slot⟩] 1 A.slots.size := by
  refine Law.of_walk (plainFor_of_name (by decide +kernel)) (by decide +kernel) (by decide +kernel) (by decide) (fun _ _ h => by rw [h.1]; rfl) (fun _ U U' hal hh h => ⟨h.1, h.2.1.mv hal hh, h.2.2.1.al hal, h.2.2.2.1.al hal, h.2.2.2.2.1.mv hal hh, h.2.2.2.2.2.1.there hal hh, h.2.2.2.2.2.2⟩) (fun r U U' V V' h1 hal h2 h => Got.mv r U U' V V' h1 hal h2 h) ?_
  intro p e s m args below meth c s₁ X0 hexec hbytes hml hret hlk hnm hown hh0 W hP
  obtain ⟨rfl, hB, f1, f2, hA, s1, hz, l0, l2, hp⟩ := hP
  have c1 : Steps p.tables e below (s₁.setTop (entryFrame m #[.ref a, .ref b] 2)) (s₁.setTop (mkF m 0 #[.val (.ref a), .val (.ref b)] [])) := entry rfl
  have c2 : Steps p.tables e below (s₁.setTop (entryFrame m #[.ref a, .ref b] 2)) (s₁.setTop (mkF m 6 #[.val (.ref a), .val (.ref b)] [.null, .int (Int32.ofNat A.slots.size), .int 0, .ref b, .ref a])) := c1.trans (by
    refine XS.aloadN X0.here hexec rfl (hb hbytes d0) rfl rfl ?_
    refine XS.aloadN X0.here hexec rfl (hb hbytes d1) rfl rfl ?_
    refine iconstV X0.here hexec rfl 0 (hb hbytes d2) (by decide) ?_
    refine XS.aloadN X0.here hexec rfl (hb hbytes d3) rfl rfl ?_
    refine X0.alen hexec (hA.1.mv X0.warmed.alike hh0) rfl rfl (hb hbytes d4) ?_
    refine XS.aconstNull X0.here hexec rfl (hb hbytes d5) ?_
    exact Steps.refl _)
  obtain ⟨v3, T3, X3, E3, g3⟩ := X0.callN hexec (New4.law l a D fV fC b A z 0 A.slots.size) rfl hown (wks W (initW "java/lang/String" 27 New4.yN)) (W New4.tab (by simp only [site, List.mem_cons, List.mem_append, true_or, or_true])) (W := 0) (Nat.le_of_ble_eq_true rfl) (Nat.le_of_ble_eq_true rfl) (Nat.le_refl _) (by show 0 + A.slots.size ≤ A.slots.size; omega) (g := (mkF m 6 #[.val (.ref a), .val (.ref b)] [.null, .int (Int32.ofNat A.slots.size), .int (Int32.ofNat 0), .ref b, .ref a])) rfl (by rw [hml]; rfl) c2 (argsL := [.ref b, .int (Int32.ofNat 0), .int (Int32.ofNat A.slots.size), .null]) (rest := []) rfl rfl (by show 2 * 0 + 0 ≤ _; decide) (hb hbytes d6) (⟨rfl, hB.mv X0.warmed.alike hh0, f1.al X0.warmed.alike, f2.al X0.warmed.alike, hA.mv X0.warmed.alike hh0, s1.there X0.warmed.alike hh0, hz, l0, by omega, l2, fun i hi => by rw [Nat.zero_add]; exact hp i hi⟩)
  have e0 := Got.mv _ s₁ s _ _ hh0.symm (Vm.Alike.refl _) rfl E3
  obtain rfl := e0.1
  have c4 : Steps p.tables e below (s₁.setTop (entryFrame m #[.ref a, .ref b] 2)) (T3.setTop (mkF m 9 #[.val (.ref a), .val (.ref b)] [])) := g3
  exact ⟨T3, none, _, _, _, X3, by simp, rfl, by omega, (fun _ => rfl), e0, fun fs hl => c4.trans (X3.returnOut hexec hret (hb hbytes d9) hl)⟩
theorem pays {l : Launch} {R : Room} {p : Program} {e : Env} {below : List Frame} {s : State} {sargs : Array Value} {len W : Nat} (a : Addr) (D : Cell) (fV fC : Field) (b : Addr) (A : Cell) (z : Int32) (htab : tab.before sargs s = true) (hfr : 4 ≤ R.frames) (hlo : W + 65 ≤ R.locals) :
    Back l R p e below s sargs yN len W (fun A₁ a₁ => A₁.cells + 1 ≤ R.cells ∧ A₁.slots + A.slots.size ≤ R.slots ∧ P a D fV fC b A z a₁ A₁.U) (fun A₁ _ v₁ B₁ => E a D fV fC A v₁ A₁.U B₁.U ∧ B₁.locs = A₁.locs ++ [⟨a, fC.slot⟩, ⟨a, fV.slot⟩] ∧ B₁.cells = A₁.cells + 1 ∧ B₁.slots = A₁.slots + A.slots.size) :=
  (law l a D fV fC b A z).pays htab hfr (by omega)
end New1
end StrChars
namespace StrChars.Road
open Jvm Sem ClassFile Op Lib Jvm.Stand Jvm.Free Jvm.Free.XT
open Jvm.Lib.Cold (StaticIs)
abbrev ST : String := "java/lang/String"
/-- every table word that New1's law asks, flat -/
abbrev words : List Jvm.Cond := [.code New1.yN New1.yB 2 none, .initialized ST, .methodLink ST 27 New4.yN, .instanceMethod New4.yN,
  .code New4.yN New4.yB 6 none, .fieldLink ST 38 ST "COMPACT_STRINGS" "Z", .laysFinal ST ST "value" "[B", .fieldLink ST 9 ST "value" "[B", .laysFinal ST ST "coder" "B", .fieldLink ST 15 ST "coder" "B",
  .methodLink ST 1 Lib.objectInit, .instanceMethod Lib.objectInit, .code Lib.objectInit ⟨#[0xb1]⟩ 1 none, .methodLink ST 177 Cmp3.yN, .static Cmp3.yN, .methodLink ST 47 CodL.yN, .static CodL.yN,
  .code Cmp3.yN Cmp3.yB 6 (some (.array .byte)), .initialized U16, .arrayClass .byte, .methodLink U16 115 Cmp5.yN, .static Cmp5.yN, .code Cmp5.yN Cmp5.yB 7 (some .int), .code CodL.yN CodL.yB 2 (some .byte)]
theorem tab_of {a : Array Value} {s : State} (h : ∀ w ∈ words, w.before a s = true) : New1.tab.before a s = true := by
  have h5 : Cmp5.tab.before a s = true := unparts (wk h (.code Cmp5.yN Cmp5.yB 7 (some .int))) (wks h (.initialized Cmp5.yN.cls :: Cmp5.site))
  have hc : CodL.tab.before a s = true := unparts (wk h (.code CodL.yN CodL.yB 2 (some .byte))) (wks h (.initialized CodL.yN.cls :: CodL.site))
  have q5 : ∀ w ∈ Cmp5.tab :: words, w.before a s = true := fun w hw => (List.mem_cons.mp hw).elim (fun e => e ▸ h5) (h w)
  have h3 : Cmp3.tab.before a s = true := unparts (wk q5 (.code Cmp3.yN Cmp3.yB 6 (some (.array .byte)))) (wks q5 (.initialized Cmp3.yN.cls :: Cmp3.site))
  have q3 : ∀ w ∈ Cmp3.tab :: CodL.tab :: words, w.before a s = true := fun w hw => (List.mem_cons.mp hw).elim (fun e => e ▸ h3) fun hw => (List.mem_cons.mp hw).elim (fun e => e ▸ hc) (h w)
  have h4 : New4.tab.before a s = true := unparts (wk q3 (.code New4.yN New4.yB 6 none)) (wks q3 (.initialized New4.yN.cls :: New4.site))
  have q4 : ∀ w ∈ New4.tab :: words, w.before a s = true := fun w hw => (List.mem_cons.mp hw).elim (fun e => e ▸ h4) (h w)
  exact unparts (wk q4 (.code New1.yN New1.yB 2 none)) (wks q4 (.initialized New1.yN.cls :: New1.site))
/-- the words ride from the start Z to the walk's own state -/
theorem moved {Z s : State} {a0 args : Array Value} (hZ : Z.Warmed39 s.vm) (hw : ∀ d ∈ words, d.before a0 Z = true) : ∀ d ∈ words, d.before args s = true := fun d hd => by
  have q := hw d hd
  have t : ∀ d ∈ words, d = .arrayClass .byte ∨ (d.onTables && d.keepsFace) = true := by decide +kernel
  rcases t d hd with rfl | t
  · exact RoadKit.mvA hZ q
  · exact RoadKit.mv hZ q t
/-- WHAT COMES BACK, over the tables of the start Z: h the heap at the call, h' behind it -/
def Q (Z : State) (x : Addr) (A : Cell) (h : Heap) (v : Option Value) (h' : Heap) (L : List Loc) : Prop := v = none ∧ (∀ y ∈ L, y.base = x) ∧ RoadKit.Keep h h' [x] ∧ h'.size = h.size + 1 ∧ RoadKit.Exa Z h' x ST ∧ RoadKit.Fld Z h' x ST "value" "[B" (.ref h.size) ∧ RoadKit.Fld Z h' x ST "coder" "B" (.int 0) ∧
  (∃ V : Cell, RoadKit.Arr Z h' h.size V .byte ∧ V.vm = .none ∧ Z.vm.findClass "[B" = some V.cls ∧ V.slots.size = A.slots.size ∧ ∀ j, j < A.slots.size → V.slots[j]? = some (.int (lo8 (cv A j)))) ∧
  ∀ (O n d : String) (w : Value), RoadKit.Fld Z h x O n d w → RoadKit.slotOf Z O n d ≠ RoadKit.slotOf Z ST "value" "[B" → RoadKit.slotOf Z O n d ≠ RoadKit.slotOf Z ST "coder" "B" → RoadKit.Fld Z h' x O n d w
/-- **new String(chars) AT A CALL, IN THE ROAD'S FORM**: for specialBack behind newO: x the fresh String, b the char[] with the cell A -/
theorem back {p : Program} {l : Launch} {e : Env} {R : Room} {s : State} {args : Array Value} {below : List Frame} {len W : Nat} {Z : State} {a0 : Array Value} {h : Heap} (hZ : Z.Warmed39 s.vm) (hw : ∀ d ∈ words, d.before a0 Z = true) {kI : Nat} (wi : (Jvm.Cond.instantiable ST kI).before a0 Z = true)
    {x b : Addr} {A : Cell} {z : Int32} {v0 c0 : Value} (E : RoadKit.Exa Z h x ST) (V : RoadKit.Fld Z h x ST "value" "[B" v0) (C : RoadKit.Fld Z h x ST "coder" "B" c0) (K : RoadKit.Arr Z h b A .char) (hty : Typed .char A) (S : RoadKit.Sta Z h ST "COMPACT_STRINGS" "Z" (.int z)) (hz : ¬ z = 0)
    (l0 : 0 < A.slots.size) (l2 : A.slots.size ≤ 536870912) (hp : ∀ i, i < A.slots.size → ¬ 255 < cv A i) (hfr : 4 ≤ R.frames) (hlo : W + 65 ≤ R.locals) :
    Back l R p e below s args New1.yN len W (fun P a => a = #[.ref x, .ref b] ∧ P.U.heap = h ∧ P.cells + 1 ≤ R.cells ∧ P.slots + A.slots.size ≤ R.slots)
      (fun P _ v B => ∃ L, Q Z x A h v B.U.heap L ∧ B.locs = P.locs ++ L ∧ B.cells = P.cells + 1 ∧ B.slots = P.slots + A.slots.size) := by
  intro m meth c P g ig mk a X hg hsize hdg hW hn hp'
  obtain ⟨rfl, rfl, r1, r2⟩ := hp'
  have al : Z.vm.Alike P.U.vm := hZ.alike.trans X.warmed.alike
  obtain ⟨D, cfV, kV, iV, fV, hD, gV, stV, knV, obV, asV, slV⟩ := id V
  obtain ⟨D', cfC, kC, iC, fC, hD', gC, stC, -, -, asC, slC⟩ := id C
  cases hD.symm.trans hD'
  obtain ⟨D2, kD, e1, e2, e3, e4, e5⟩ := id E
  cases hD.symm.trans e1
  obtain ⟨c2, k2, i1, i2, i3, -⟩ := Cond.instantiable_spec wi
  cases e2.symm.trans i1
  cases e3.symm.trans i2
  obtain ⟨kU, u1, u2⟩ := al.2.2 _ _ e3
  have hB : Blank ST x D P.U := ⟨hD, ⟨knV, fun q hq => by rw [hq] at obV; cases obV⟩, by rw [al.findClass]; exact e2, kU, u1, by rw [u2]; exact i3, by rw [u2]; exact e5 i3⟩
  have F1 : Found ST "value" "[B" fV P.U := ⟨SBG.found_only al ⟨cfV, kV, iV, gV⟩, stV⟩
  have F2 : Found ST "coder" "B" fC P.U := ⟨SBG.found_only al ⟨cfC, kC, iC, gC⟩, stC⟩
  have hA : Ch b A P.U := ⟨⟨K.1, State.isArrayOf_alike al K.2.1, K.2.2, by omega⟩, hty⟩
  have hS : StaticIs P.U ST "COMPACT_STRINGS" "Z" (.int z) := by
    obtain ⟨cfS, iS, kS, fS, st, cS, t1, t2, t3, t4, t5, t6, t7⟩ := S
    exact StaticIs.there (s := { Z with heap := P.U.heap }) ⟨cfS, iS, kS, fS, st, cS, t1, t2, t3, t4, t5, (fun q => by rw [q] at t6; cases t6), t7⟩ al rfl
  obtain ⟨v, B, X', ⟨⟨hv, E', V', q1, q2, q3, q4, q5, q6, q7, q8, q9, q10, q11⟩, hl, hc, hs⟩, st⟩ := New1.pays x D fV fC b A z (tab_of (moved hZ hw)) hfr hlo m meth c P g ig mk _ X hg hsize hdg hW hn ⟨r1, r2, rfl, hB, F1, F2, hA, hS, hz, l0, l2, hp⟩
  have al' : Z.vm.Alike B.U.vm := hZ.alike.trans X'.warmed.alike
  have hsz : E'.slots.size = D.slots.size := by
    obtain ⟨-, -, -, kB, w1, w2, w3⟩ := q1
    obtain ⟨kB', y1, y2⟩ := al'.2.2 _ _ e3
    rw [q2.2.1] at w1
    cases w1.symm.trans y1
    rw [w3, e5 i3, y2]
  refine ⟨v, B, X', ⟨_, ⟨hv, ?_, ⟨by omega, fun y cy hy hn' => q10 y cy (by simpa using hn') hy, fun y cy hy => ?_⟩, q11, ⟨E', _, q1.1, by rw [q2.2.1]; exact e2, by rw [q2.2.1]; exact e3, by rw [q2.1]; exact obV, fun _ => by rw [hsz]; exact e5 i3⟩,
    ⟨E', cfV, kV, iV, fV, q1.1, gV, stV, by rw [q2.1]; exact knV, by rw [q2.1]; exact obV, by rw [q2.2.1]; exact asV, q3⟩, ⟨E', cfC, kC, iC, fC, q1.1, gC, stC, by rw [q2.1]; exact knV, by rw [q2.1]; exact obV, by rw [q2.2.1]; exact asC, q4⟩,
    ⟨V', ⟨q5.1, State.isArrayOf_alike al'.symm q5.2.1, q5.2.2.1⟩, q6, by rw [← al'.findClass]; exact q7, q8, fun j hj => by have := q9 j hj; rwa [Nat.zero_add] at this⟩, fun O n d w F n1 n2 => ?_⟩, hl, hc, hs⟩, st⟩
  · intro y hy
    simp only [List.mem_cons, List.not_mem_nil, or_false] at hy
    rcases hy with rfl | rfl <;> rfl
  · by_cases q : y = x
    · subst q
      cases hD.symm.trans hy
      exact ⟨E', q1.1, q2.2.1, q2.1, hsz⟩
    · exact ⟨cy, q10 y cy q hy, rfl, rfl, rfl⟩
  · obtain ⟨D3, cf, k, i, f, g1, g2, g3, g4, g5, g6, g7⟩ := F
    cases hD.symm.trans g1
    simp only [RoadKit.slotOf, g2, gV, gC, Option.map_some, Option.getD_some] at n1 n2
    exact ⟨E', cf, k, i, f, q1.1, g2, g3, by rw [q2.1]; exact g4, by rw [q2.1]; exact g5, by rw [q2.2.1]; exact g6, by rw [q2.2.2 f.slot (by simp [n1, n2])]; exact g7⟩
end StrChars.Road
namespace StrChars.Road
open Jvm Sem ClassFile Op Lib Jvm.Stand Jvm.Free Jvm.Free.XT
/-- WHAT COMES BACK, the byte[] as a list of values -/
def QA (Z : State) (x : Addr) (zn : Int32) (cs : List Int32) (h : Heap) (v : Option Value) (h' : Heap) (L : List Loc) : Prop := v = none ∧ (∀ y ∈ L, y.base = x) ∧ RoadKit.Keep h h' [x] ∧ h'.size = h.size + 1 ∧ RoadKit.Exa Z h' x ST ∧ RoadKit.Fld Z h' x ST "value" "[B" (.ref h.size) ∧ RoadKit.Fld Z h' x ST "coder" "B" (.int 0) ∧
  (∃ kb, Z.vm.findClass "[B" = some kb ∧ RoadKit.Arv Z h' h.size kb .byte zn (cs.map fun c => .int (lo8 c)) (.int 0)) ∧
  ∀ (O n d : String) (w : Value), RoadKit.Fld Z h x O n d w → RoadKit.slotOf Z O n d ≠ RoadKit.slotOf Z ST "value" "[B" → RoadKit.slotOf Z O n d ≠ RoadKit.slotOf Z ST "coder" "B" → RoadKit.Fld Z h' x O n d w
/-- **new String(chars) AT A CALL, THE ARRAYS AS LISTS**: the char[] at b holds cs, not empty, no char above 255 -/
theorem backArv {p : Program} {l : Launch} {e : Env} {R : Room} {s : State} {args : Array Value} {below : List Frame} {len W : Nat} {Z : State} {a0 : Array Value} {h : Heap} (hZ : Z.Warmed39 s.vm) (hw : ∀ d ∈ words, d.before a0 Z = true) {kI : Nat} (wi : (Jvm.Cond.instantiable ST kI).before a0 Z = true)
    {x b : Addr} {k : ClassId} {zn z : Int32} {cs : List Int32} {dv v0 c0 : Value} (E : RoadKit.Exa Z h x ST) (V : RoadKit.Fld Z h x ST "value" "[B" v0) (C : RoadKit.Fld Z h x ST "coder" "B" c0) (K : RoadKit.Arv Z h b k .char zn (cs.map Value.int) dv) (S : RoadKit.Sta Z h ST "COMPACT_STRINGS" "Z" (.int z)) (hz : ¬ z = 0)
    (hlen : zn.toNatClampNeg = cs.length) (h0 : 0 < cs.length) (hbig : cs.length ≤ 536870912) (hall : ∀ c ∈ cs, ¬ 255 < c) (hfr : 4 ≤ R.frames) (hlo : W + 65 ≤ R.locals) :
    Back l R p e below s args New1.yN len W (fun P a => a = #[.ref x, .ref b] ∧ P.U.heap = h ∧ P.cells + 1 ≤ R.cells ∧ P.slots + cs.length ≤ R.slots)
      (fun P _ v B => ∃ L, QA Z x zn cs h v B.U.heap L ∧ B.locs = P.locs ++ L ∧ B.cells = P.cells + 1 ∧ B.slots = P.slots + cs.length) := by
  obtain ⟨A, K1, K2, K3, K4, K5, K6⟩ := K
  have e : A.slots.size = cs.length := K3.trans hlen
  have hat : ∀ (i : Nat) (hi : i < cs.length), A.slots[i]? = some (.int cs[i]) := fun i hi => by rw [K5 i (by omega)]; simp [List.getD_eq_getElem?_getD, hi]
  have hcv : ∀ (i : Nat) (hi : i < cs.length), cv A i = cs[i] := fun i hi => by unfold cv; rw [hat i hi]
  have hty : Typed .char A := fun i v hv => by
    have hi : i < A.slots.size := (Array.getElem?_eq_some_iff.mp hv).1
    have q := K5 i hi
    rw [hv] at q
    rw [Option.some.inj q]
    exact K6 i hi
  refine Back.mono (back hZ hw wi E V C K1 hty S hz (by omega) (by omega) (fun i hi => by rw [hcv i (by omega)]; exact hall _ (List.getElem_mem _)) hfr hlo) (fun P a hp => ⟨hp.1, hp.2.1, hp.2.2.1, by rw [e]; exact hp.2.2.2⟩) (fun P a v B hp hq => ?_)
  obtain ⟨L, ⟨q1, q2, q3, q4, q5, q6, q7, ⟨V', v1, v2, v3, v4, v5⟩, q9⟩, hl, hc, hs⟩ := hq
  refine ⟨L, ⟨q1, q2, q3, q4, q5, q6, q7, ⟨V'.cls, v3, V', v1, rfl, by rw [v4, e, hlen], K4, fun i hi => ?_, fun i hi => ?_⟩, q9⟩, hl, hc, by rw [hs, e]⟩
  · have hi' : i < cs.length := by omega
    rw [v5 i (by omega), hcv i hi']; simp [List.getD_eq_getElem?_getD, hi']
  · have hi' : i < cs.length := by omega
    simp only [List.getD_eq_getElem?_getD, List.getElem?_map, List.getElem?_eq_getElem hi', Option.map_some, Option.getD_some]
    exact fits_lo8 _
end StrChars.Road
namespace StrChars.Road
open Jvm Sem ClassFile Op Lib Jvm.Stand Jvm.Free Jvm.Free.XT
/-- WHAT COMES BACK, in the writer's own shape -/
def QV (Z : State) (x : Addr) (N : Int32) (bs : List Int32) (h : Heap) (n0 : Nat) (v : Option Value) (h' : Heap) (L : List Loc) : Prop := v = none ∧ RoadKit.Fr n0 L ∧ RoadKit.Keep h h' [x] ∧ RoadKit.Exa Z h' x ST ∧ RoadKit.Fld Z h' x ST "coder" "B" (.int 0) ∧
  ∃ (t : Addr) (kb : ClassId), n0 ≤ t ∧ h.size ≤ t ∧ ¬ t = x ∧ RoadKit.Fld Z h' x ST "value" "[B" (.ref t) ∧ RoadKit.Arv Z h' t kb .byte N (bs.map Value.int) (.int 0)
/-- **new String(chars) AT A CALL, FOR THE WRITER**: a char[] of n known ints, each 0 to 255 -/
theorem backV {p : Program} {l : Launch} {e : Env} {R : Room} {s : State} {args : Array Value} {below : List Frame} {len W : Nat} {Z : State} {a0 : Array Value} {h : Heap} (hZ : Z.Warmed39 s.vm) (hw : ∀ d ∈ words, d.before a0 Z = true) {kI : Nat} (wi : (Jvm.Cond.instantiable ST kI).before a0 Z = true)
    {x b : Addr} {kC : ClassId} {cs bs : List Int32} {d v0 c0 : Value} {z N : Int32} {n n0 : Nat} (hx0 : n0 ≤ x) (hh0 : n0 ≤ h.size) (E : RoadKit.Exa Z h x ST) (V : RoadKit.Fld Z h x ST "value" "[B" v0) (C : RoadKit.Fld Z h x ST "coder" "B" c0) (K : RoadKit.Arv Z h b kC .char N (cs.map Value.int) d) (S : RoadKit.Sta Z h ST "COMPACT_STRINGS" "Z" (.int z)) (hz : ¬ z = 0)
    (hn : cs.length = n) (hN : N = Int32.ofNat n) (l0 : 0 < n) (l2 : n ≤ 4000) (hp : ∀ c ∈ cs, ¬ c < 0 ∧ ¬ (255 : Int32) < c) (hb : bs = cs.map (fun c => c.toInt8.toInt32)) (hfr : 4 ≤ R.frames) (hlo : W + 65 ≤ R.locals) :
    Back l R p e below s args (⟨"java/lang/String", "<init>", "([C)V"⟩ : MethodName) len W (fun P a => a = #[.ref x, .ref b] ∧ P.U.heap = h ∧ P.cells + 1 ≤ R.cells ∧ P.slots + n ≤ R.slots)
      (fun P _ v B => ∃ L, QV Z x N bs h n0 v B.U.heap L ∧ B.locs = P.locs ++ L ∧ B.cells = P.cells + 1 ∧ B.slots = P.slots + n) := by
  subst hn hN hb
  refine Back.mono (backArv hZ hw wi E V C K S hz (n32 (by omega)) l0 (by omega) (fun c hc => (hp c hc).2) hfr hlo) (fun P a hp => hp) (fun P a v B hp hq => ?_)
  obtain ⟨L, ⟨q1, q2, q3, q4, q5, q6, q7, ⟨kb, v1, v2⟩, q9⟩, hl, hc, hs⟩ := hq
  exact ⟨L, ⟨q1, fun y hy => by rw [q2 y hy]; exact hx0, q3, q5, q7, h.size, kb, hh0, Nat.le_refl _, Nat.ne_of_gt E.lt, q6, by rw [List.map_map]; exact v2⟩, hl, hc, hs⟩
end StrChars.Road
namespace StrChars
open Jvm Sem ClassFile Op Lib Jvm.Stand Jvm.Free.XT Jvm.Free.ALB Jvm.Free.JM Jvm.Free
open Jvm.Lib.Cold (StaticIs)
def hi8 (x : Int32) : Int32 := lo8 (x >>> ((8 : Int32) &&& 31))
end StrChars
namespace StrChars.Road
open Jvm Sem ClassFile Op Lib Jvm.Stand Jvm.Free Jvm.Free.XT
open Jvm.Lib.Cold (StaticIs)
/-- the bytes of the chars cs, low before high -/
def wideBytes : List Int32 → List Value
  | [] => []
  | c :: cs => .int (lo8 c) :: .int (hi8 c) :: wideBytes cs
/-- an array of N2 bytes vs codes the chars cs by the coder cd -/
def CodA (cs : List Int32) (cd N2 : Int32) (vs : List Value) : Prop := (cd = 0 ∧ N2 = Int32.ofNat cs.length ∧ vs = (cs.map fun c => Value.int (lo8 c)) ∧ ∀ c ∈ cs, ¬ 255 < c) ∨ (cd = 1 ∧ N2 = Int32.ofNat (2 * cs.length) ∧ vs = wideBytes cs ∧ ∃ c ∈ cs, 255 < c)
end StrChars.Road
namespace StrChars.Road
open Jvm Sem ClassFile Op Lib Jvm.Stand Jvm.Free Jvm.Free.XT
open Jvm.Lib.Cold (StaticIs)
/-- what backV says of its String, as the contracts of this text ask it: cs's low bytes, coder 0 -/
theorem codOf {cs : List Int32} {n : Nat} (hn : cs.length = n) (hb : ∀ c ∈ cs, ¬ 255 < c) : CodA cs 0 (Int32.ofNat n) ((cs.map lo8).map Value.int) := Or.inl ⟨rfl, by rw [hn], by simp [List.map_map, Function.comp_def], hb⟩
end StrChars.Road
end Jvm.Pilot.@@N@@
namespace Jvm.Pilot.@@N@@
open Jvm Jvm.ClassFile Sem Op Lib Jvm.Free Jvm.Stand Jvm.LawKit Jvm.RoadKit Bundle Jvm.Pilot.@@N@@.Jvm.D
open Jvm.Free.XT (ushr ushrL cmpL)

section OwnKit
variable {p : Program} {l : Launch} {e : Env} {R : Room} {s : State} {m : MethodId} {args : Array Value} {below : List Frame} {meth : Method} {c : Code} {Z : State} {h0 : Heap} {ws ws' : List Addr} {own nm : String} {bytes : ByteArray} {maxL : Nat} {ret : Option FieldType} {kc ks : Nat} {Q : Option Value → Heap → Prop} {Φ : Outcome → State → Prop} {h : Heap} {cells slots pc pc' : Nat} {Ls Ls' : Array Slot} {st st' rest : List Value} {a0 : Array Value}
/-- what a walk knows of its own method -/
def Cx (p : Program) (s : State) (m : MethodId) (meth : Method) (c : Code) (Z : State) (h0 : Heap) (ws : List Addr) (own nm : String) (bytes : ByteArray) (maxL : Nat) (ret : Option FieldType) : Prop :=
  p.tables.exec = Jvm.exec ∧ Z.Warmed39 s.vm ∧ s.vm.findClass own = some m.cls ∧ c.code = bytes ∧ c.maxLocals = maxL ∧ meth.sig.returnType = ret ∧ meth.locks = false ∧ meth.name = nm ∧ s.heap = h0 ∧ Ext Z.heap h0 ∧ ∀ x ∈ ws, Z.heap.size ≤ x
/-- every place written lies in a cell of ws or in one made since -/
def Lw (k : Nat) (ws : List Addr) (L : List Loc) : Prop := ∀ y ∈ L, y.base ∈ ws ∨ k ≤ y.base
theorem Lw.app {k : Nat} {L L' : List Loc} (N : Lw k ws L) (N' : Lw k ws L') : Lw k ws (L ++ L') := fun y q => (List.mem_append.mp q).elim (N y) (N' y)
theorem Lw.nil {k : Nat} : Lw k ws [] := fun _ q => nomatch q
theorem Lw.one {k : Nat} {a : Addr} {i : Nat} (q : a ∈ ws ∨ k ≤ a) : Lw k ws [⟨a, i⟩] := fun y hy => by cases List.mem_singleton.mp hy; exact q
/-- from every state that stands at pc with this heap the walk comes to a good return -/
def G (p : Program) (l : Launch) (e : Env) (R : Room) (s : State) (m : MethodId) (args : Array Value) (below : List Frame) (meth : Method) (c : Code) (ws : List Addr) (Φ : Outcome → State → Prop) (h : Heap) (cells slots pc : Nat) (Ls : Array Slot) (st : List Value) : Prop :=
  ∀ (T : State) (locs : List Loc), Stand p l e R s m args below meth c T locs cells slots → T.heap = h → Lw s.heap.size ws locs →
    ∃ s₂ o, Steps p.tables e below (T.setTop (mkF m pc Ls st)) s₂ ∧ s₂.status = .running ∧ Ended s₂ below o ∧ Φ o s₂
/-- a good end, where nothing was interned -/
def EndA (s : State) (ws : List Addr) (Q : Option Value → Heap → Prop) (kc ks : Nat) (o : Outcome) (s₂ : State) : Prop := ∃ v L, o = .returned v ∧ (Q v s₂.heap ∧ Keep s.heap s₂.heap ws ∧ Lw s.heap.size ws L) ∧ FrameEnd s o s₂ L kc ks
/-- a contract: from the heap h, with the arguments as', the method returns and Q holds; nothing old is written but in ws -/
def Con (l : Launch) (Z : State) (ws : List Addr) (y : MethodName) (bytes : ByteArray) (maxL : Nat) (ret : Option FieldType) (rm : Room) (as' : Array Value) (h : Heap) (tw : List Jvm.Cond) (Q : Option Value → Heap → Prop) : Prop :=
  Ext Z.heap h → (∀ x ∈ ws, Z.heap.size ≤ x) → MetFree l y (head1 (Jvm.Cond.code y bytes maxL ret :: tw) rm) (fun a U => a = as' ∧ Z.Warmed39 U.vm ∧ U.heap = h) (fun _ _ _ _ _ => True) (fun _ U o U' => ∃ v L, o = .returned v ∧ (Q v U'.heap ∧ Keep h U'.heap ws ∧ Lw h.size ws L) ∧ FrameEnd U o U' L rm.cells rm.slots)
/-- what pays a call, in the shape of backOf and of the String laws -/
abbrev Bk (l : Launch) (R : Room) (p : Program) (e : Env) (below : List Frame) (s : State) (args : Array Value) (y : MethodName) (len W : Nat) (as' : Array Value) (h : Heap) (kb sb : Nat) (Qb : Option Value → Heap → List Loc → Prop) : Prop :=
  Back l R p e below s args y len W (fun P a => a = as' ∧ P.U.heap = h ∧ P.cells + kb ≤ R.cells ∧ P.slots + sb ≤ R.slots) (fun P _ v B => ∃ L, Qb v B.U.heap L ∧ B.locs = P.locs ++ L ∧ B.cells = P.cells + kb ∧ B.slots = P.slots + sb)
theorem keep_of {T : State} {locs : List Loc} (X : Stand p l e R s m args below meth c T locs cells slots) (N : Lw s.heap.size ws locs) : Keep s.heap T.heap ws := by
  obtain ⟨-, h1, -, -, -, h2⟩ := X.same
  refine ⟨h1, fun x k hk hx => ?_, fun x k hk => ?_⟩
  · obtain ⟨k', q1, q2, q3, q4⟩ := h2 x k hk
    have e1 : k'.slots = k.slots := Array.ext_getElem? fun i => q4 i fun hm => (N _ hm).elim hx fun z => absurd (Array.getElem?_eq_some_iff.mp hk).1 (Nat.not_lt.mpr z)
    have e2 : k' = k := by rw [q2, e1]
    rw [← e2]; exact q1
  · obtain ⟨k', q1, q2, q3, -⟩ := h2 x k hk
    exact ⟨k', q1, by rw [q2], by rw [q2], q3⟩
theorem ext_keep {hz h h' : Heap} (E : Ext hz h) (K : Keep h h' ws) (q : ∀ x ∈ ws, hz.size ≤ x) : Ext hz h' :=
  ⟨Nat.le_trans E.1 K.1, fun x k r => K.2.1 x k (E.2 x k r) fun z => absurd (Array.getElem?_eq_some_iff.mp r).1 (Nat.not_lt.mpr (q x z))⟩
theorem g_ctx (C : Cx p s m meth c Z h0 ws own nm bytes maxL ret) (k : Keep h0 h ws → Ext Z.heap h → G p l e R s m args below meth c ws Φ h cells slots pc Ls st) : G p l e R s m args below meth c ws Φ h cells slots pc Ls st := by
  intro T locs X e1 N
  obtain ⟨hx, hZ, hown, hby, hml, hret, hlk, hnm, rfl, hE, hws⟩ := C
  have K : Keep s.heap h ws := e1 ▸ keep_of X N
  exact k K (ext_keep hE K hws) T locs X e1 N
theorem g_norm {cells' slots' : Nat} (hc : cells ≤ cells') (hs : slots ≤ slots') (hst : st = st') (k : G p l e R s m args below meth c ws Φ h cells' slots' pc Ls st') : G p l e R s m args below meth c ws Φ h cells slots pc Ls st := by
  intro T locs X e1 N
  subst hst
  exact k T locs (X.more hc hs) e1 N
theorem g_of (hk : ∀ T, At T m c below → ∀ t, Steps p.tables e below (T.setTop (mkF m pc' Ls' st')) t → Steps p.tables e below (T.setTop (mkF m pc Ls st)) t) (k : G p l e R s m args below meth c ws Φ h cells slots pc' Ls' st') : G p l e R s m args below meth c ws Φ h cells slots pc Ls st := by
  intro T locs X e1 N
  obtain ⟨s2, o, h1, r⟩ := k T locs X e1 N
  exact ⟨s2, o, hk T X.here _ h1, r⟩
theorem g_ofX (hk : ∀ T locs, Stand p l e R s m args below meth c T locs cells slots → T.heap = h → ∀ t, Steps p.tables e below (T.setTop (mkF m pc' Ls' st')) t → Steps p.tables e below (T.setTop (mkF m pc Ls st)) t) (k : G p l e R s m args below meth c ws Φ h cells slots pc' Ls' st') : G p l e R s m args below meth c ws Φ h cells slots pc Ls st := by
  intro T locs X e1 N
  obtain ⟨s2, o, h1, r⟩ := k T locs X e1 N
  exact ⟨s2, o, hk T locs X e1 _ h1, r⟩
/-- a class whose own method is selected somewhere is no interface -/
theorem nf_same {b : State} {y y' : MethodName} {Cn : String} {a1 : Array Value} (w : (Jvm.Cond.selects Cn y' y').before a1 b = true) (hc : y'.cls = y.cls) : NotFace b y := fun r0 hr => by
  obtain ⟨c2, r2, m2, -, -, q3, -, kP, hkP, hkPi⟩ := Cond.selects_spec w
  have e1 := findClass_of_methodNamed hr
  have e2 := findClass_of_methodNamed q3
  rw [hc] at e2
  have e3 : r0.cls = m2.cls := Option.some.inj (e1.symm.trans e2)
  exact ⟨kP, by rw [e3]; exact hkP, hkPi⟩
theorem nfOf {y y' : MethodName} {Cn : String} (w : (Jvm.Cond.selects Cn y' y').before a0 Z = true) (hc : y'.cls = y.cls) (b : State) (hZ : Z.Warmed39 b.vm) : NotFace b y := nf_same (a1 := #[]) (mvT hZ w) hc
theorem same_self {y y' : MethodName} {Cn : String} (wi : (Jvm.Cond.instanceMethod y).before a0 Z = true) (w : (Jvm.Cond.selects Cn y' y').before a0 Z = true) (hc : y'.cls = y.cls) (hy : y.cls ≠ "java/lang/invoke/MethodHandle" ∧ y.cls ≠ "java/lang/invoke/VarHandle") : (Jvm.Cond.sameMethod y.cls y.cls y.name y.desc).before a0 Z = true := by
  obtain ⟨mk, methM, hn, -, -, -⟩ := Cond.instanceMethod_spec wi
  obtain ⟨c2, r2, m2, -, -, q3, -, kP, hkP, hkPi⟩ := Cond.selects_spec w
  have e1 := findClass_of_methodNamed hn
  have e2 := findClass_of_methodNamed q3
  rw [hc] at e2
  have e3 : mk.cls = m2.cls := Option.some.inj (e1.symm.trans e2)
  have e4 := State.methodFound?_of_named hn hy
  have e5 : Z.vm.classes[mk.cls]? = some kP := by rw [e3]; exact hkP
  simp [Cond.before, Cond.holds, Cond.value, e1, e4, hn, e5, hkPi]
theorem g_iload_n (C : Cx p s m meth c Z h0 ws own nm bytes maxL ret) {i : Fin 4} {v : Int32} (hd : decode bytes pc = .ok (.iload_n i, 1)) (hl : Ls[i.val]? = some (.val (.int v))) (hp : pc + 1 = pc') (k : G p l e R s m args below meth c ws Φ h cells slots pc' Ls (.int v :: st)) : G p l e R s m args below meth c ws Φ h cells slots pc Ls st := by
  subst hp
  exact g_of (fun T A t q => XS.iloadN A C.1 rfl (hb C.2.2.2.1 hd) hl q) k
theorem g_iload (C : Cx p s m meth c Z h0 ws own nm bytes maxL ret) {i : Nat} {v : Int32} (hd : decode bytes pc = .ok (.iload i, 2)) (hl : Ls[i]? = some (.val (.int v))) (hp : pc + 2 = pc') (k : G p l e R s m args below meth c ws Φ h cells slots pc' Ls (.int v :: st)) : G p l e R s m args below meth c ws Φ h cells slots pc Ls st := by
  subst hp
  exact g_of (fun T A t q => XS.iload A C.1 rfl (hb C.2.2.2.1 hd) hl q) k
theorem g_lload_n (C : Cx p s m meth c Z h0 ws own nm bytes maxL ret) {i : Fin 4} {v : Int64} (hd : decode bytes pc = .ok (.lload_n i, 1)) (hl : Ls[i.val]? = some (.val (.long v))) (hp : pc + 1 = pc') (k : G p l e R s m args below meth c ws Φ h cells slots pc' Ls (.long v :: st)) : G p l e R s m args below meth c ws Φ h cells slots pc Ls st := by
  subst hp
  exact g_of (fun T A t q => XS.lloadN A C.1 rfl (hb C.2.2.2.1 hd) hl q) k
theorem g_lload (C : Cx p s m meth c Z h0 ws own nm bytes maxL ret) {i : Nat} {v : Int64} (hd : decode bytes pc = .ok (.lload i, 2)) (hl : Ls[i]? = some (.val (.long v))) (hp : pc + 2 = pc') (k : G p l e R s m args below meth c ws Φ h cells slots pc' Ls (.long v :: st)) : G p l e R s m args below meth c ws Φ h cells slots pc Ls st := by
  subst hp
  exact g_of (fun T A t q => XS.lload A C.1 rfl (hb C.2.2.2.1 hd) hl q) k
theorem g_aload_n (C : Cx p s m meth c Z h0 ws own nm bytes maxL ret) {i : Fin 4} {v : Value} (hd : decode bytes pc = .ok (.aload_n i, 1)) (hl : Ls[i.val]? = some (.val v)) (hv : v.isRef = true) (hp : pc + 1 = pc') (k : G p l e R s m args below meth c ws Φ h cells slots pc' Ls (v :: st)) : G p l e R s m args below meth c ws Φ h cells slots pc Ls st := by
  subst hp
  exact g_of (fun T A t q => XS.aloadN A C.1 rfl (hb C.2.2.2.1 hd) hl hv q) k
theorem g_aload (C : Cx p s m meth c Z h0 ws own nm bytes maxL ret) {i : Nat} {v : Value} (hd : decode bytes pc = .ok (.aload i, 2)) (hl : Ls[i]? = some (.val v)) (hv : v.isRef = true) (hp : pc + 2 = pc') (k : G p l e R s m args below meth c ws Φ h cells slots pc' Ls (v :: st)) : G p l e R s m args below meth c ws Φ h cells slots pc Ls st := by
  subst hp
  exact g_of (fun T A t q => XS.aload A C.1 rfl (hb C.2.2.2.1 hd) hl hv q) k
theorem g_istore_n (C : Cx p s m meth c Z h0 ws own nm bytes maxL ret) {i : Fin 4} {x : Int32} (hd : decode bytes pc = .ok (.istore_n i, 1)) (hl : storeLocals Ls i.val (.int x) = some Ls') (hp : pc + 1 = pc') (k : G p l e R s m args below meth c ws Φ h cells slots pc' Ls' st) : G p l e R s m args below meth c ws Φ h cells slots pc Ls (.int x :: st) := by
  subst hp
  exact g_of (fun T A t q => XS.istoreN A C.1 rfl (hb C.2.2.2.1 hd) rfl hl q) k
theorem g_istore (C : Cx p s m meth c Z h0 ws own nm bytes maxL ret) {i : Nat} {x : Int32} (hd : decode bytes pc = .ok (.istore i, 2)) (hl : storeLocals Ls i (.int x) = some Ls') (hp : pc + 2 = pc') (k : G p l e R s m args below meth c ws Φ h cells slots pc' Ls' st) : G p l e R s m args below meth c ws Φ h cells slots pc Ls (.int x :: st) := by
  subst hp
  exact g_of (fun T A t q => XS.istore A C.1 rfl (hb C.2.2.2.1 hd) rfl hl q) k
theorem g_lstore_n (C : Cx p s m meth c Z h0 ws own nm bytes maxL ret) {i : Fin 4} {x : Int64} (hd : decode bytes pc = .ok (.lstore_n i, 1)) (hl : storeLocals Ls i.val (.long x) = some Ls') (hp : pc + 1 = pc') (k : G p l e R s m args below meth c ws Φ h cells slots pc' Ls' st) : G p l e R s m args below meth c ws Φ h cells slots pc Ls (.long x :: st) := by
  subst hp
  exact g_of (fun T A t q => XS.lstoreN A C.1 rfl (hb C.2.2.2.1 hd) rfl hl q) k
theorem g_lstore (C : Cx p s m meth c Z h0 ws own nm bytes maxL ret) {i : Nat} {x : Int64} (hd : decode bytes pc = .ok (.lstore i, 2)) (hl : storeLocals Ls i (.long x) = some Ls') (hp : pc + 2 = pc') (k : G p l e R s m args below meth c ws Φ h cells slots pc' Ls' st) : G p l e R s m args below meth c ws Φ h cells slots pc Ls (.long x :: st) := by
  subst hp
  exact g_of (fun T A t q => XS.lstore A C.1 rfl (hb C.2.2.2.1 hd) rfl hl q) k
theorem g_astore_n (C : Cx p s m meth c Z h0 ws own nm bytes maxL ret) {i : Fin 4} {v : Value} (hd : decode bytes pc = .ok (.astore_n i, 1)) (hv : v.isRef = true) (hl : storeLocals Ls i.val v = some Ls') (hp : pc + 1 = pc') (k : G p l e R s m args below meth c ws Φ h cells slots pc' Ls' st) : G p l e R s m args below meth c ws Φ h cells slots pc Ls (v :: st) := by
  subst hp
  exact g_of (fun T A t q => XS.astoreN A C.1 rfl (hb C.2.2.2.1 hd) rfl hv hl q) k
theorem g_astore (C : Cx p s m meth c Z h0 ws own nm bytes maxL ret) {i : Nat} {v : Value} (hd : decode bytes pc = .ok (.astore i, 2)) (hv : v.isRef = true) (hl : storeLocals Ls i v = some Ls') (hp : pc + 2 = pc') (k : G p l e R s m args below meth c ws Φ h cells slots pc' Ls' st) : G p l e R s m args below meth c ws Φ h cells slots pc Ls (v :: st) := by
  subst hp
  exact g_of (fun T A t q => XS.astore A C.1 rfl (hb C.2.2.2.1 hd) rfl hv hl q) k
theorem g_iconst (C : Cx p s m meth c Z h0 ws own nm bytes maxL ret) {i : Int} {x : Int32} (hd : decode bytes pc = .ok (.iconst i, 1)) (hx : Int32.ofInt i = x) (hp : pc + 1 = pc') (k : G p l e R s m args below meth c ws Φ h cells slots pc' Ls (.int x :: st)) : G p l e R s m args below meth c ws Φ h cells slots pc Ls st := by
  subst hp
  exact g_of (fun T A t q => XS.iconst A C.1 rfl (hb C.2.2.2.1 hd) (by rw [hx]; exact q)) k
theorem g_bipush (C : Cx p s m meth c Z h0 ws own nm bytes maxL ret) {i : Int} {x : Int32} (hd : decode bytes pc = .ok (.bipush i, 2)) (hx : (Int8.ofInt i).toInt32 = x) (hp : pc + 2 = pc') (k : G p l e R s m args below meth c ws Φ h cells slots pc' Ls (.int x :: st)) : G p l e R s m args below meth c ws Φ h cells slots pc Ls st := by
  subst hp
  exact g_of (fun T A t q => XS.bipush A C.1 rfl (hb C.2.2.2.1 hd) (by rw [hx]; exact q)) k
theorem g_sipush (C : Cx p s m meth c Z h0 ws own nm bytes maxL ret) {i : Int} {x : Int32} (hd : decode bytes pc = .ok (.sipush i, 3)) (hx : (Int16.ofInt i).toInt32 = x) (hp : pc + 3 = pc') (k : G p l e R s m args below meth c ws Φ h cells slots pc' Ls (.int x :: st)) : G p l e R s m args below meth c ws Φ h cells slots pc Ls st := by
  subst hp
  exact g_of (fun T A t q => XS.sipush A C.1 rfl (hb C.2.2.2.1 hd) (by rw [hx]; exact q)) k
theorem g_lconst (C : Cx p s m meth c Z h0 ws own nm bytes maxL ret) {i : Fin 2} {x : Int64} (hd : decode bytes pc = .ok (.lconst i, 1)) (hx : Int64.ofNat i = x) (hp : pc + 1 = pc') (k : G p l e R s m args below meth c ws Φ h cells slots pc' Ls (.long x :: st)) : G p l e R s m args below meth c ws Φ h cells slots pc Ls st := by
  subst hp
  exact g_of (fun T A t q => XS.lconst A C.1 rfl (hb C.2.2.2.1 hd) (by rw [hx]; exact q)) k
theorem g_aconst_null (C : Cx p s m meth c Z h0 ws own nm bytes maxL ret) (hd : decode bytes pc = .ok (.aconst_null, 1)) (hp : pc + 1 = pc') (k : G p l e R s m args below meth c ws Φ h cells slots pc' Ls (.null :: st)) : G p l e R s m args below meth c ws Φ h cells slots pc Ls st := by
  subst hp
  exact g_of (fun T A t q => XS.aconstNull A C.1 rfl (hb C.2.2.2.1 hd) q) k
theorem g_iadd (C : Cx p s m meth c Z h0 ws own nm bytes maxL ret) {x y : Int32} (hd : decode bytes pc = .ok (.iadd, 1)) (hp : pc + 1 = pc') (k : G p l e R s m args below meth c ws Φ h cells slots pc' Ls (.int (x + y) :: st)) : G p l e R s m args below meth c ws Φ h cells slots pc Ls (.int y :: .int x :: st) := by
  subst hp
  exact g_of (fun T A t q => XS.iadd A C.1 rfl (hb C.2.2.2.1 hd) rfl q) k
theorem g_isub (C : Cx p s m meth c Z h0 ws own nm bytes maxL ret) {x y : Int32} (hd : decode bytes pc = .ok (.isub, 1)) (hp : pc + 1 = pc') (k : G p l e R s m args below meth c ws Φ h cells slots pc' Ls (.int (x - y) :: st)) : G p l e R s m args below meth c ws Φ h cells slots pc Ls (.int y :: .int x :: st) := by
  subst hp
  exact g_of (fun T A t q => XS.isub A C.1 rfl (hb C.2.2.2.1 hd) rfl q) k
theorem g_imul (C : Cx p s m meth c Z h0 ws own nm bytes maxL ret) {x y : Int32} (hd : decode bytes pc = .ok (.imul, 1)) (hp : pc + 1 = pc') (k : G p l e R s m args below meth c ws Φ h cells slots pc' Ls (.int (x * y) :: st)) : G p l e R s m args below meth c ws Φ h cells slots pc Ls (.int y :: .int x :: st) := by
  subst hp
  exact g_of (fun T A t q => XS.imul A C.1 rfl (hb C.2.2.2.1 hd) rfl q) k
theorem g_iand (C : Cx p s m meth c Z h0 ws own nm bytes maxL ret) {x y : Int32} (hd : decode bytes pc = .ok (.iand, 1)) (hp : pc + 1 = pc') (k : G p l e R s m args below meth c ws Φ h cells slots pc' Ls (.int (x &&& y) :: st)) : G p l e R s m args below meth c ws Φ h cells slots pc Ls (.int y :: .int x :: st) := by
  subst hp
  exact g_of (fun T A t q => XS.iand A C.1 rfl (hb C.2.2.2.1 hd) rfl q) k
theorem g_ior (C : Cx p s m meth c Z h0 ws own nm bytes maxL ret) {x y : Int32} (hd : decode bytes pc = .ok (.ior, 1)) (hp : pc + 1 = pc') (k : G p l e R s m args below meth c ws Φ h cells slots pc' Ls (.int (x ||| y) :: st)) : G p l e R s m args below meth c ws Φ h cells slots pc Ls (.int y :: .int x :: st) := by
  subst hp
  exact g_of (fun T A t q => XS.ior A C.1 rfl (hb C.2.2.2.1 hd) rfl q) k
theorem g_ixor (C : Cx p s m meth c Z h0 ws own nm bytes maxL ret) {x y : Int32} (hd : decode bytes pc = .ok (.ixor, 1)) (hp : pc + 1 = pc') (k : G p l e R s m args below meth c ws Φ h cells slots pc' Ls (.int (x ^^^ y) :: st)) : G p l e R s m args below meth c ws Φ h cells slots pc Ls (.int y :: .int x :: st) := by
  subst hp
  exact g_of (fun T A t q => XS.ixor A C.1 rfl (hb C.2.2.2.1 hd) rfl q) k
theorem g_ishl (C : Cx p s m meth c Z h0 ws own nm bytes maxL ret) {x y : Int32} (hd : decode bytes pc = .ok (.ishl, 1)) (hp : pc + 1 = pc') (k : G p l e R s m args below meth c ws Φ h cells slots pc' Ls (.int (x <<< (y &&& 31)) :: st)) : G p l e R s m args below meth c ws Φ h cells slots pc Ls (.int y :: .int x :: st) := by
  subst hp
  exact g_of (fun T A t q => XS.ishl A C.1 rfl (hb C.2.2.2.1 hd) rfl q) k
theorem g_ishr (C : Cx p s m meth c Z h0 ws own nm bytes maxL ret) {x y : Int32} (hd : decode bytes pc = .ok (.ishr, 1)) (hp : pc + 1 = pc') (k : G p l e R s m args below meth c ws Φ h cells slots pc' Ls (.int (x >>> (y &&& 31)) :: st)) : G p l e R s m args below meth c ws Φ h cells slots pc Ls (.int y :: .int x :: st) := by
  subst hp
  exact g_of (fun T A t q => XS.ishr A C.1 rfl (hb C.2.2.2.1 hd) rfl q) k
theorem g_iushr (C : Cx p s m meth c Z h0 ws own nm bytes maxL ret) {x y : Int32} (hd : decode bytes pc = .ok (.iushr, 1)) (hp : pc + 1 = pc') (k : G p l e R s m args below meth c ws Φ h cells slots pc' Ls (.int (ushr x y) :: st)) : G p l e R s m args below meth c ws Φ h cells slots pc Ls (.int y :: .int x :: st) := by
  subst hp
  exact g_of (fun T A t q => XS.iushr A C.1 rfl (hb C.2.2.2.1 hd) rfl q) k
theorem g_idiv (C : Cx p s m meth c Z h0 ws own nm bytes maxL ret) {x y : Int32} (hd : decode bytes pc = .ok (.idiv, 1)) (hy : y ≠ 0) (hp : pc + 1 = pc') (k : G p l e R s m args below meth c ws Φ h cells slots pc' Ls (.int (x / y) :: st)) : G p l e R s m args below meth c ws Φ h cells slots pc Ls (.int y :: .int x :: st) := by
  subst hp
  exact g_of (fun T A t q => XS.idiv A C.1 rfl (hb C.2.2.2.1 hd) rfl hy q) k
theorem g_irem (C : Cx p s m meth c Z h0 ws own nm bytes maxL ret) {x y : Int32} (hd : decode bytes pc = .ok (.irem, 1)) (hy : y ≠ 0) (hp : pc + 1 = pc') (k : G p l e R s m args below meth c ws Φ h cells slots pc' Ls (.int (x % y) :: st)) : G p l e R s m args below meth c ws Φ h cells slots pc Ls (.int y :: .int x :: st) := by
  subst hp
  exact g_of (fun T A t q => XS.irem A C.1 rfl (hb C.2.2.2.1 hd) rfl hy (by rw [irem_eq_mod]; exact q)) k
theorem g_ineg (C : Cx p s m meth c Z h0 ws own nm bytes maxL ret) {x : Int32} (hd : decode bytes pc = .ok (.ineg, 1)) (hp : pc + 1 = pc') (k : G p l e R s m args below meth c ws Φ h cells slots pc' Ls (.int (-x) :: st)) : G p l e R s m args below meth c ws Φ h cells slots pc Ls (.int x :: st) := by
  subst hp
  exact g_of (fun T A t q => XS.ineg A C.1 rfl (hb C.2.2.2.1 hd) rfl q) k
theorem g_ladd (C : Cx p s m meth c Z h0 ws own nm bytes maxL ret) {x y : Int64} (hd : decode bytes pc = .ok (.ladd, 1)) (hp : pc + 1 = pc') (k : G p l e R s m args below meth c ws Φ h cells slots pc' Ls (.long (x + y) :: st)) : G p l e R s m args below meth c ws Φ h cells slots pc Ls (.long y :: .long x :: st) := by
  subst hp
  exact g_of (fun T A t q => XS.ladd A C.1 rfl (hb C.2.2.2.1 hd) rfl q) k
theorem g_lsub (C : Cx p s m meth c Z h0 ws own nm bytes maxL ret) {x y : Int64} (hd : decode bytes pc = .ok (.lsub, 1)) (hp : pc + 1 = pc') (k : G p l e R s m args below meth c ws Φ h cells slots pc' Ls (.long (x - y) :: st)) : G p l e R s m args below meth c ws Φ h cells slots pc Ls (.long y :: .long x :: st) := by
  subst hp
  exact g_of (fun T A t q => XS.lsub A C.1 rfl (hb C.2.2.2.1 hd) rfl q) k
theorem g_lmul (C : Cx p s m meth c Z h0 ws own nm bytes maxL ret) {x y : Int64} (hd : decode bytes pc = .ok (.lmul, 1)) (hp : pc + 1 = pc') (k : G p l e R s m args below meth c ws Φ h cells slots pc' Ls (.long (x * y) :: st)) : G p l e R s m args below meth c ws Φ h cells slots pc Ls (.long y :: .long x :: st) := by
  subst hp
  exact g_of (fun T A t q => XS.lmul A C.1 rfl (hb C.2.2.2.1 hd) rfl q) k
theorem g_land (C : Cx p s m meth c Z h0 ws own nm bytes maxL ret) {x y : Int64} (hd : decode bytes pc = .ok (.land, 1)) (hp : pc + 1 = pc') (k : G p l e R s m args below meth c ws Φ h cells slots pc' Ls (.long (x &&& y) :: st)) : G p l e R s m args below meth c ws Φ h cells slots pc Ls (.long y :: .long x :: st) := by
  subst hp
  exact g_of (fun T A t q => XS.land A C.1 rfl (hb C.2.2.2.1 hd) rfl q) k
theorem g_lor (C : Cx p s m meth c Z h0 ws own nm bytes maxL ret) {x y : Int64} (hd : decode bytes pc = .ok (.lor, 1)) (hp : pc + 1 = pc') (k : G p l e R s m args below meth c ws Φ h cells slots pc' Ls (.long (x ||| y) :: st)) : G p l e R s m args below meth c ws Φ h cells slots pc Ls (.long y :: .long x :: st) := by
  subst hp
  exact g_of (fun T A t q => XS.lor A C.1 rfl (hb C.2.2.2.1 hd) rfl q) k
theorem g_lxor (C : Cx p s m meth c Z h0 ws own nm bytes maxL ret) {x y : Int64} (hd : decode bytes pc = .ok (.lxor, 1)) (hp : pc + 1 = pc') (k : G p l e R s m args below meth c ws Φ h cells slots pc' Ls (.long (x ^^^ y) :: st)) : G p l e R s m args below meth c ws Φ h cells slots pc Ls (.long y :: .long x :: st) := by
  subst hp
  exact g_of (fun T A t q => XS.lxor A C.1 rfl (hb C.2.2.2.1 hd) rfl q) k
theorem g_lshl (C : Cx p s m meth c Z h0 ws own nm bytes maxL ret) {x : Int64} {y : Int32} (hd : decode bytes pc = .ok (.lshl, 1)) (hp : pc + 1 = pc') (k : G p l e R s m args below meth c ws Φ h cells slots pc' Ls (.long (x <<< (y &&& 63).toInt64) :: st)) : G p l e R s m args below meth c ws Φ h cells slots pc Ls (.int y :: .long x :: st) := by
  subst hp
  exact g_of (fun T A t q => XS.lshl A C.1 rfl (hb C.2.2.2.1 hd) rfl q) k
theorem g_lshr (C : Cx p s m meth c Z h0 ws own nm bytes maxL ret) {x : Int64} {y : Int32} (hd : decode bytes pc = .ok (.lshr, 1)) (hp : pc + 1 = pc') (k : G p l e R s m args below meth c ws Φ h cells slots pc' Ls (.long (x >>> (y &&& 63).toInt64) :: st)) : G p l e R s m args below meth c ws Φ h cells slots pc Ls (.int y :: .long x :: st) := by
  subst hp
  exact g_of (fun T A t q => XS.lshr A C.1 rfl (hb C.2.2.2.1 hd) rfl q) k
theorem g_lushr (C : Cx p s m meth c Z h0 ws own nm bytes maxL ret) {x : Int64} {y : Int32} (hd : decode bytes pc = .ok (.lushr, 1)) (hp : pc + 1 = pc') (k : G p l e R s m args below meth c ws Φ h cells slots pc' Ls (.long (ushrL x y) :: st)) : G p l e R s m args below meth c ws Φ h cells slots pc Ls (.int y :: .long x :: st) := by
  subst hp
  exact g_of (fun T A t q => XT.lushr A C.1 rfl (hb C.2.2.2.1 hd) rfl q) k
theorem g_lcmp (C : Cx p s m meth c Z h0 ws own nm bytes maxL ret) {x y : Int64} (hd : decode bytes pc = .ok (.lcmp, 1)) (hp : pc + 1 = pc') (k : G p l e R s m args below meth c ws Φ h cells slots pc' Ls (.int (cmpL x y) :: st)) : G p l e R s m args below meth c ws Φ h cells slots pc Ls (.long y :: .long x :: st) := by
  subst hp
  exact g_of (fun T A t q => XS.lcmp A C.1 rfl (hb C.2.2.2.1 hd) rfl q) k
theorem g_i2l (C : Cx p s m meth c Z h0 ws own nm bytes maxL ret) {x : Int32} (hd : decode bytes pc = .ok (.i2l, 1)) (hp : pc + 1 = pc') (k : G p l e R s m args below meth c ws Φ h cells slots pc' Ls (.long x.toInt64 :: st)) : G p l e R s m args below meth c ws Φ h cells slots pc Ls (.int x :: st) := by
  subst hp
  exact g_of (fun T A t q => XS.i2l A C.1 rfl (hb C.2.2.2.1 hd) rfl q) k
theorem g_l2i (C : Cx p s m meth c Z h0 ws own nm bytes maxL ret) {x : Int64} (hd : decode bytes pc = .ok (.l2i, 1)) (hp : pc + 1 = pc') (k : G p l e R s m args below meth c ws Φ h cells slots pc' Ls (.int x.toInt32 :: st)) : G p l e R s m args below meth c ws Φ h cells slots pc Ls (.long x :: st) := by
  subst hp
  exact g_of (fun T A t q => XS.l2i A C.1 rfl (hb C.2.2.2.1 hd) rfl q) k
theorem g_i2b (C : Cx p s m meth c Z h0 ws own nm bytes maxL ret) {x : Int32} (hd : decode bytes pc = .ok (.i2b, 1)) (hp : pc + 1 = pc') (k : G p l e R s m args below meth c ws Φ h cells slots pc' Ls (.int x.toInt8.toInt32 :: st)) : G p l e R s m args below meth c ws Φ h cells slots pc Ls (.int x :: st) := by
  subst hp
  exact g_of (fun T A t q => XS.i2b A C.1 rfl (hb C.2.2.2.1 hd) rfl q) k
theorem g_i2c (C : Cx p s m meth c Z h0 ws own nm bytes maxL ret) {x : Int32} (hd : decode bytes pc = .ok (.i2c, 1)) (hp : pc + 1 = pc') (k : G p l e R s m args below meth c ws Φ h cells slots pc' Ls (.int (nar .char x) :: st)) : G p l e R s m args below meth c ws Φ h cells slots pc Ls (.int x :: st) := by
  subst hp
  exact g_of (fun T A t q => XS.i2c A C.1 rfl (hb C.2.2.2.1 hd) rfl q) k
theorem g_pop (C : Cx p s m meth c Z h0 ws own nm bytes maxL ret) {v : Value} (hd : decode bytes pc = .ok (.pop, 1)) (hv : v.category = 1) (hp : pc + 1 = pc') (k : G p l e R s m args below meth c ws Φ h cells slots pc' Ls st) : G p l e R s m args below meth c ws Φ h cells slots pc Ls (v :: st) := by
  subst hp
  exact g_of (fun T A t q => XS.pop A C.1 rfl (hb C.2.2.2.1 hd) rfl hv q) k
theorem g_dup (C : Cx p s m meth c Z h0 ws own nm bytes maxL ret) {v : Value} (hd : decode bytes pc = .ok (.dup, 1)) (hv : v.category = 1) (hp : pc + 1 = pc') (k : G p l e R s m args below meth c ws Φ h cells slots pc' Ls (v :: v :: st)) : G p l e R s m args below meth c ws Φ h cells slots pc Ls (v :: st) := by
  subst hp
  exact g_of (fun T A t q => XS.dup A C.1 rfl (hb C.2.2.2.1 hd) rfl hv q) k
theorem g_dup_x1 (C : Cx p s m meth c Z h0 ws own nm bytes maxL ret) {v w : Value} (hd : decode bytes pc = .ok (.dup_x1, 1)) (hv : v.category = 1) (hw' : w.category = 1) (hp : pc + 1 = pc') (k : G p l e R s m args below meth c ws Φ h cells slots pc' Ls (v :: w :: v :: st)) : G p l e R s m args below meth c ws Φ h cells slots pc Ls (v :: w :: st) := by
  subst hp
  exact g_of (fun T A t q => XS.dupX1 A C.1 rfl (hb C.2.2.2.1 hd) rfl hv hw' q) k
theorem g_dup2 (C : Cx p s m meth c Z h0 ws own nm bytes maxL ret) {v w : Value} (hd : decode bytes pc = .ok (.dup2, 1)) (hv : v.category = 1) (hw' : w.category = 1) (hp : pc + 1 = pc') (k : G p l e R s m args below meth c ws Φ h cells slots pc' Ls (v :: w :: v :: w :: st)) : G p l e R s m args below meth c ws Φ h cells slots pc Ls (v :: w :: st) := by
  subst hp
  exact g_of (fun T A t q => XT.dup2 A C.1 rfl (hb C.2.2.2.1 hd) rfl hv hw' q) k
theorem g_dup2L (C : Cx p s m meth c Z h0 ws own nm bytes maxL ret) {x : Int64} (hd : decode bytes pc = .ok (.dup2, 1)) (hp : pc + 1 = pc') (k : G p l e R s m args below meth c ws Φ h cells slots pc' Ls (.long x :: .long x :: st)) : G p l e R s m args below meth c ws Φ h cells slots pc Ls (.long x :: st) := by
  subst hp
  exact g_of (fun T A t q => XT.dup2L A C.1 rfl (hb C.2.2.2.1 hd) rfl q) k
theorem g_iinc (C : Cx p s m meth c Z h0 ws own nm bytes maxL ret) {i : Nat} {cst : Int} {x y : Int32} (hd : decode bytes pc = .ok (.iinc i cst, 3)) (hl : Ls[i]? = some (.val (.int x))) (hy : x + Int32.ofInt cst = y) (hl' : storeLocals Ls i (.int y) = some Ls') (hp : pc + 3 = pc') (k : G p l e R s m args below meth c ws Φ h cells slots pc' Ls' st) : G p l e R s m args below meth c ws Φ h cells slots pc Ls st := by
  subst hp
  exact g_of (fun T A t q => XS.iinc A C.1 rfl (hb C.2.2.2.1 hd) hl (by rw [hy]; exact hl') q) k
theorem g_goto (C : Cx p s m meth c Z h0 ws own nm bytes maxL ret) {o : Int} (hd : decode bytes pc = .ok (.goto o, 3)) (ho : 0 ≤ (pc : Int) + o) (hp : ((pc : Int) + o).toNat = pc') (k : G p l e R s m args below meth c ws Φ h cells slots pc' Ls st) : G p l e R s m args below meth c ws Φ h cells slots pc Ls st :=
  g_of (fun T A t q => XS.goto A C.1 rfl rfl (hb C.2.2.2.1 hd) ho hp q) k
theorem g_if_icmplt (C : Cx p s m meth c Z h0 ws own nm bytes maxL ret) {o : Int} {x y : Int32} {pcT pcF : Nat} (hd : decode bytes pc = .ok (.if_icmp .lt o, 3)) (ho : 0 ≤ (pc : Int) + o) (hT : ((pc : Int) + o).toNat = pcT) (hF : pc + 3 = pcF) (kT : x < y → G p l e R s m args below meth c ws Φ h cells slots pcT Ls st) (kF : ¬ x < y → G p l e R s m args below meth c ws Φ h cells slots pcF Ls st) : G p l e R s m args below meth c ws Φ h cells slots pc Ls (.int y :: .int x :: st) := by
  subst hF
  by_cases z : x < y
  · exact g_of (fun T A t q => XS.icmpYes A C.1 rfl rfl (hb C.2.2.2.1 hd) rfl (tlt z).1 ho hT q) (kT z)
  · exact g_of (fun T A t q => XS.icmpNo A C.1 rfl (hb C.2.2.2.1 hd) rfl (flt z).1 q) (kF z)
theorem g_iflt (C : Cx p s m meth c Z h0 ws own nm bytes maxL ret) {o : Int} {x : Int32} {pcT pcF : Nat} (hd : decode bytes pc = .ok (.ifCond .lt o, 3)) (ho : 0 ≤ (pc : Int) + o) (hT : ((pc : Int) + o).toNat = pcT) (hF : pc + 3 = pcF) (kT : x < 0 → G p l e R s m args below meth c ws Φ h cells slots pcT Ls st) (kF : ¬ x < 0 → G p l e R s m args below meth c ws Φ h cells slots pcF Ls st) : G p l e R s m args below meth c ws Φ h cells slots pc Ls (.int x :: st) := by
  subst hF
  by_cases z : x < 0
  · exact g_of (fun T A t q => XS.ifYes A C.1 rfl rfl (hb C.2.2.2.1 hd) rfl ((if0 _ _).trans (tlt z).1) ho hT q) (kT z)
  · exact g_of (fun T A t q => XS.ifNo A C.1 rfl (hb C.2.2.2.1 hd) rfl ((if0 _ _).trans (flt z).1) q) (kF z)
theorem g_if_icmpge (C : Cx p s m meth c Z h0 ws own nm bytes maxL ret) {o : Int} {x y : Int32} {pcT pcF : Nat} (hd : decode bytes pc = .ok (.if_icmp .ge o, 3)) (ho : 0 ≤ (pc : Int) + o) (hT : ((pc : Int) + o).toNat = pcT) (hF : pc + 3 = pcF) (kT : ¬ x < y → G p l e R s m args below meth c ws Φ h cells slots pcT Ls st) (kF : x < y → G p l e R s m args below meth c ws Φ h cells slots pcF Ls st) : G p l e R s m args below meth c ws Φ h cells slots pc Ls (.int y :: .int x :: st) := by
  subst hF
  by_cases z : x < y
  · exact g_of (fun T A t q => XS.icmpNo A C.1 rfl (hb C.2.2.2.1 hd) rfl (tlt z).2.1 q) (kF z)
  · exact g_of (fun T A t q => XS.icmpYes A C.1 rfl rfl (hb C.2.2.2.1 hd) rfl (flt z).2.1 ho hT q) (kT z)
theorem g_ifge (C : Cx p s m meth c Z h0 ws own nm bytes maxL ret) {o : Int} {x : Int32} {pcT pcF : Nat} (hd : decode bytes pc = .ok (.ifCond .ge o, 3)) (ho : 0 ≤ (pc : Int) + o) (hT : ((pc : Int) + o).toNat = pcT) (hF : pc + 3 = pcF) (kT : ¬ x < 0 → G p l e R s m args below meth c ws Φ h cells slots pcT Ls st) (kF : x < 0 → G p l e R s m args below meth c ws Φ h cells slots pcF Ls st) : G p l e R s m args below meth c ws Φ h cells slots pc Ls (.int x :: st) := by
  subst hF
  by_cases z : x < 0
  · exact g_of (fun T A t q => XS.ifNo A C.1 rfl (hb C.2.2.2.1 hd) rfl ((if0 _ _).trans (tlt z).2.1) q) (kF z)
  · exact g_of (fun T A t q => XS.ifYes A C.1 rfl rfl (hb C.2.2.2.1 hd) rfl ((if0 _ _).trans (flt z).2.1) ho hT q) (kT z)
theorem g_if_icmpgt (C : Cx p s m meth c Z h0 ws own nm bytes maxL ret) {o : Int} {x y : Int32} {pcT pcF : Nat} (hd : decode bytes pc = .ok (.if_icmp .gt o, 3)) (ho : 0 ≤ (pc : Int) + o) (hT : ((pc : Int) + o).toNat = pcT) (hF : pc + 3 = pcF) (kT : y < x → G p l e R s m args below meth c ws Φ h cells slots pcT Ls st) (kF : ¬ y < x → G p l e R s m args below meth c ws Φ h cells slots pcF Ls st) : G p l e R s m args below meth c ws Φ h cells slots pc Ls (.int y :: .int x :: st) := by
  subst hF
  by_cases z : y < x
  · exact g_of (fun T A t q => XS.icmpYes A C.1 rfl rfl (hb C.2.2.2.1 hd) rfl (tlt z).2.2.1 ho hT q) (kT z)
  · exact g_of (fun T A t q => XS.icmpNo A C.1 rfl (hb C.2.2.2.1 hd) rfl (flt z).2.2.1 q) (kF z)
theorem g_ifgt (C : Cx p s m meth c Z h0 ws own nm bytes maxL ret) {o : Int} {x : Int32} {pcT pcF : Nat} (hd : decode bytes pc = .ok (.ifCond .gt o, 3)) (ho : 0 ≤ (pc : Int) + o) (hT : ((pc : Int) + o).toNat = pcT) (hF : pc + 3 = pcF) (kT : 0 < x → G p l e R s m args below meth c ws Φ h cells slots pcT Ls st) (kF : ¬ 0 < x → G p l e R s m args below meth c ws Φ h cells slots pcF Ls st) : G p l e R s m args below meth c ws Φ h cells slots pc Ls (.int x :: st) := by
  subst hF
  by_cases z : 0 < x
  · exact g_of (fun T A t q => XS.ifYes A C.1 rfl rfl (hb C.2.2.2.1 hd) rfl ((if0 _ _).trans (tlt z).2.2.1) ho hT q) (kT z)
  · exact g_of (fun T A t q => XS.ifNo A C.1 rfl (hb C.2.2.2.1 hd) rfl ((if0 _ _).trans (flt z).2.2.1) q) (kF z)
theorem g_if_icmple (C : Cx p s m meth c Z h0 ws own nm bytes maxL ret) {o : Int} {x y : Int32} {pcT pcF : Nat} (hd : decode bytes pc = .ok (.if_icmp .le o, 3)) (ho : 0 ≤ (pc : Int) + o) (hT : ((pc : Int) + o).toNat = pcT) (hF : pc + 3 = pcF) (kT : ¬ y < x → G p l e R s m args below meth c ws Φ h cells slots pcT Ls st) (kF : y < x → G p l e R s m args below meth c ws Φ h cells slots pcF Ls st) : G p l e R s m args below meth c ws Φ h cells slots pc Ls (.int y :: .int x :: st) := by
  subst hF
  by_cases z : y < x
  · exact g_of (fun T A t q => XS.icmpNo A C.1 rfl (hb C.2.2.2.1 hd) rfl (tlt z).2.2.2 q) (kF z)
  · exact g_of (fun T A t q => XS.icmpYes A C.1 rfl rfl (hb C.2.2.2.1 hd) rfl (flt z).2.2.2 ho hT q) (kT z)
theorem g_ifle (C : Cx p s m meth c Z h0 ws own nm bytes maxL ret) {o : Int} {x : Int32} {pcT pcF : Nat} (hd : decode bytes pc = .ok (.ifCond .le o, 3)) (ho : 0 ≤ (pc : Int) + o) (hT : ((pc : Int) + o).toNat = pcT) (hF : pc + 3 = pcF) (kT : ¬ 0 < x → G p l e R s m args below meth c ws Φ h cells slots pcT Ls st) (kF : 0 < x → G p l e R s m args below meth c ws Φ h cells slots pcF Ls st) : G p l e R s m args below meth c ws Φ h cells slots pc Ls (.int x :: st) := by
  subst hF
  by_cases z : 0 < x
  · exact g_of (fun T A t q => XS.ifNo A C.1 rfl (hb C.2.2.2.1 hd) rfl ((if0 _ _).trans (tlt z).2.2.2) q) (kF z)
  · exact g_of (fun T A t q => XS.ifYes A C.1 rfl rfl (hb C.2.2.2.1 hd) rfl ((if0 _ _).trans (flt z).2.2.2) ho hT q) (kT z)
theorem g_if_icmpeq (C : Cx p s m meth c Z h0 ws own nm bytes maxL ret) {o : Int} {x y : Int32} {pcT pcF : Nat} (hd : decode bytes pc = .ok (.if_icmp .eq o, 3)) (ho : 0 ≤ (pc : Int) + o) (hT : ((pc : Int) + o).toNat = pcT) (hF : pc + 3 = pcF) (kT : x = y → G p l e R s m args below meth c ws Φ h cells slots pcT Ls st) (kF : ¬ x = y → G p l e R s m args below meth c ws Φ h cells slots pcF Ls st) : G p l e R s m args below meth c ws Φ h cells slots pc Ls (.int y :: .int x :: st) := by
  subst hF
  by_cases z : x = y
  · exact g_of (fun T A t q => XS.icmpYes A C.1 rfl rfl (hb C.2.2.2.1 hd) rfl (teq z).1 ho hT q) (kT z)
  · exact g_of (fun T A t q => XS.icmpNo A C.1 rfl (hb C.2.2.2.1 hd) rfl (feq z).1 q) (kF z)
theorem g_ifeq (C : Cx p s m meth c Z h0 ws own nm bytes maxL ret) {o : Int} {x : Int32} {pcT pcF : Nat} (hd : decode bytes pc = .ok (.ifCond .eq o, 3)) (ho : 0 ≤ (pc : Int) + o) (hT : ((pc : Int) + o).toNat = pcT) (hF : pc + 3 = pcF) (kT : x = 0 → G p l e R s m args below meth c ws Φ h cells slots pcT Ls st) (kF : ¬ x = 0 → G p l e R s m args below meth c ws Φ h cells slots pcF Ls st) : G p l e R s m args below meth c ws Φ h cells slots pc Ls (.int x :: st) := by
  subst hF
  by_cases z : x = 0
  · exact g_of (fun T A t q => XS.ifYes A C.1 rfl rfl (hb C.2.2.2.1 hd) rfl ((if0 _ _).trans (teq z).1) ho hT q) (kT z)
  · exact g_of (fun T A t q => XS.ifNo A C.1 rfl (hb C.2.2.2.1 hd) rfl ((if0 _ _).trans (feq z).1) q) (kF z)
theorem g_if_icmpne (C : Cx p s m meth c Z h0 ws own nm bytes maxL ret) {o : Int} {x y : Int32} {pcT pcF : Nat} (hd : decode bytes pc = .ok (.if_icmp .ne o, 3)) (ho : 0 ≤ (pc : Int) + o) (hT : ((pc : Int) + o).toNat = pcT) (hF : pc + 3 = pcF) (kT : ¬ x = y → G p l e R s m args below meth c ws Φ h cells slots pcT Ls st) (kF : x = y → G p l e R s m args below meth c ws Φ h cells slots pcF Ls st) : G p l e R s m args below meth c ws Φ h cells slots pc Ls (.int y :: .int x :: st) := by
  subst hF
  by_cases z : x = y
  · exact g_of (fun T A t q => XS.icmpNo A C.1 rfl (hb C.2.2.2.1 hd) rfl (teq z).2 q) (kF z)
  · exact g_of (fun T A t q => XS.icmpYes A C.1 rfl rfl (hb C.2.2.2.1 hd) rfl (feq z).2 ho hT q) (kT z)
theorem g_ifne (C : Cx p s m meth c Z h0 ws own nm bytes maxL ret) {o : Int} {x : Int32} {pcT pcF : Nat} (hd : decode bytes pc = .ok (.ifCond .ne o, 3)) (ho : 0 ≤ (pc : Int) + o) (hT : ((pc : Int) + o).toNat = pcT) (hF : pc + 3 = pcF) (kT : ¬ x = 0 → G p l e R s m args below meth c ws Φ h cells slots pcT Ls st) (kF : x = 0 → G p l e R s m args below meth c ws Φ h cells slots pcF Ls st) : G p l e R s m args below meth c ws Φ h cells slots pc Ls (.int x :: st) := by
  subst hF
  by_cases z : x = 0
  · exact g_of (fun T A t q => XS.ifNo A C.1 rfl (hb C.2.2.2.1 hd) rfl ((if0 _ _).trans (teq z).2) q) (kF z)
  · exact g_of (fun T A t q => XS.ifYes A C.1 rfl rfl (hb C.2.2.2.1 hd) rfl ((if0 _ _).trans (feq z).2) ho hT q) (kT z)
theorem g_ifnull (C : Cx p s m meth c Z h0 ws own nm bytes maxL ret) {o : Int} {v : Value} {pcT pcF : Nat} (hv : v.isRef = true) (hd : decode bytes pc = .ok (.ifnull o, 3)) (ho : 0 ≤ (pc : Int) + o) (hT : ((pc : Int) + o).toNat = pcT) (hF : pc + 3 = pcF) (kT : v = .null → G p l e R s m args below meth c ws Φ h cells slots pcT Ls st) (kF : ∀ a, v = .ref a → G p l e R s m args below meth c ws Φ h cells slots pcF Ls st) : G p l e R s m args below meth c ws Φ h cells slots pc Ls (v :: st) := by
  subst hF
  rcases ref_cases hv with rfl | ⟨a, rfl⟩
  · exact g_of (fun T A t q => XS.ifnullYes A C.1 rfl rfl (hb C.2.2.2.1 hd) rfl ho hT q) (kT rfl)
  · exact g_of (fun T A t q => XS.ifnullNo A C.1 rfl (hb C.2.2.2.1 hd) rfl q) (kF a rfl)
theorem g_ifnonnull (C : Cx p s m meth c Z h0 ws own nm bytes maxL ret) {o : Int} {v : Value} {pcT pcF : Nat} (hv : v.isRef = true) (hd : decode bytes pc = .ok (.ifnonnull o, 3)) (ho : 0 ≤ (pc : Int) + o) (hT : ((pc : Int) + o).toNat = pcT) (hF : pc + 3 = pcF) (kT : ∀ a, v = .ref a → G p l e R s m args below meth c ws Φ h cells slots pcT Ls st) (kF : v = .null → G p l e R s m args below meth c ws Φ h cells slots pcF Ls st) : G p l e R s m args below meth c ws Φ h cells slots pc Ls (v :: st) := by
  subst hF
  rcases ref_cases hv with rfl | ⟨a, rfl⟩
  · exact g_of (fun T A t q => XS.ifnonnullNo A C.1 rfl (hb C.2.2.2.1 hd) rfl q) (kF rfl)
  · exact g_of (fun T A t q => XS.ifnonnullYes A C.1 rfl rfl (hb C.2.2.2.1 hd) rfl ho hT q) (kT a rfl)
theorem g_if_acmpeq (C : Cx p s m meth c Z h0 ws own nm bytes maxL ret) {o : Int} {v w : Value} {pcT pcF : Nat} (hv : v.isRef = true) (hw' : w.isRef = true) (hd : decode bytes pc = .ok (.if_acmp .eq o, 3)) (ho : 0 ≤ (pc : Int) + o) (hT : ((pc : Int) + o).toNat = pcT) (hF : pc + 3 = pcF) (kT : v = w → G p l e R s m args below meth c ws Φ h cells slots pcT Ls st) (kF : ¬ v = w → G p l e R s m args below meth c ws Φ h cells slots pcF Ls st) : G p l e R s m args below meth c ws Φ h cells slots pc Ls (w :: v :: st) := by
  subst hF hT
  by_cases z : v = w
  · exact g_ofX (fun T locs X _ t q => RoadKit.acmp X C.1 rfl hv hw' (same := true) rfl (hb C.2.2.2.1 hd) rfl (by simp [z]) ho rfl q) (kT z)
  · exact g_ofX (fun T locs X _ t q => RoadKit.acmp X C.1 rfl hv hw' (same := false) rfl (hb C.2.2.2.1 hd) rfl (by simp [z]) ho rfl q) (kF z)
theorem g_if_acmpne (C : Cx p s m meth c Z h0 ws own nm bytes maxL ret) {o : Int} {v w : Value} {pcT pcF : Nat} (hv : v.isRef = true) (hw' : w.isRef = true) (hd : decode bytes pc = .ok (.if_acmp .ne o, 3)) (ho : 0 ≤ (pc : Int) + o) (hT : ((pc : Int) + o).toNat = pcT) (hF : pc + 3 = pcF) (kT : ¬ v = w → G p l e R s m args below meth c ws Φ h cells slots pcT Ls st) (kF : v = w → G p l e R s m args below meth c ws Φ h cells slots pcF Ls st) : G p l e R s m args below meth c ws Φ h cells slots pc Ls (w :: v :: st) := by
  subst hF hT
  by_cases z : v = w
  · exact g_ofX (fun T locs X _ t q => RoadKit.acmp X C.1 rfl hv hw' (same := true) rfl (hb C.2.2.2.1 hd) rfl (by simp [z]) ho rfl q) (kF z)
  · exact g_ofX (fun T locs X _ t q => RoadKit.acmp X C.1 rfl hv hw' (same := false) rfl (hb C.2.2.2.1 hd) rfl (by simp [z]) ho rfl q) (kT z)
theorem g_getfield (C : Cx p s m meth c Z h0 ws own nm bytes maxL ret) {R0 O n d : String} {index : Nat} (w : (Jvm.Cond.fieldLink own index R0 n d).before a0 Z = true) (via : Via Z R0 O n d) {a : Addr} {v : Value} (F : Fld Z h a O n d v) (hd : decode bytes pc = .ok (.getfield index, 3)) (hp : pc + 3 = pc') (k : G p l e R s m args below meth c ws Φ h cells slots pc' Ls (v :: st)) : G p l e R s m args below meth c ws Φ h cells slots pc Ls (.ref a :: st) := by
  intro T locs X e1 N
  subst hp
  obtain ⟨hx, hZ, hown, hby, hml, hret, hlk, hnm, rfl, hE, hws⟩ := C
  obtain ⟨T', X', e2, stp⟩ := getF X hx hZ hown (host := "") (Or.inl w) via e1 F (g := mkF m pc Ls (.ref a :: st)) rfl rfl (hb hby hd)
  obtain ⟨s2, o, q, r⟩ := k T' locs X' e2 N
  exact ⟨s2, o, stp _ q, r⟩
theorem g_getfieldN (C : Cx p s m meth c Z h0 ws own nm bytes maxL ret) {R0 O n d host : String} {index : Nat} (w : (Jvm.Cond.fieldLinkNest own index R0 n d host).before a0 Z = true) (via : Via Z R0 O n d) {a : Addr} {v : Value} (F : Fld Z h a O n d v) (hd : decode bytes pc = .ok (.getfield index, 3)) (hp : pc + 3 = pc') (k : G p l e R s m args below meth c ws Φ h cells slots pc' Ls (v :: st)) : G p l e R s m args below meth c ws Φ h cells slots pc Ls (.ref a :: st) := by
  intro T locs X e1 N
  subst hp
  obtain ⟨hx, hZ, hown, hby, hml, hret, hlk, hnm, rfl, hE, hws⟩ := C
  obtain ⟨T', X', e2, stp⟩ := getF X hx hZ hown (Or.inr w) via e1 F (g := mkF m pc Ls (.ref a :: st)) rfl rfl (hb hby hd)
  obtain ⟨s2, o, q, r⟩ := k T' locs X' e2 N
  exact ⟨s2, o, stp _ q, r⟩
theorem g_getstatic (C : Cx p s m meth c Z h0 ws own nm bytes maxL ret) {R0 O n d : String} {index : Nat} (w : (Jvm.Cond.fieldLink own index R0 n d).before a0 Z = true) (via : Via Z R0 O n d) {v : Value} (F : Sta Z h O n d v) (hd : decode bytes pc = .ok (.getstatic index, 3)) (hp : pc + 3 = pc') (k : G p l e R s m args below meth c ws Φ h cells slots pc' Ls (v :: st)) : G p l e R s m args below meth c ws Φ h cells slots pc Ls st := by
  intro T locs X e1 N
  subst hp
  obtain ⟨hx, hZ, hown, hby, hml, hret, hlk, hnm, rfl, hE, hws⟩ := C
  obtain ⟨T', X', e2, stp⟩ := getS X hx hZ hown (host := "") w via e1 F (g := mkF m pc Ls st) rfl (hb hby hd)
  obtain ⟨s2, o, q, r⟩ := k T' locs X' e2 N
  exact ⟨s2, o, stp _ q, r⟩
theorem g_putfield (C : Cx p s m meth c Z h0 ws own nm bytes maxL ret) {R0 O n d Cn : String} {index kk : Nat} {ty : FieldType} (w : (Jvm.Cond.fieldLink own index R0 n d).before a0 Z = true) (via : Via Z R0 O n d) {a : Addr} {v v' old : Value} (F : Fld Z h a O n d old) (E : Exa Z h a Cn) (L : (Jvm.Cond.lays Cn O n d).before a0 Z = true ∨ ((Jvm.Cond.laysFinal Cn O n d).before a0 Z = true ∧ own = O ∧ nm = "<init>")) (wi : (Jvm.Cond.instantiable Cn kk).before a0 Z = true) (hty : parseFieldDescriptor d = some ty) (hn : narrow ty v = v') (hf : fits ty v' = true) (ha : a ∈ ws ∨ h0.size ≤ a) (hd : decode bytes pc = .ok (.putfield index, 3)) (hp : pc + 3 = pc') (k : ∀ h', Wr h h' a (RoadKit.slotOf Z O n d) v' → G p l e R s m args below meth c ws Φ h' cells slots pc' Ls st) : G p l e R s m args below meth c ws Φ h cells slots pc Ls (v :: .ref a :: st) := by
  intro T locs X e1 N
  subst hp
  obtain ⟨hx, hZ, hown, hby, hml, hret, hlk, hnm, rfl, hE, hws⟩ := C
  subst hnm
  obtain ⟨T', h', X', e2, W, stp⟩ := putFN X hx hZ hown w via e1 F E L wi hty hn hf (g := mkF m pc Ls (v :: .ref a :: st)) rfl rfl (hb hby hd)
  obtain ⟨s2, o, q, r⟩ := k h' W T' _ X' e2 (N.app (Lw.one ha))
  exact ⟨s2, o, stp _ q, r⟩
theorem g_new (C : Cx p s m meth c Z h0 ws own nm bytes maxL ret) {Cn : String} {index n : Nat} (w : (Jvm.Cond.classLink own index Cn).before a0 Z = true) (wi : (Jvm.Cond.instantiable Cn n).before a0 Z = true) (wz : (Jvm.Cond.initialized Cn).before a0 Z = true) (hd : decode bytes pc = .ok (.new index, 3)) (hp : pc + 3 = pc') (hc : cells + 1 ≤ R.cells) (hs : slots + n ≤ R.slots) (k : ∀ h' a, a = h.size → h0.size ≤ a → Ext h h' → Exa Z h' a Cn → (∀ {O nm d : String} {ty : FieldType}, Laid Z a0 Cn O nm d → parseFieldDescriptor d = some ty → Fld Z h' a O nm d (defaultValue ty)) → G p l e R s m args below meth c ws Φ h' (cells + 1) (slots + n) pc' Ls (.ref a :: st)) : G p l e R s m args below meth c ws Φ h cells slots pc Ls st := by
  intro T locs X e1 N
  subst hp
  obtain ⟨hx, hZ, hown, hby, hml, hret, hlk, hnm, rfl, hE, hws⟩ := C
  obtain ⟨T', h', X', e2, E, A, Dd, -, stp⟩ := newO X hx hZ hown w wi wz e1 (g := mkF m pc Ls st) rfl (hb hby hd) hc hs
  obtain ⟨s2, o, q, r⟩ := k h' h.size rfl (e1 ▸ X.same.2.1) E A Dd T' locs X' e2 N
  exact ⟨s2, o, stp _ q, r⟩
/-- an array of n places, place i holding f i -/
def Af (Z : State) (h : Heap) (a : Addr) (ty : FieldType) (n : Nat) (f : Nat → Value) : Prop := ∃ k : Cell, Arr Z h a k ty ∧ k.slots.size = n ∧ n < 2 ^ 31 ∧ (∀ i, i < n → k.slots[i]? = some (f i)) ∧ ∀ i, i < n → fits ty (f i) = true
def upd (f : Nat → Value) (i : Nat) (v : Value) : Nat → Value := fun j => if j = i then v else f j
theorem upd_same {f : Nat → Value} {i : Nat} {v : Value} : upd f i v i = v := if_pos rfl
theorem upd_other {f : Nat → Value} {i j : Nat} {v : Value} (q : j ≠ i) : upd f i v j = f j := if_neg q
theorem Af.lt {a : Addr} {ty : FieldType} {n : Nat} {f : Nat → Value} (A : Af Z h a ty n f) : a < h.size := by obtain ⟨k, A, -⟩ := A; exact A.lt
theorem Af.ext {h' : Heap} {a : Addr} {ty : FieldType} {n : Nat} {f : Nat → Value} (A : Af Z h a ty n f) (E : Ext h h') : Af Z h' a ty n f := by obtain ⟨k, A, r⟩ := A; exact ⟨k, A.ext E, r⟩
theorem Af.keep {h' : Heap} {a : Addr} {ty : FieldType} {n : Nat} {f : Nat → Value} (A : Af Z h a ty n f) (K : Keep h h' ws) (q : a ∉ ws) : Af Z h' a ty n f := by obtain ⟨k, A, r⟩ := A; exact ⟨k, ⟨K.2.1 a k A.1 q, A.2⟩, r⟩
theorem Af.other {h' : Heap} {a b : Addr} {sl : Nat} {v : Value} {ty : FieldType} {n : Nat} {f : Nat → Value} (A : Af Z h a ty n f) (W : Wr h h' b sl v) (q : a ≠ b) : Af Z h' a ty n f := by obtain ⟨k, A, r⟩ := A; exact ⟨k, A.other W q, r⟩
theorem Af.same {h' : Heap} {a : Addr} {i : Nat} {v : Value} {ty : FieldType} {n : Nat} {f : Nat → Value} (A : Af Z h a ty n f) (W : Wr h h' a i v) (hv : fits ty v = true) : Af Z h' a ty n (upd f i v) := by
  obtain ⟨k, A, h1, h2, h3, h4⟩ := A
  refine ⟨_, A.same W, by rw [sz_set]; exact h1, h2, fun j hj => ?_, fun j hj => ?_⟩
  · by_cases z : j = i
    · subst z; rw [upd_same]; simp [Cell.setSlot, h1, hj]
    · rw [upd_other z, ← h3 j hj]; exact Array.getElem?_setIfInBounds_ne (Ne.symm z)
  · by_cases z : j = i
    · subst z; rw [upd_same]; exact hv
    · rw [upd_other z]; exact h4 j hj
theorem Af.new {a : Addr} {ty : FieldType} {k : ClassId} {z : Int32} {n : Nat} (A : Arr Z h a (newA k ty z) ty) (q : z.toNatClampNeg = n) (hn : n < 2 ^ 31) : Af Z h a ty n (fun _ => defaultValue ty) :=
  ⟨_, A, (sz_new _ _ _).trans q, hn, fun i hi => by simp [newA, q, hi], fun i hi => by cases ty <;> rfl⟩
theorem Af.arv {a : Addr} {ty : FieldType} {n : Nat} {f : Nat → Value} (A : Af Z h a ty n f) (d : Value) : ∃ kC, Arv Z h a kC ty (Int32.ofNat n) ((List.range n).map f) d := by
  obtain ⟨k, A, h1, h2, h3, h4⟩ := A
  have e1 : (Int32.ofNat n).toNatClampNeg = n := by
    have e0 : (Int32.ofNat n).toInt = (n : Int) := Int32.toInt_ofNat_small h2
    rw [Int32.toNatClampNeg, e0]; rfl
  have e2 : ¬ Int32.ofNat n < 0 := by
    have e0 : (Int32.ofNat n).toInt = (n : Int) := Int32.toInt_ofNat_small h2
    rw [Int32.lt_iff_toInt_lt, e0]; simp
  have e3 : ∀ i, i < n → ((List.range n).map f).getD i d = f i := fun i hi => by simp [List.getD_eq_getElem?_getD, hi]
  exact ⟨k.cls, k, A, rfl, by rw [h1, e1], e2, fun i hi => by rw [e3 i (h1 ▸ hi)]; exact h3 i (h1 ▸ hi), fun i hi => by rw [e3 i (h1 ▸ hi)]; exact h4 i (h1 ▸ hi)⟩
theorem Arv.af {a : Addr} {kC : ClassId} {ty : FieldType} {z : Int32} {vs : List Value} {d : Value} (A : Arv Z h a kC ty z vs d) {n : Nat} (hn : z.toNatClampNeg = n) : Af Z h a ty n (fun i => vs.getD i d) := by
  obtain ⟨k, A, -, h1, h2, h3, h4⟩ := A
  have e1 : k.slots.size = n := h1.trans hn
  exact ⟨k, A, e1, by have := (back32 h2).2; omega, fun i hi => h3 i (e1 ▸ hi), fun i hi => h4 i (e1 ▸ hi)⟩
theorem Af.congr {a : Addr} {ty : FieldType} {n : Nat} {f g : Nat → Value} (A : Af Z h a ty n f) (q : ∀ i, i < n → g i = f i) : Af Z h a ty n g := by
  obtain ⟨k, A, h1, h2, h3, h4⟩ := A
  exact ⟨k, A, h1, h2, fun i hi => by rw [q i hi]; exact h3 i hi, fun i hi => by rw [q i hi]; exact h4 i hi⟩
theorem af_in {k : Cell} {j : Int32} {i n : Nat} (h1 : k.slots.size = n) (hj : ¬ j < 0) (hi : j.toNatClampNeg = i) (hn : i < n) : ¬ (j < 0 ∨ k.slots.size ≤ j.toNatClampNeg) := by
  rintro (q | q)
  · exact hj q
  · omega
theorem g_newarray (C : Cx p s m meth c Z h0 ws own nm bytes maxL ret) {aty : ArrayType} {z : Int32} {n : Nat} (w : (Jvm.Cond.arrayClass (newarray.typeOf aty)).before a0 Z = true) (hz : ¬ z < 0) (hn : z.toNatClampNeg = n) (hbig : n ≤ 67108864) (hd : decode bytes pc = .ok (.newarray aty, 2)) (hp : pc + 2 = pc') (hc : cells + 1 ≤ R.cells) (hs : slots + n ≤ R.slots) (k : ∀ h' a, a = h.size → h0.size ≤ a → Ext h h' → Af Z h' a (newarray.typeOf aty) n (fun _ => defaultValue (newarray.typeOf aty)) → G p l e R s m args below meth c ws Φ h' (cells + 1) (slots + n) pc' Ls (.ref a :: st)) : G p l e R s m args below meth c ws Φ h cells slots pc Ls (.int z :: st) := by
  intro T locs X e1 N
  subst hp
  obtain ⟨hx, hZ, hown, hby, hml, hret, hlk, hnm, rfl, hE, hws⟩ := C
  obtain ⟨T', h', cA, X', e2, E, A, stp⟩ := newP X hx hZ w e1 (g := mkF m pc Ls (.int z :: st)) rfl (hb hby hd) rfl hz (cap := n) (Nat.le_of_eq hn) (by omega) hc hs
  obtain ⟨s2, o, q, r⟩ := k h' h.size rfl (e1 ▸ X.same.2.1) E (Af.new A hn (by omega)) T' locs X' e2 N
  exact ⟨s2, o, stp _ q, r⟩
/-- an array over the class Cn -/
def OvA (Z : State) (h : Heap) (a : Addr) (Cn : String) : Prop := ∃ kA : Cell, h[a]? = some kA ∧ Ovr Z kA.cls Cn
theorem OvA.lt {a : Addr} {Cn : String} (O : OvA Z h a Cn) : a < h.size := by obtain ⟨kA, h1, -⟩ := O; exact (Array.getElem?_eq_some_iff.mp h1).1
theorem OvA.keep {h' : Heap} {a : Addr} {Cn : String} (O : OvA Z h a Cn) (K : Keep h h' ws) : OvA Z h' a Cn := by
  obtain ⟨kA, h1, h2⟩ := O; obtain ⟨k', q1, q2, -⟩ := K.2.2 a kA h1; exact ⟨k', q1, by rw [q2]; exact h2⟩
theorem OvA.ext {h' : Heap} {a : Addr} {Cn : String} (O : OvA Z h a Cn) (E : Ext h h') : OvA Z h' a Cn := by
  obtain ⟨kA, h1, h2⟩ := O; exact ⟨kA, E.2 _ _ h1, h2⟩
theorem OvA.sto {a y : Addr} {Cn : String} {ty : FieldType} {n : Nat} {f : Nat → Value} (O : OvA Z h a Cn) (A : Af Z h a ty n f) (I : Ins Z h y Cn true) : Sto Z h a (.ref y) := by
  obtain ⟨kA, h1, h2⟩ := O; obtain ⟨kB, A0, -⟩ := A; cases h1.symm.trans A0.1; exact Sto.of A0 h2 I
theorem g_anewarray (C : Cx p s m meth c Z h0 ws own nm bytes maxL ret) {Cn : String} {index : Nat} {z : Int32} {n : Nat} (w : (Jvm.Cond.classLink own index Cn).before a0 Z = true) (w2 : (Jvm.Cond.arrayOver (.object Cn)).before a0 Z = true) (hz : ¬ z < 0) (hn : z.toNatClampNeg = n) (hbig : n ≤ 67108864) (hd : decode bytes pc = .ok (.anewarray index, 3)) (hp : pc + 3 = pc') (hc : cells + 1 ≤ R.cells) (hs : slots + n ≤ R.slots) (k : ∀ h' a, a = h.size → h0.size ≤ a → Ext h h' → Af Z h' a (.object Cn) n (fun _ => .null) → OvA Z h' a Cn → G p l e R s m args below meth c ws Φ h' (cells + 1) (slots + n) pc' Ls (.ref a :: st)) : G p l e R s m args below meth c ws Φ h cells slots pc Ls (.int z :: st) := by
  intro T locs X e1 N
  subst hp
  obtain ⟨hx, hZ, hown, hby, hml, hret, hlk, hnm, rfl, hE, hws⟩ := C
  obtain ⟨T', h', cA, X', e2, E, A, Ov, stp⟩ := newR X hx hZ hown w w2 e1 (g := mkF m pc Ls (.int z :: st)) rfl (hb hby hd) rfl hz (cap := n) (Nat.le_of_eq hn) (by omega) hc hs
  obtain ⟨s2, o, q, r⟩ := k h' h.size rfl (e1 ▸ X.same.2.1) E (Af.new A hn (by omega)) ⟨_, A.1, Ov⟩ T' locs X' e2 N
  exact ⟨s2, o, stp _ q, r⟩
theorem g_castore (C : Cx p s m meth c Z h0 ws own nm bytes maxL ret) {a : Addr} {n i : Nat} {f : Nat → Value} {j : Int32} {x : Int32} (A : Af Z h a .char n f) (hj : ¬ j < 0) (hi : j.toNatClampNeg = i) (hn : i < n) (ha : a ∈ ws ∨ h0.size ≤ a) (hd : decode bytes pc = .ok (.castore, 1)) (hp : pc + 1 = pc') (k : ∀ h', Wr h h' a i (.int (nar .char x)) → Af Z h' a .char n (upd f i (.int (nar .char x))) → G p l e R s m args below meth c ws Φ h' cells slots pc' Ls st) : G p l e R s m args below meth c ws Φ h cells slots pc Ls (.int x :: .int j :: .ref a :: st) := by
  intro T locs X e1 N
  subst hp hi
  obtain ⟨hx, hZ, hown, hby, hml, hret, hlk, hnm, rfl, hE, hws⟩ := C
  obtain ⟨kk, A0, h1, -⟩ := id A
  obtain ⟨T', h', X', e2, W, stp⟩ := stC X hx hZ e1 A0 (af_in h1 hj rfl hn) (g := mkF m pc Ls (.int x :: .int j :: .ref a :: st)) rfl rfl (hb hby hd)
  obtain ⟨s2, o, q, r⟩ := k h' W (A.same W (fits_nar_char x)) T' _ X' e2 (N.app (Lw.one ha))
  exact ⟨s2, o, stp _ q, r⟩
theorem g_iastore (C : Cx p s m meth c Z h0 ws own nm bytes maxL ret) {a : Addr} {n i : Nat} {f : Nat → Value} {j : Int32} {x : Int32} (A : Af Z h a .int n f) (hj : ¬ j < 0) (hi : j.toNatClampNeg = i) (hn : i < n) (ha : a ∈ ws ∨ h0.size ≤ a) (hd : decode bytes pc = .ok (.iastore, 1)) (hp : pc + 1 = pc') (k : ∀ h', Wr h h' a i (.int x) → Af Z h' a .int n (upd f i (.int x)) → G p l e R s m args below meth c ws Φ h' cells slots pc' Ls st) : G p l e R s m args below meth c ws Φ h cells slots pc Ls (.int x :: .int j :: .ref a :: st) := by
  intro T locs X e1 N
  subst hp hi
  obtain ⟨hx, hZ, hown, hby, hml, hret, hlk, hnm, rfl, hE, hws⟩ := C
  obtain ⟨kk, A0, h1, -⟩ := id A
  obtain ⟨T', h', X', e2, W, stp⟩ := stI X hx hZ e1 A0 (af_in h1 hj rfl hn) (g := mkF m pc Ls (.int x :: .int j :: .ref a :: st)) rfl rfl (hb hby hd)
  obtain ⟨s2, o, q, r⟩ := k h' W (A.same W (rfl)) T' _ X' e2 (N.app (Lw.one ha))
  exact ⟨s2, o, stp _ q, r⟩
theorem g_bastore (C : Cx p s m meth c Z h0 ws own nm bytes maxL ret) {a : Addr} {n i : Nat} {f : Nat → Value} {j : Int32} {x : Int32} (A : Af Z h a .byte n f) (hj : ¬ j < 0) (hi : j.toNatClampNeg = i) (hn : i < n) (ha : a ∈ ws ∨ h0.size ≤ a) (hd : decode bytes pc = .ok (.bastore, 1)) (hp : pc + 1 = pc') (k : ∀ h', Wr h h' a i (.int (nar .byte x)) → Af Z h' a .byte n (upd f i (.int (nar .byte x))) → G p l e R s m args below meth c ws Φ h' cells slots pc' Ls st) : G p l e R s m args below meth c ws Φ h cells slots pc Ls (.int x :: .int j :: .ref a :: st) := by
  intro T locs X e1 N
  subst hp hi
  obtain ⟨hx, hZ, hown, hby, hml, hret, hlk, hnm, rfl, hE, hws⟩ := C
  obtain ⟨kk, A0, h1, -⟩ := id A
  obtain ⟨T', h', X', e2, W, stp⟩ := stB X hx hZ e1 A0 (af_in h1 hj rfl hn) (g := mkF m pc Ls (.int x :: .int j :: .ref a :: st)) rfl rfl (hb hby hd)
  obtain ⟨s2, o, q, r⟩ := k h' W (A.same W (fits_nar_byte x)) T' _ X' e2 (N.app (Lw.one ha))
  exact ⟨s2, o, stp _ q, r⟩
theorem g_lastore (C : Cx p s m meth c Z h0 ws own nm bytes maxL ret) {a : Addr} {n i : Nat} {f : Nat → Value} {j : Int32} {x : Int64} (A : Af Z h a .long n f) (hj : ¬ j < 0) (hi : j.toNatClampNeg = i) (hn : i < n) (ha : a ∈ ws ∨ h0.size ≤ a) (hd : decode bytes pc = .ok (.lastore, 1)) (hp : pc + 1 = pc') (k : ∀ h', Wr h h' a i (.long x) → Af Z h' a .long n (upd f i (.long x)) → G p l e R s m args below meth c ws Φ h' cells slots pc' Ls st) : G p l e R s m args below meth c ws Φ h cells slots pc Ls (.long x :: .int j :: .ref a :: st) := by
  intro T locs X e1 N
  subst hp hi
  obtain ⟨hx, hZ, hown, hby, hml, hret, hlk, hnm, rfl, hE, hws⟩ := C
  obtain ⟨kk, A0, h1, -⟩ := id A
  obtain ⟨T', h', X', e2, W, stp⟩ := stJ X hx hZ e1 A0 (af_in h1 hj rfl hn) (g := mkF m pc Ls (.long x :: .int j :: .ref a :: st)) rfl rfl (hb hby hd)
  obtain ⟨s2, o, q, r⟩ := k h' W (A.same W (rfl)) T' _ X' e2 (N.app (Lw.one ha))
  exact ⟨s2, o, stp _ q, r⟩
theorem g_aastore (C : Cx p s m meth c Z h0 ws own nm bytes maxL ret) {a : Addr} {n i : Nat} {f : Nat → Value} {j : Int32} {v : Value} {ty : FieldType} (A : Af Z h a ty n f) (hty : ty.isReference = true) (S : Sto Z h a v) (hfv : fits ty v = true) (hj : ¬ j < 0) (hi : j.toNatClampNeg = i) (hn : i < n) (ha : a ∈ ws ∨ h0.size ≤ a) (hd : decode bytes pc = .ok (.aastore, 1)) (hp : pc + 1 = pc') (k : ∀ h', Wr h h' a i v → Af Z h' a ty n (upd f i v) → G p l e R s m args below meth c ws Φ h' cells slots pc' Ls st) : G p l e R s m args below meth c ws Φ h cells slots pc Ls (v :: .int j :: .ref a :: st) := by
  intro T locs X e1 N
  subst hp hi
  obtain ⟨hx, hZ, hown, hby, hml, hret, hlk, hnm, rfl, hE, hws⟩ := C
  obtain ⟨kk, A0, h1, -⟩ := id A
  obtain ⟨T', h', X', e2, W, stp⟩ := stR X hx hZ e1 A0 (af_in h1 hj rfl hn) hty S (g := mkF m pc Ls (v :: .int j :: .ref a :: st)) rfl rfl (hb hby hd)
  obtain ⟨s2, o, q, r⟩ := k h' W (A.same W hfv) T' _ X' e2 (N.app (Lw.one ha))
  exact ⟨s2, o, stp _ q, r⟩
theorem g_caload (C : Cx p s m meth c Z h0 ws own nm bytes maxL ret) {a : Addr} {n i : Nat} {f : Nat → Value} {j : Int32} {v : Value} (A : Af Z h a .char n f) (hj : ¬ j < 0) (hi : j.toNatClampNeg = i) (hn : i < n) (hv : f i = v) (hd : decode bytes pc = .ok (.caload, 1)) (hp : pc + 1 = pc') (k : G p l e R s m args below meth c ws Φ h cells slots pc' Ls (v :: st)) : G p l e R s m args below meth c ws Φ h cells slots pc Ls (.int j :: .ref a :: st) := by
  subst hp hi hv
  obtain ⟨hx, hZ, hown, hby, hml, hret, hlk, hnm, rfl, hE, hws⟩ := C
  obtain ⟨kk, A0, h1, h2, h3, h4⟩ := A
  exact g_ofX (fun T locs X e1 t q => X.caload hx (by rw [e1]; exact A0.1) (State.isArrayOf_alike hZ.alike A0.2.1) A0.2.2 (af_in h1 hj rfl hn) (h3 _ hn) (g := mkF m pc Ls (.int j :: .ref a :: st)) rfl rfl (hb hby hd) _ q) k
theorem g_iaload (C : Cx p s m meth c Z h0 ws own nm bytes maxL ret) {a : Addr} {n i : Nat} {f : Nat → Value} {j : Int32} {v : Value} (A : Af Z h a .int n f) (hj : ¬ j < 0) (hi : j.toNatClampNeg = i) (hn : i < n) (hv : f i = v) (hd : decode bytes pc = .ok (.iaload, 1)) (hp : pc + 1 = pc') (k : G p l e R s m args below meth c ws Φ h cells slots pc' Ls (v :: st)) : G p l e R s m args below meth c ws Φ h cells slots pc Ls (.int j :: .ref a :: st) := by
  subst hp hi hv
  obtain ⟨hx, hZ, hown, hby, hml, hret, hlk, hnm, rfl, hE, hws⟩ := C
  obtain ⟨kk, A0, h1, h2, h3, h4⟩ := A
  exact g_ofX (fun T locs X e1 t q => X.iaload hx (by rw [e1]; exact A0.1) (State.isArrayOf_alike hZ.alike A0.2.1) A0.2.2 (af_in h1 hj rfl hn) (h3 _ hn) (g := mkF m pc Ls (.int j :: .ref a :: st)) rfl rfl (hb hby hd) _ q) k
theorem g_baload (C : Cx p s m meth c Z h0 ws own nm bytes maxL ret) {a : Addr} {n i : Nat} {f : Nat → Value} {j : Int32} {v : Value} (A : Af Z h a .byte n f) (hj : ¬ j < 0) (hi : j.toNatClampNeg = i) (hn : i < n) (hv : f i = v) (hd : decode bytes pc = .ok (.baload, 1)) (hp : pc + 1 = pc') (k : G p l e R s m args below meth c ws Φ h cells slots pc' Ls (v :: st)) : G p l e R s m args below meth c ws Φ h cells slots pc Ls (.int j :: .ref a :: st) := by
  subst hp hi hv
  obtain ⟨hx, hZ, hown, hby, hml, hret, hlk, hnm, rfl, hE, hws⟩ := C
  obtain ⟨kk, A0, h1, h2, h3, h4⟩ := A
  exact g_ofX (fun T locs X e1 t q => X.baloadBytes hx (by rw [e1]; exact A0.1) (State.isArrayOf_alike hZ.alike A0.2.1) A0.2.2 (af_in h1 hj rfl hn) (h3 _ hn) (g := mkF m pc Ls (.int j :: .ref a :: st)) rfl rfl (hb hby hd) _ q) k
theorem g_laload (C : Cx p s m meth c Z h0 ws own nm bytes maxL ret) {a : Addr} {n i : Nat} {f : Nat → Value} {j : Int32} {v : Value} (A : Af Z h a .long n f) (hj : ¬ j < 0) (hi : j.toNatClampNeg = i) (hn : i < n) (hv : f i = v) (hd : decode bytes pc = .ok (.laload, 1)) (hp : pc + 1 = pc') (k : G p l e R s m args below meth c ws Φ h cells slots pc' Ls (v :: st)) : G p l e R s m args below meth c ws Φ h cells slots pc Ls (.int j :: .ref a :: st) := by
  subst hp hi hv
  obtain ⟨hx, hZ, hown, hby, hml, hret, hlk, hnm, rfl, hE, hws⟩ := C
  obtain ⟨kk, A0, h1, h2, h3, h4⟩ := A
  exact g_ofX (fun T locs X e1 t q => X.laload hx (by rw [e1]; exact A0.1) (State.isArrayOf_alike hZ.alike A0.2.1) A0.2.2 (af_in h1 hj rfl hn) (h3 _ hn) (g := mkF m pc Ls (.int j :: .ref a :: st)) rfl rfl (hb hby hd) _ q) k
theorem g_aaload (C : Cx p s m meth c Z h0 ws own nm bytes maxL ret) {a : Addr} {n i : Nat} {f : Nat → Value} {j : Int32} {v : Value} {ty : FieldType} (A : Af Z h a ty n f) (hty : ty.isReference = true) (hj : ¬ j < 0) (hi : j.toNatClampNeg = i) (hn : i < n) (hv : f i = v) (hd : decode bytes pc = .ok (.aaload, 1)) (hp : pc + 1 = pc') (k : G p l e R s m args below meth c ws Φ h cells slots pc' Ls (v :: st)) : G p l e R s m args below meth c ws Φ h cells slots pc Ls (.int j :: .ref a :: st) := by
  subst hp hi hv
  obtain ⟨hx, hZ, hown, hby, hml, hret, hlk, hnm, rfl, hE, hws⟩ := C
  obtain ⟨kk, A0, h1, h2, h3, h4⟩ := A
  exact g_ofX (fun T locs X e1 t q => X.aaload hx (by rw [e1]; exact A0.1) (State.isArrayOf_alike hZ.alike A0.2.1) hty A0.2.2 (af_in h1 hj rfl hn) (h3 _ hn) (g := mkF m pc Ls (.int j :: .ref a :: st)) rfl rfl (hb hby hd) _ q) k
theorem g_arraylength (C : Cx p s m meth c Z h0 ws own nm bytes maxL ret) {a : Addr} {n : Nat} {f : Nat → Value} {ty : FieldType} {z : Int32} (A : Af Z h a ty n f) (hz : Int32.ofNat n = z) (hd : decode bytes pc = .ok (.arraylength, 1)) (hp : pc + 1 = pc') (k : G p l e R s m args below meth c ws Φ h cells slots pc' Ls (.int z :: st)) : G p l e R s m args below meth c ws Φ h cells slots pc Ls (.ref a :: st) := by
  subst hp hz
  obtain ⟨hx, hZ, hown, hby, hml, hret, hlk, hnm, rfl, hE, hws⟩ := C
  obtain ⟨kk, A0, h1, h2, h3, h4⟩ := A
  subst h1
  exact g_ofX (fun T locs X e1 t q => X.arraylength hx (by rw [e1]; exact A0.1) (State.isArrayOf_alike hZ.alike A0.2.1) (g := mkF m pc Ls (.ref a :: st)) rfl rfl (hb hby hd) _ q) k
theorem g_ldcInt (C : Cx p s m meth c Z h0 ws own nm bytes maxL ret) {index : Nat} {x : Int32} (w : (Jvm.Cond.constant own index x).before a0 Z = true) (hd : decode bytes pc = .ok (.ldc index, 2)) (hp : pc + 2 = pc') (k : G p l e R s m args below meth c ws Φ h cells slots pc' Ls (.int x :: st)) : G p l e R s m args below meth c ws Φ h cells slots pc Ls st := by
  subst hp
  obtain ⟨hx, hZ, hown, hby, hml, hret, hlk, hnm, rfl, hE, hws⟩ := C
  exact g_ofX (fun T locs X e1 t q => X.ldcInt hx hown (mvT hZ w) (g := mkF m pc Ls st) rfl (hb hby hd) _ q) k
theorem g_ldc2Long (C : Cx p s m meth c Z h0 ws own nm bytes maxL ret) {index : Nat} {x : Int64} (w : (Jvm.Cond.constantLong own index x).before a0 Z = true) (hd : decode bytes pc = .ok (.ldc2_w index, 3)) (hp : pc + 3 = pc') (k : G p l e R s m args below meth c ws Φ h cells slots pc' Ls (.long x :: st)) : G p l e R s m args below meth c ws Φ h cells slots pc Ls st := by
  subst hp
  obtain ⟨hx, hZ, hown, hby, hml, hret, hlk, hnm, rfl, hE, hws⟩ := C
  exact g_ofX (fun T locs X e1 t q => X.ldc2Long hx hown (mvT hZ w) (g := mkF m pc Ls st) rfl (hb hby hd) _ q) k
theorem g_checkcast (C : Cx p s m meth c Z h0 ws own nm bytes maxL ret) {Kn : String} {index : Nat} {a : Addr} (w : (Jvm.Cond.classLink own index Kn).before a0 Z = true) (I : Ins Z h a Kn true) (hd : decode bytes pc = .ok (.checkcast index, 3)) (hp : pc + 3 = pc') (k : G p l e R s m args below meth c ws Φ h cells slots pc' Ls (.ref a :: st)) : G p l e R s m args below meth c ws Φ h cells slots pc Ls (.ref a :: st) := by
  intro T locs X e1 N
  subst hp
  obtain ⟨hx, hZ, hown, hby, hml, hret, hlk, hnm, rfl, hE, hws⟩ := C
  obtain ⟨T', X', e2, stp⟩ := castY X hx hZ hown w e1 I (g := mkF m pc Ls (.ref a :: st)) rfl rfl (hb hby hd)
  obtain ⟨s2, o, q, r⟩ := k T' locs X' e2 N
  exact ⟨s2, o, stp _ q, r⟩
theorem g_instanceofY (C : Cx p s m meth c Z h0 ws own nm bytes maxL ret) {Kn : String} {index : Nat} {a : Addr} (w : (Jvm.Cond.classLink own index Kn).before a0 Z = true) (I : Ins Z h a Kn true) (hd : decode bytes pc = .ok (.instanceof index, 3)) (hp : pc + 3 = pc') (k : G p l e R s m args below meth c ws Φ h cells slots pc' Ls (.int 1 :: st)) : G p l e R s m args below meth c ws Φ h cells slots pc Ls (.ref a :: st) := by
  intro T locs X e1 N
  subst hp
  obtain ⟨hx, hZ, hown, hby, hml, hret, hlk, hnm, rfl, hE, hws⟩ := C
  obtain ⟨T', X', e2, stp⟩ := instY X hx hZ hown w e1 I (g := mkF m pc Ls (.ref a :: st)) rfl rfl (hb hby hd)
  obtain ⟨s2, o, q, r⟩ := k T' locs X' e2 N
  exact ⟨s2, o, stp _ q, r⟩
theorem g_objinit (C : Cx p s m meth c Z h0 ws own nm bytes maxL ret) {index : Nat} {a : Addr} (w1 : (Jvm.Cond.methodLink own index Lib.objectInit).before a0 Z = true) (w2 : (Jvm.Cond.instanceMethod Lib.objectInit).before a0 Z = true) (w3 : (Jvm.Cond.code Lib.objectInit ⟨#[0xb1]⟩ 1 none).before a0 Z = true) (hsz : Ls.size = maxL) (hf : 1 ≤ R.frames) (hl : (st.map fun v => v.category).sum + 12 ≤ R.locals) (hd : decode bytes pc = .ok (.invokespecial index, 3)) (hp : pc + 3 = pc') (k : G p l e R s m args below meth c ws Φ h cells slots pc' Ls st) : G p l e R s m args below meth c ws Φ h cells slots pc Ls (.ref a :: st) := by
  intro T locs X e1 N
  subst hp
  obtain ⟨hx, hZ, hown, hby, hml, hret, hlk, hnm, rfl, hE, hws⟩ := C
  obtain ⟨T', X', e2, stp⟩ := initO X hx hZ hown w1 w2 w3 e1 (g := mkF m pc Ls (.ref a :: st)) rfl (by rw [hml]; exact hsz) rfl (hb hby hd) hf (W := (st.map fun v => v.category).sum) (by show 2 * 0 + _ ≤ _; omega) hl
  obtain ⟨s2, o, q, r⟩ := k T' locs X' e2 N
  exact ⟨s2, o, stp _ q, r⟩
theorem Con.of {y : MethodName} {rm : Room} {as' : Array Value} {tw : List Jvm.Cond} (hy : plainFor y = true) (hf : ∀ m, entryFrame m as' maxL = mkF m 0 Ls []) (body : ∀ p e s m below meth c, Cx p s m meth c Z h ws y.cls y.name bytes maxL ret → G p l e rm s m as' below meth c ws (EndA s ws Q rm.cells rm.slots) h 0 0 0 Ls []) : Con l Z ws y bytes maxL ret rm as' h tw Q := by
  intro hE hws
  refine MetFree.of_bodySF hy hisR ?_
  intro p e s m args below meth c s₁ Bd hml0 hP hK
  obtain ⟨rfl, hZ, rfl⟩ := hP
  have X0 : Stand p l e rm s m args below meth c s₁ [] 0 0 := Stand.of_body Bd
  have e0 : s₁.heap = s.heap := by rw [Bd.state]; rfl
  obtain ⟨s2, o, q, r⟩ := body p e s m below meth c ⟨Bd.exec, hZ, findClass_of_methodNamed Bd.named, Bd.bytes, hml0, Bd.returns, Bd.notSynchronized, (name_of_methodNamed Bd.named Bd.method).1, rfl, hE, hws⟩ s₁ [] X0 e0 Lw.nil
  exact ⟨s2, o, castTop (hf m) q, r⟩
theorem Con.bk {y : MethodName} {bytes' : ByteArray} {maxL' : Nat} {ret' : Option FieldType} {rm : Room} {as' : Array Value} {Q' : Option Value → Heap → Prop} {W len : Nat} (hZ : Z.Warmed39 s.vm) (M : Con l Z ws' y bytes' maxL' ret' rm as' h [] Q') (hE : Ext Z.heap h) (hws : ∀ x ∈ ws', Z.heap.size ≤ x) (w4 : (Jvm.Cond.code y bytes' maxL' ret').before a0 Z = true) (w3 : (Jvm.Cond.initialized y.cls).before a0 Z = true) (hf : rm.frames + 1 ≤ R.frames) (hl : W + (maxL' + 11) + rm.locals ≤ R.locals) :
    Bk l R p e below s args y len W as' h rm.cells rm.slots (fun v h' L => Q' v h' ∧ Keep h h' ws' ∧ Lw h.size ws' L) :=
  backOf (h := h) (as' := as') (Q := fun v h' L => Q' v h' ∧ Keep h h' ws' ∧ Lw h.size ws' L) (M hE hws) hZ w4 w3 hf hl
theorem lw_sub {k0 k : Nat} {L : List Loc} (N : Lw k ws' L) (hk : k0 ≤ k) (hsub : ∀ x ∈ ws', x ∈ ws ∨ k0 ≤ x) : Lw k0 ws L := fun y hy => (N y hy).elim (hsub _) fun q => Or.inr (Nat.le_trans hk q)
theorem ws_sub {ws ws' : List Addr} {k0 kz : Nat} (hsub : ∀ x ∈ ws', x ∈ ws ∨ k0 ≤ x) (hws : ∀ x ∈ ws, kz ≤ x) (hk : kz ≤ k0) : ∀ x ∈ ws', kz ≤ x := fun x hx => (hsub x hx).elim (hws x) (Nat.le_trans hk)
theorem g_static (C : Cx p s m meth c Z h0 ws own nm bytes maxL ret) {index : Nat} {y : MethodName} {bytes' : ByteArray} {maxL' : Nat} {ret' : Option FieldType} (w1 : (Jvm.Cond.methodLink own index y).before a0 Z = true) (w2 : (Jvm.Cond.static y).before a0 Z = true) (w3 : (Jvm.Cond.initialized y.cls).before a0 Z = true) (w4 : (Jvm.Cond.code y bytes' maxL' ret').before a0 Z = true) (hy : y.cls ≠ "java/lang/invoke/MethodHandle" ∧ y.cls ≠ "java/lang/invoke/VarHandle") {W kb sb : Nat} {argsL : List Value} {Qb : Option Value → Heap → List Loc → Prop} (B : Bk l R p e below s args y 3 W argsL.toArray h kb sb Qb) (hsz : Ls.size = maxL) (hlen : ∀ sig, parseMethodDescriptor y.desc = some sig → argsL.length = sig.parameters.length) (hst : st = argsL.reverse ++ rest) (hW : (rest.map fun v => v.category).sum ≤ W) (hd : decode bytes pc = .ok (.invokestatic index, 3)) (hp : pc + 3 = pc') (hc : cells + kb ≤ R.cells) (hs : slots + sb ≤ R.slots) (k : ∀ v h' L, Qb v h' L → Lw h0.size ws L ∧ G p l e R s m args below meth c ws Φ h' (cells + kb) (slots + sb) pc' Ls (v.toList ++ rest)) : G p l e R s m args below meth c ws Φ h cells slots pc Ls st := by
  intro T locs X e1 N
  subst hp hst
  obtain ⟨hx, hZ, hown, hby, hml, hret, hlk, hnm, rfl, hE, hws⟩ := C
  obtain ⟨v, vm1, ⟨T', L', k', n'⟩, -, X', ⟨L, hQ, hl, hk, hn⟩, stp⟩ := Jvm.LawKit.callS X hx hown (mvT hZ w1) (mvT hZ w2) (mvT hZ w3) (mvT hZ w4) hy B (g := mkF m pc Ls (argsL.reverse ++ rest)) rfl (by rw [hml]; exact hsz) (argsL := argsL) (rest := rest) hlen rfl (by show 2 * 0 + _ ≤ _; omega) (hb hby hd) (fun _ _ => ⟨rfl, e1, hc, hs⟩)
  dsimp only [Pt.U, Pt.locs, Pt.cells, Pt.slots] at X' hl hk hn stp hQ
  subst hl hk hn
  obtain ⟨hF, k1⟩ := k _ _ _ hQ
  obtain ⟨s2, o, q, r⟩ := k1 T' _ X' rfl (N.app hF)
  exact ⟨s2, o, stp _ q, r⟩
theorem g_staticC (C : Cx p s m meth c Z h0 ws own nm bytes maxL ret) {index : Nat} {y : MethodName} {bytes' : ByteArray} {maxL' : Nat} {ret' : Option FieldType} {W : Nat} {argsL : List Value} {rm : Room} {Q' : Option Value → Heap → Prop} (M : Con l Z ws' y bytes' maxL' ret' rm argsL.toArray h [] Q') (w1 : (Jvm.Cond.methodLink own index y).before a0 Z = true) (w2 : (Jvm.Cond.static y).before a0 Z = true) (w3 : (Jvm.Cond.initialized y.cls).before a0 Z = true) (w4 : (Jvm.Cond.code y bytes' maxL' ret').before a0 Z = true) (hy : y.cls ≠ "java/lang/invoke/MethodHandle" ∧ y.cls ≠ "java/lang/invoke/VarHandle") (hsz : Ls.size = maxL) (hlen : ∀ sig, parseMethodDescriptor y.desc = some sig → argsL.length = sig.parameters.length) (hst : st = argsL.reverse ++ rest) (hW : (rest.map fun v => v.category).sum ≤ W) (hd : decode bytes pc = .ok (.invokestatic index, 3)) (hp : pc + 3 = pc') (hc : cells + rm.cells ≤ R.cells) (hs : slots + rm.slots ≤ R.slots) (hsub : ∀ x ∈ ws', x ∈ ws ∨ h0.size ≤ x) (hf : rm.frames + 1 ≤ R.frames) (hl : W + (maxL' + 11) + rm.locals ≤ R.locals) (k : ∀ v h', Q' v h' → Keep h h' ws' → G p l e R s m args below meth c ws Φ h' (cells + rm.cells) (slots + rm.slots) pc' Ls (v.toList ++ rest)) : G p l e R s m args below meth c ws Φ h cells slots pc Ls st :=
  g_ctx C fun K0 E0 => g_static C w1 w2 w3 w4 hy (M.bk C.2.1 E0 (ws_sub hsub C.2.2.2.2.2.2.2.2.2.2 C.2.2.2.2.2.2.2.2.2.1.1) w4 w3 hf hl) hsz hlen hst hW hd hp hc hs fun v h' L q => ⟨lw_sub q.2.2 K0.1 hsub, k v h' q.1 q.2.1⟩
theorem g_special (C : Cx p s m meth c Z h0 ws own nm bytes maxL ret) {index : Nat} {y : MethodName} {bytes' : ByteArray} {maxL' : Nat} {a : Addr} (hy1 : y.name = "<init>") (w1 : (Jvm.Cond.methodLink own index y).before a0 Z = true) (w2 : (Jvm.Cond.instanceMethod y).before a0 Z = true) (w4 : (Jvm.Cond.code y bytes' maxL' none).before a0 Z = true) (hy : y.cls ≠ "java/lang/invoke/MethodHandle" ∧ y.cls ≠ "java/lang/invoke/VarHandle") {W kb sb : Nat} {argsL : List Value} {Qb : Option Value → Heap → List Loc → Prop} (B : Bk l R p e below s args y 3 W (.ref a :: argsL).toArray h kb sb Qb) (hsz : Ls.size = maxL) (hlen : ∀ sig, parseMethodDescriptor y.desc = some sig → argsL.length = sig.parameters.length) (hst : st = argsL.reverse ++ .ref a :: rest) (hW : (rest.map fun v => v.category).sum ≤ W) (hd : decode bytes pc = .ok (.invokespecial index, 3)) (hp : pc + 3 = pc') (hc : cells + kb ≤ R.cells) (hs : slots + sb ≤ R.slots) (k : ∀ v h' L, Qb v h' L → Lw h0.size ws L ∧ G p l e R s m args below meth c ws Φ h' (cells + kb) (slots + sb) pc' Ls (v.toList ++ rest)) : G p l e R s m args below meth c ws Φ h cells slots pc Ls st := by
  intro T locs X e1 N
  subst hp hst
  obtain ⟨hx, hZ, hown, hby, hml, hret, hlk, hnm, rfl, hE, hws⟩ := C
  obtain ⟨v, vm1, ⟨T', L', k', n'⟩, -, X', ⟨L, hQ, hl, hk, hn⟩, stp⟩ := X.specialBack hx hy1 hown (mvT hZ w1) (mvT hZ w2) (mvT hZ w4) hy B (g := mkF m pc Ls (argsL.reverse ++ .ref a :: rest)) rfl (by rw [hml]; exact hsz) (Steps.refl _) (a := a) (argsL := argsL) (rest := rest) hlen rfl (by show 2 * 0 + _ ≤ _; omega) (hb hby hd) (fun _ _ => ⟨rfl, e1, hc, hs⟩)
  dsimp only [Pt.U, Pt.locs, Pt.cells, Pt.slots] at X' hl hk hn stp hQ
  subst hl hk hn
  obtain ⟨hF, k1⟩ := k _ _ _ hQ
  obtain ⟨s2, o, q, r⟩ := k1 T' _ X' rfl (N.app hF)
  exact ⟨s2, o, stp.trans q, r⟩
theorem g_specialC (C : Cx p s m meth c Z h0 ws own nm bytes maxL ret) {index : Nat} {y : MethodName} {bytes' : ByteArray} {maxL' : Nat} {W : Nat} {argsL : List Value} {a : Addr} {rm : Room} {Q' : Option Value → Heap → Prop} (M : Con l Z ws' y bytes' maxL' none rm (.ref a :: argsL).toArray h [] Q') (hy1 : y.name = "<init>") (w1 : (Jvm.Cond.methodLink own index y).before a0 Z = true) (w2 : (Jvm.Cond.instanceMethod y).before a0 Z = true) (w3 : (Jvm.Cond.initialized y.cls).before a0 Z = true) (w4 : (Jvm.Cond.code y bytes' maxL' none).before a0 Z = true) (hy : y.cls ≠ "java/lang/invoke/MethodHandle" ∧ y.cls ≠ "java/lang/invoke/VarHandle") (hsz : Ls.size = maxL) (hlen : ∀ sig, parseMethodDescriptor y.desc = some sig → argsL.length = sig.parameters.length) (hst : st = argsL.reverse ++ .ref a :: rest) (hW : (rest.map fun v => v.category).sum ≤ W) (hd : decode bytes pc = .ok (.invokespecial index, 3)) (hp : pc + 3 = pc') (hc : cells + rm.cells ≤ R.cells) (hs : slots + rm.slots ≤ R.slots) (hsub : ∀ x ∈ ws', x ∈ ws ∨ h0.size ≤ x) (hf : rm.frames + 1 ≤ R.frames) (hl : W + (maxL' + 11) + rm.locals ≤ R.locals) (k : ∀ v h', Q' v h' → Keep h h' ws' → G p l e R s m args below meth c ws Φ h' (cells + rm.cells) (slots + rm.slots) pc' Ls (v.toList ++ rest)) : G p l e R s m args below meth c ws Φ h cells slots pc Ls st :=
  g_ctx C fun K0 E0 => g_special C hy1 w1 w2 w4 hy (M.bk C.2.1 E0 (ws_sub hsub C.2.2.2.2.2.2.2.2.2.2 C.2.2.2.2.2.2.2.2.2.1.1) w4 w3 hf hl) hsz hlen hst hW hd hp hc hs fun v h' L q => ⟨lw_sub q.2.2 K0.1 hsub, k v h' q.1 q.2.1⟩
theorem g_virtual (C : Cx p s m meth c Z h0 ws own nm bytes maxL ret) {index : Nat} {Cn : String} {y z : MethodName} {a : Addr} (w1 : (Jvm.Cond.methodLink own index y).before a0 Z = true) (w2 : (Jvm.Cond.declares y).before a0 Z = true) (w3 : (Jvm.Cond.selects Cn y z).before a0 Z = true) (hnf : ∀ b : State, Z.Warmed39 b.vm → NotFace b y) (w4 : (Jvm.Cond.instanceMethod z).before a0 Z = true) (hy : y.cls ≠ "java/lang/invoke/MethodHandle" ∧ y.cls ≠ "java/lang/invoke/VarHandle") {W kb sb : Nat} {argsL : List Value} {Qb : Option Value → Heap → List Loc → Prop} (B : Bk l R p e below s args z 3 W (.ref a :: argsL).toArray h kb sb Qb) (E : Exa Z h a Cn) (hsz : Ls.size = maxL) (hlen : ∀ sig, parseMethodDescriptor y.desc = some sig → argsL.length = sig.parameters.length) (hst : st = argsL.reverse ++ .ref a :: rest) (hW : (rest.map fun v => v.category).sum ≤ W) (hd : decode bytes pc = .ok (.invokevirtual index, 3)) (hp : pc + 3 = pc') (hc : cells + kb ≤ R.cells) (hs : slots + sb ≤ R.slots) (k : ∀ v h' L, Qb v h' L → Lw h0.size ws L ∧ G p l e R s m args below meth c ws Φ h' (cells + kb) (slots + sb) pc' Ls (v.toList ++ rest)) : G p l e R s m args below meth c ws Φ h cells slots pc Ls st := by
  intro T locs X e1 N
  subst hp hst
  obtain ⟨hx, hZ, hown, hby, hml, hret, hlk, hnm, rfl, hE, hws⟩ := C
  obtain ⟨cq, kq, q1, q2, q3⟩ := isOf hZ e1 E
  obtain ⟨v, vm1, ⟨T', L', k', n'⟩, -, X', ⟨L, hQ, hl, hk, hn⟩, stp⟩ := X.virtualBack hx hown (mvT hZ w1) (mvT hZ w2) (hnf s hZ) (mvT hZ w3) (mvT hZ w4) hy B q1 q3 (g := mkF m pc Ls (argsL.reverse ++ .ref a :: rest)) rfl (by rw [hml]; exact hsz) (Steps.refl _) (argsL := argsL) (rest := rest) hlen rfl (by show 2 * 0 + _ ≤ _; omega) (hb hby hd) (fun _ _ => ⟨rfl, e1, hc, hs⟩)
  dsimp only [Pt.U, Pt.locs, Pt.cells, Pt.slots] at X' hl hk hn stp hQ
  subst hl hk hn
  obtain ⟨hF, k1⟩ := k _ _ _ hQ
  obtain ⟨s2, o, q, r⟩ := k1 T' _ X' rfl (N.app hF)
  exact ⟨s2, o, stp.trans q, r⟩
theorem g_virtualC (C : Cx p s m meth c Z h0 ws own nm bytes maxL ret) {index : Nat} {Cn : String} {y z : MethodName} {bytes' : ByteArray} {maxL' : Nat} {ret' : Option FieldType} {W : Nat} {argsL : List Value} {a : Addr} {rm : Room} {Q' : Option Value → Heap → Prop} (M : Con l Z ws' z bytes' maxL' ret' rm (.ref a :: argsL).toArray h [] Q') (w1 : (Jvm.Cond.methodLink own index y).before a0 Z = true) (w2 : (Jvm.Cond.declares y).before a0 Z = true) (w3 : (Jvm.Cond.selects Cn y z).before a0 Z = true) (hnf : ∀ b : State, Z.Warmed39 b.vm → NotFace b y) (w4 : (Jvm.Cond.instanceMethod z).before a0 Z = true) (w5 : (Jvm.Cond.initialized z.cls).before a0 Z = true) (w6 : (Jvm.Cond.code z bytes' maxL' ret').before a0 Z = true) (hy : y.cls ≠ "java/lang/invoke/MethodHandle" ∧ y.cls ≠ "java/lang/invoke/VarHandle") (E : Exa Z h a Cn) (hsz : Ls.size = maxL) (hlen : ∀ sig, parseMethodDescriptor y.desc = some sig → argsL.length = sig.parameters.length) (hst : st = argsL.reverse ++ .ref a :: rest) (hW : (rest.map fun v => v.category).sum ≤ W) (hd : decode bytes pc = .ok (.invokevirtual index, 3)) (hp : pc + 3 = pc') (hc : cells + rm.cells ≤ R.cells) (hs : slots + rm.slots ≤ R.slots) (hsub : ∀ x ∈ ws', x ∈ ws ∨ h0.size ≤ x) (hf : rm.frames + 1 ≤ R.frames) (hl : W + (maxL' + 11) + rm.locals ≤ R.locals) (k : ∀ v h', Q' v h' → Keep h h' ws' → G p l e R s m args below meth c ws Φ h' (cells + rm.cells) (slots + rm.slots) pc' Ls (v.toList ++ rest)) : G p l e R s m args below meth c ws Φ h cells slots pc Ls st :=
  g_ctx C fun K0 E0 => g_virtual C w1 w2 w3 hnf w4 hy (M.bk C.2.1 E0 (ws_sub hsub C.2.2.2.2.2.2.2.2.2.2 C.2.2.2.2.2.2.2.2.2.1.1) w6 w5 hf hl) E hsz hlen hst hW hd hp hc hs fun v h' L q => ⟨lw_sub q.2.2 K0.1 hsub, k v h' q.1 q.2.1⟩
theorem g_specialN (C : Cx p s m meth c Z h0 ws own nm bytes maxL ret) {index : Nat} {y : MethodName} {host : String} {bytes' : ByteArray} {maxL' : Nat} {a : Addr} (hy1 : y.name = "<init>") (w1 : (Jvm.Cond.methodLinkNest own index y host).before a0 Z = true) (w2 : (Jvm.Cond.instanceMethod y).before a0 Z = true) (w4 : (Jvm.Cond.code y bytes' maxL' none).before a0 Z = true) (hy : y.cls ≠ "java/lang/invoke/MethodHandle" ∧ y.cls ≠ "java/lang/invoke/VarHandle") {W kb sb : Nat} {argsL : List Value} {Qb : Option Value → Heap → List Loc → Prop} (B : Bk l R p e below s args y 3 W (.ref a :: argsL).toArray h kb sb Qb) (hsz : Ls.size = maxL) (hlen : ∀ sig, parseMethodDescriptor y.desc = some sig → argsL.length = sig.parameters.length) (hst : st = argsL.reverse ++ .ref a :: rest) (hW : (rest.map fun v => v.category).sum ≤ W) (hd : decode bytes pc = .ok (.invokespecial index, 3)) (hp : pc + 3 = pc') (hc : cells + kb ≤ R.cells) (hs : slots + sb ≤ R.slots) (k : ∀ v h' L, Qb v h' L → Lw h0.size ws L ∧ G p l e R s m args below meth c ws Φ h' (cells + kb) (slots + sb) pc' Ls (v.toList ++ rest)) : G p l e R s m args below meth c ws Φ h cells slots pc Ls st := by
  intro T locs X e1 N
  subst hp hst
  obtain ⟨hx, hZ, hown, hby, hml, hret, hlk, hnm, rfl, hE, hws⟩ := C
  obtain ⟨v, vm1, ⟨T', L', k', n'⟩, -, X', ⟨L, hQ, hl, hk, hn⟩, stp⟩ := X.specialBackNest hx hy1 hown (Cond.methodLinkNest_wide hZ w1 :) (mvT hZ w2) (mvT hZ w4) hy B (g := mkF m pc Ls (argsL.reverse ++ .ref a :: rest)) rfl (by rw [hml]; exact hsz) (Steps.refl _) (a := a) (argsL := argsL) (rest := rest) hlen rfl (by show 2 * 0 + _ ≤ _; omega) (hb hby hd) (fun _ _ => ⟨rfl, e1, hc, hs⟩)
  dsimp only [Pt.U, Pt.locs, Pt.cells, Pt.slots] at X' hl hk hn stp hQ
  subst hl hk hn
  obtain ⟨hF, k1⟩ := k _ _ _ hQ
  obtain ⟨s2, o, q, r⟩ := k1 T' _ X' rfl (N.app hF)
  exact ⟨s2, o, stp.trans q, r⟩
theorem g_specialNC (C : Cx p s m meth c Z h0 ws own nm bytes maxL ret) {index : Nat} {y : MethodName} {host : String} {bytes' : ByteArray} {maxL' : Nat} {W : Nat} {argsL : List Value} {a : Addr} {rm : Room} {Q' : Option Value → Heap → Prop} (M : Con l Z ws' y bytes' maxL' none rm (.ref a :: argsL).toArray h [] Q') (hy1 : y.name = "<init>") (w1 : (Jvm.Cond.methodLinkNest own index y host).before a0 Z = true) (w2 : (Jvm.Cond.instanceMethod y).before a0 Z = true) (w3 : (Jvm.Cond.initialized y.cls).before a0 Z = true) (w4 : (Jvm.Cond.code y bytes' maxL' none).before a0 Z = true) (hy : y.cls ≠ "java/lang/invoke/MethodHandle" ∧ y.cls ≠ "java/lang/invoke/VarHandle") (hsz : Ls.size = maxL) (hlen : ∀ sig, parseMethodDescriptor y.desc = some sig → argsL.length = sig.parameters.length) (hst : st = argsL.reverse ++ .ref a :: rest) (hW : (rest.map fun v => v.category).sum ≤ W) (hd : decode bytes pc = .ok (.invokespecial index, 3)) (hp : pc + 3 = pc') (hc : cells + rm.cells ≤ R.cells) (hs : slots + rm.slots ≤ R.slots) (hsub : ∀ x ∈ ws', x ∈ ws ∨ h0.size ≤ x) (hf : rm.frames + 1 ≤ R.frames) (hl : W + (maxL' + 11) + rm.locals ≤ R.locals) (k : ∀ v h', Q' v h' → Keep h h' ws' → G p l e R s m args below meth c ws Φ h' (cells + rm.cells) (slots + rm.slots) pc' Ls (v.toList ++ rest)) : G p l e R s m args below meth c ws Φ h cells slots pc Ls st :=
  g_ctx C fun K0 E0 => g_specialN C hy1 w1 w2 w4 hy (M.bk C.2.1 E0 (ws_sub hsub C.2.2.2.2.2.2.2.2.2.2 C.2.2.2.2.2.2.2.2.2.1.1) w4 w3 hf hl) hsz hlen hst hW hd hp hc hs fun v h' L q => ⟨lw_sub q.2.2 K0.1 hsub, k v h' q.1 q.2.1⟩
theorem g_interface (C : Cx p s m meth c Z h0 ws own nm bytes maxL ret) {index count : Nat} {Cn : String} {y z : MethodName} {a : Addr} (w1 : (Jvm.Cond.methodLink own index y).before a0 Z = true) (w2 : (Jvm.Cond.declares y).before a0 Z = true) (w7 : (Jvm.Cond.interfaceMethod y.cls y.cls y.name y.desc).before a0 Z = true) (w3 : (Jvm.Cond.selects Cn y z).before a0 Z = true) (w4 : (Jvm.Cond.instanceMethod z).before a0 Z = true) (w8 : (Jvm.Cond.publicMethod z).before a0 Z = true) (w9 : (Jvm.Cond.unhidden Cn y.name y.desc).before a0 Z = true) (w10 : (Jvm.Cond.castable Cn y.cls).before a0 Z = true) (hy : y.cls ≠ "java/lang/invoke/MethodHandle" ∧ y.cls ≠ "java/lang/invoke/VarHandle") {W kb sb : Nat} {argsL : List Value} {Qb : Option Value → Heap → List Loc → Prop} (B : Bk l R p e below s args z 5 W (.ref a :: argsL).toArray h kb sb Qb) (E : Exa Z h a Cn) (hsz : Ls.size = maxL) (hlen : ∀ sig, parseMethodDescriptor y.desc = some sig → argsL.length = sig.parameters.length) (hst : st = argsL.reverse ++ .ref a :: rest) (hW : (rest.map fun v => v.category).sum ≤ W) (hd : decode bytes pc = .ok (.invokeinterface index count, 5)) (hp : pc + 5 = pc') (hc : cells + kb ≤ R.cells) (hs : slots + sb ≤ R.slots) (k : ∀ v h' L, Qb v h' L → Lw h0.size ws L ∧ G p l e R s m args below meth c ws Φ h' (cells + kb) (slots + sb) pc' Ls (v.toList ++ rest)) : G p l e R s m args below meth c ws Φ h cells slots pc Ls st := by
  intro T locs X e1 N
  subst hp hst
  obtain ⟨hx, hZ, hown, hby, hml, hret, hlk, hnm, rfl, hE, hws⟩ := C
  obtain ⟨cq, kq, q1, q2, q3⟩ := isOf hZ e1 E
  obtain ⟨v, vm1, ⟨T', L', k', n'⟩, -, X', ⟨L, hQ, hl, hk, hn⟩, stp⟩ := X.interfaceBack hx hown (mvT hZ w1) (mvT hZ w2) (mvT hZ w7 (by simp [Cond.onTables, Cond.keepsFace, Cond.keeps, Cond.steady, Cond.faceAtom, hy.1, hy.2])) (mvT hZ w3) (mvT hZ w4) (mvT hZ w8) (mvT hZ w9) (mvT hZ w10) hy B q1 q2 q3 (g := mkF m pc Ls (argsL.reverse ++ .ref a :: rest)) rfl (by rw [hml]; exact hsz) (Steps.refl _) (argsL := argsL) (rest := rest) hlen rfl (by show 2 * 0 + _ ≤ _; omega) (hb hby hd) (fun _ _ => ⟨rfl, e1, hc, hs⟩)
  dsimp only [Pt.U, Pt.locs, Pt.cells, Pt.slots] at X' hl hk hn stp hQ
  subst hl hk hn
  obtain ⟨hF, k1⟩ := k _ _ _ hQ
  obtain ⟨s2, o, q, r⟩ := k1 T' _ X' rfl (N.app hF)
  exact ⟨s2, o, stp.trans q, r⟩
theorem g_interfaceC (C : Cx p s m meth c Z h0 ws own nm bytes maxL ret) {index count : Nat} {Cn : String} {y z : MethodName} {bytes' : ByteArray} {maxL' : Nat} {ret' : Option FieldType} {W : Nat} {argsL : List Value} {a : Addr} {rm : Room} {Q' : Option Value → Heap → Prop} (M : Con l Z ws' z bytes' maxL' ret' rm (.ref a :: argsL).toArray h [] Q') (w1 : (Jvm.Cond.methodLink own index y).before a0 Z = true) (w2 : (Jvm.Cond.declares y).before a0 Z = true) (w7 : (Jvm.Cond.interfaceMethod y.cls y.cls y.name y.desc).before a0 Z = true) (w3 : (Jvm.Cond.selects Cn y z).before a0 Z = true) (w4 : (Jvm.Cond.instanceMethod z).before a0 Z = true) (w8 : (Jvm.Cond.publicMethod z).before a0 Z = true) (w9 : (Jvm.Cond.unhidden Cn y.name y.desc).before a0 Z = true) (w10 : (Jvm.Cond.castable Cn y.cls).before a0 Z = true) (w5 : (Jvm.Cond.initialized z.cls).before a0 Z = true) (w6 : (Jvm.Cond.code z bytes' maxL' ret').before a0 Z = true) (hy : y.cls ≠ "java/lang/invoke/MethodHandle" ∧ y.cls ≠ "java/lang/invoke/VarHandle") (E : Exa Z h a Cn) (hsz : Ls.size = maxL) (hlen : ∀ sig, parseMethodDescriptor y.desc = some sig → argsL.length = sig.parameters.length) (hst : st = argsL.reverse ++ .ref a :: rest) (hW : (rest.map fun v => v.category).sum ≤ W) (hd : decode bytes pc = .ok (.invokeinterface index count, 5)) (hp : pc + 5 = pc') (hc : cells + rm.cells ≤ R.cells) (hs : slots + rm.slots ≤ R.slots) (hsub : ∀ x ∈ ws', x ∈ ws ∨ h0.size ≤ x) (hf : rm.frames + 1 ≤ R.frames) (hl : W + (maxL' + 11) + rm.locals ≤ R.locals) (k : ∀ v h', Q' v h' → Keep h h' ws' → G p l e R s m args below meth c ws Φ h' (cells + rm.cells) (slots + rm.slots) pc' Ls (v.toList ++ rest)) : G p l e R s m args below meth c ws Φ h cells slots pc Ls st :=
  g_ctx C fun K0 E0 => g_interface C w1 w2 w7 w3 w4 w8 w9 w10 hy (M.bk C.2.1 E0 (ws_sub hsub C.2.2.2.2.2.2.2.2.2.2 C.2.2.2.2.2.2.2.2.2.1.1) w6 w5 hf hl) E hsz hlen hst hW hd hp hc hs fun v h' L q => ⟨lw_sub q.2.2 K0.1 hsub, k v h' q.1 q.2.1⟩
theorem g_tswOut (C : Cx p s m meth c Z h0 ws own nm bytes maxL ret) {dflt low high : Int} {offs : Array Int} {len : Nat} {x : Int32} (hd : decode bytes pc = .ok (.tableswitch dflt low high offs, len)) (hout : x.toInt < low ∨ x.toInt > high) (ho : 0 ≤ (pc : Int) + dflt) (hp : ((pc : Int) + dflt).toNat = pc') (k : G p l e R s m args below meth c ws Φ h cells slots pc' Ls st) : G p l e R s m args below meth c ws Φ h cells slots pc Ls (.int x :: st) :=
  g_of (fun T A t q => XS.tswOut A C.1 rfl rfl (hb C.2.2.2.1 hd) rfl hout ho hp q) k
theorem g_ireturn (C : Cx p s m meth c Z h0 ws own nm bytes maxL (some .int)) {x : Int32} (hd : decode bytes pc = .ok (.ireturn, 1)) (hQ : Q (some (.int x)) h) (hc : cells ≤ kc) (hs : slots ≤ ks) : G p l e R s m args below meth c ws (EndA s ws Q kc ks) h cells slots pc Ls [.int x] := by
  intro T locs X e1 N
  obtain ⟨hx, hZ, hown, hby, hml, hret, hlk, hnm, rfl, hE, hws⟩ := C
  obtain ⟨fs, hr, hrun, hended, hW, hsame⟩ := X.leave (v := (some (.int x))) (fun h => by rw [hret] at h; cases h) hlk
  exact ⟨_, _, X.ireturnOut hx hret rfl (Or.inl rfl) (hb hby hd) hr, hrun, hended, _, _, rfl, ⟨by rw [show (T.setFrames fs).heap = h from e1]; exact hQ, by rw [show (T.setFrames fs).heap = T.heap from rfl]; exact keep_of X N, N⟩, ⟨_, rfl⟩, hW, hsame.mono hc hs⟩
theorem g_ireturnN {t : FieldType} (C : Cx p s m meth c Z h0 ws own nm bytes maxL (some t)) {x : Int32} (ht : t = .boolean ∨ t = .byte ∨ t = .char ∨ t = .short) (hd : decode bytes pc = .ok (.ireturn, 1)) (hQ : Q (some (.int (nar t x))) h) (hc : cells ≤ kc) (hs : slots ≤ ks) : G p l e R s m args below meth c ws (EndA s ws Q kc ks) h cells slots pc Ls (.int x :: st) := by
  intro T locs X e1 N
  obtain ⟨hx, hZ, hown, hby, hml, hret, hlk, hnm, rfl, hE, hws⟩ := C
  obtain ⟨fs, hr, hrun, hended, hW, hsame⟩ := X.leave (v := (some (.int (nar t x)))) (fun h => by rw [hret] at h; cases h) hlk
  exact ⟨_, _, retN X hx hret ht (hb hby hd) hr, hrun, hended, _, _, rfl, ⟨by rw [show (T.setFrames fs).heap = h from e1]; exact hQ, by rw [show (T.setFrames fs).heap = T.heap from rfl]; exact keep_of X N, N⟩, ⟨_, rfl⟩, hW, hsame.mono hc hs⟩
theorem g_areturn {t : FieldType} (C : Cx p s m meth c Z h0 ws own nm bytes maxL (some t)) {v : Value} (hv : v.isRef = true) (ht : t.isReference = true) (hd : decode bytes pc = .ok (.areturn, 1)) (hQ : Q (some v) h) (hc : cells ≤ kc) (hs : slots ≤ ks) : G p l e R s m args below meth c ws (EndA s ws Q kc ks) h cells slots pc Ls [v] := by
  intro T locs X e1 N
  obtain ⟨hx, hZ, hown, hby, hml, hret, hlk, hnm, rfl, hE, hws⟩ := C
  obtain ⟨fs, hr, hrun, hended, hW, hsame⟩ := X.leave (v := (some v)) (fun h => by rw [hret] at h; cases h) hlk
  exact ⟨_, _, X.areturnOut hx hv hret ht (hb hby hd) hr, hrun, hended, _, _, rfl, ⟨by rw [show (T.setFrames fs).heap = h from e1]; exact hQ, by rw [show (T.setFrames fs).heap = T.heap from rfl]; exact keep_of X N, N⟩, ⟨_, rfl⟩, hW, hsame.mono hc hs⟩
theorem g_lreturn (C : Cx p s m meth c Z h0 ws own nm bytes maxL (some .long)) {x : Int64} (hd : decode bytes pc = .ok (.lreturn, 1)) (hQ : Q (some (.long x)) h) (hc : cells ≤ kc) (hs : slots ≤ ks) : G p l e R s m args below meth c ws (EndA s ws Q kc ks) h cells slots pc Ls [.long x] := by
  intro T locs X e1 N
  obtain ⟨hx, hZ, hown, hby, hml, hret, hlk, hnm, rfl, hE, hws⟩ := C
  obtain ⟨fs, hr, hrun, hended, hW, hsame⟩ := X.leave (v := (some (.long x))) (fun h => by rw [hret] at h; cases h) hlk
  exact ⟨_, _, X.lreturnOut hx hret (hb hby hd) hr, hrun, hended, _, _, rfl, ⟨by rw [show (T.setFrames fs).heap = h from e1]; exact hQ, by rw [show (T.setFrames fs).heap = T.heap from rfl]; exact keep_of X N, N⟩, ⟨_, rfl⟩, hW, hsame.mono hc hs⟩
theorem g_return (C : Cx p s m meth c Z h0 ws own nm bytes maxL none) (hd : decode bytes pc = .ok (.return_, 1)) (hQ : Q none h) (hc : cells ≤ kc) (hs : slots ≤ ks) : G p l e R s m args below meth c ws (EndA s ws Q kc ks) h cells slots pc Ls [] := by
  intro T locs X e1 N
  obtain ⟨hx, hZ, hown, hby, hml, hret, hlk, hnm, rfl, hE, hws⟩ := C
  obtain ⟨fs, hr, hrun, hended, hW, hsame⟩ := X.leave (v := none) (fun _ => rfl) hlk
  exact ⟨_, _, X.returnOut hx hret (hb hby hd) hr, hrun, hended, _, _, rfl, ⟨by rw [show (T.setFrames fs).heap = h from e1]; exact hQ, by rw [show (T.setFrames fs).heap = T.heap from rfl]; exact keep_of X N, N⟩, ⟨_, rfl⟩, hW, hsame.mono hc hs⟩
end OwnKit
section OwnNum
theorem nar_char_id {x : Int32} (h1 : 0 ≤ x.toInt) (h2 : x.toInt < 65536) : nar .char x = x := by
  have q := c_i2c x
  apply Int32.toInt_inj.mp
  show x.toUInt32.toUInt16.toUInt32.toInt32.toInt = x.toInt
  omega
theorem i32_nat {n : Nat} (h : n < 2 ^ 31) : (Int32.ofNat n).toInt = (n : Int) := Int32.toInt_ofNat_small h
theorem i32_clamp {n : Nat} (h : n < 2 ^ 31) : (Int32.ofNat n).toNatClampNeg = n := by rw [Int32.toNatClampNeg, i32_nat h]; rfl
theorem i32_nn {n : Nat} (h : n < 2 ^ 31) : ¬ Int32.ofNat n < 0 := by rw [Int32.lt_iff_toInt_lt, i32_nat h]; simp
theorem i32_succ {n : Nat} : Int32.ofNat n + 1 = Int32.ofNat (n + 1) := by rw [Int32.ofNat_add]; rfl
end OwnNum
section OwnLoop
variable {p : Program} {l : Launch} {e : Env} {R : Room} {s : State} {m : MethodId} {args : Array Value} {below : List Frame} {meth : Method} {c : Code} {ws : List Addr} {Φ : Outcome → State → Prop} {h : Heap} {cells slots pc : Nat} {Ls : Array Slot} {st : List Value}
/-- a loop over a fixed heap: by the measure -/
theorem g_loop {α : Type} (I : α → Prop) (μ : α → Nat) (Lf : α → Array Slot) (x0 : α) (hI : I x0) (hL : Ls = Lf x0) (step : ∀ x, I x → (∀ y, I y → μ y < μ x → G p l e R s m args below meth c ws Φ h cells slots pc (Lf y) st) → G p l e R s m args below meth c ws Φ h cells slots pc (Lf x) st) : G p l e R s m args below meth c ws Φ h cells slots pc Ls st := by
  subst hL
  have all : ∀ n x, μ x < n → I x → G p l e R s m args below meth c ws Φ h cells slots pc (Lf x) st := by
    intro n
    induction n with
    | zero => intro x hx; exact absurd hx (Nat.not_lt_zero _)
    | succ n ih => intro x hx hi; exact step x hi fun y hy hlt => ih y (by omega) hy
  exact all _ x0 (Nat.lt_succ_self _) hI
/-- a loop whose heap moves -/
theorem g_loopH {α : Type} (I : α → Heap → Prop) (μ : α → Nat) (Lf : α → Array Slot) (x0 : α) (hI : I x0 h) (hL : Ls = Lf x0) (step : ∀ x h, I x h → (∀ y h', I y h' → μ y < μ x → G p l e R s m args below meth c ws Φ h' cells slots pc (Lf y) st) → G p l e R s m args below meth c ws Φ h cells slots pc (Lf x) st) : G p l e R s m args below meth c ws Φ h cells slots pc Ls st := by
  subst hL
  have all : ∀ n x h, μ x < n → I x h → G p l e R s m args below meth c ws Φ h cells slots pc (Lf x) st := by
    intro n
    induction n with
    | zero => intro x h hx; exact absurd hx (Nat.not_lt_zero _)
    | succ n ih => intro x h hx hi; exact step x h hi fun y h' hy hlt => ih y h' (by omega) hy
  exact all _ x0 h (Nat.lt_succ_self _) hI
end OwnLoop

section OwnStr
variable {p : Program} {l : Launch} {e : Env} {R : Room} {s : State} {m : MethodId} {args : Array Value} {below : List Frame} {meth : Method} {c : Code} {Z : State} {h0 : Heap} {ws ws' : List Addr} {own nm : String} {bytes : ByteArray} {maxL : Nat} {ret : Option FieldType} {Φ : Outcome → State → Prop} {h : Heap} {cells slots pc pc' : Nat} {Ls Ls' : Array Slot} {st st' rest : List Value} {a0 : Array Value}
/-- the statics that the String laws read -/
def SS (Z : State) : Prop := ∃ (z : Int32) (fm : Value), Sta Z Z.heap "java/lang/String" "COMPACT_STRINGS" "Z" (.int z) ∧ ¬ z = 0 ∧ Sta Z Z.heap "jdk/internal/util/Preconditions" "SIOOBE_FORMATTER" "Ljava/util/function/BiFunction;" fm ∧ fm.isRef = true
/-- at x lies a String of the chars cs, each 0 to 255 -/
def Str (Z : State) (h : Heap) (x : Addr) (cs : List Int32) : Prop := cs.length ≤ 4000 ∧ (∀ c ∈ cs, ¬ c < 0 ∧ ¬ (255 : Int32) < c) ∧ Exa Z h x "java/lang/String" ∧ Fld Z h x "java/lang/String" "coder" "B" (.int 0) ∧ ∃ (t : Addr) (kb : ClassId), Fld Z h x "java/lang/String" "value" "[B" (.ref t) ∧ Arv Z h t kb .byte (Int32.ofNat cs.length) ((cs.map (fun c => c.toInt8.toInt32)).map Value.int) (.int 0)
/-- an object that is neither a String nor an array, or one not there yet -/
def Nst (Z : State) (h : Heap) (y : Addr) : Prop := h.size ≤ y ∨ ∃ (Cn : String) (k : Nat) (a0 : Array Value), Exa Z h y Cn ∧ (Jvm.Cond.instantiable Cn k).before a0 Z = true ∧ Cn ≠ "java/lang/String"
theorem Str.lt {x : Addr} {cs : List Int32} (S : Str Z h x cs) : x < h.size := S.2.2.1.lt
theorem Str.exa {x : Addr} {cs : List Int32} (S : Str Z h x cs) : Exa Z h x "java/lang/String" := S.2.2.1
theorem Str.keep {h' : Heap} {x : Addr} {cs : List Int32} (S : Str Z h x cs) (K : Keep h h' ws) (q : ∀ y ∈ ws, Nst Z h y) : Str Z h' x cs := by
  obtain ⟨h1, h2, E, Cd, t, kb, V, A⟩ := S
  have hx : x ∉ ws := fun hm => by
    rcases q x hm with z | ⟨Cn, k, a0, E2, wi, hne⟩
    · exact absurd E.lt (Nat.not_lt.mpr z)
    · exact ne_exa E2 E hne rfl
  have ht : t ∉ ws := fun hm => by
    rcases q t hm with z | ⟨Cn, k, a0, E2, wi, hne⟩
    · exact absurd A.lt (Nat.not_lt.mpr z)
    · obtain ⟨cc, Ar, -⟩ := A; exact ne_arr E2 wi Ar rfl
  exact ⟨h1, h2, E.keep K, Cd.keep K hx, t, kb, V.keep K hx, A.keep K ht⟩
theorem Str.ext {h' : Heap} {x : Addr} {cs : List Int32} (S : Str Z h x cs) (E1 : Ext h h') : Str Z h' x cs := by
  obtain ⟨h1, h2, E, Cd, t, kb, V, A⟩ := S
  exact ⟨h1, h2, E.ext E1, Cd.ext E1, t, kb, V.ext E1, A.ext E1⟩
theorem Str.wide {x : Addr} {cs : List Int32} (S : Str Z h x cs) : ∀ c ∈ cs, ¬ c < 0 ∧ ¬ (65535 : Int32) < c := fun c hc => ⟨(S.2.1 c hc).1, fun q => (S.2.1 c hc).2 (by rw [Int32.lt_iff_toInt_lt] at q ⊢; have e1 : (65535 : Int32).toInt = 65535 := rfl; have e2 : (255 : Int32).toInt = 255 := rfl; omega)⟩
theorem Str.cod {x : Addr} {cs : List Int32} (S : Str Z h x cs) : StrChars.Road.CodA cs 0 (Int32.ofNat cs.length) ((cs.map (fun c => c.toInt8.toInt32)).map Value.int) := StrChars.Road.codOf rfl fun c hc => (S.2.1 c hc).2
theorem pd_chars : parseMethodDescriptor "([C)V" = some ⟨[.array .char], none⟩ := by decide +kernel
theorem pd_len : parseMethodDescriptor "()I" = some ⟨[], some .int⟩ := by decide +kernel
theorem pd_emp : parseMethodDescriptor "()Z" = some ⟨[], some .boolean⟩ := by decide +kernel
theorem pd_chat : parseMethodDescriptor "(I)C" = some ⟨[.int], some .char⟩ := by decide +kernel
theorem pd_eqo : parseMethodDescriptor "(Ljava/lang/Object;)Z" = some ⟨[.object "java/lang/Object"], some .boolean⟩ := by decide +kernel
theorem g_newstr (C : Cx p s m meth c Z h0 ws own nm bytes maxL ret) (hS : SS Z) {index n kI maxL' : Nat} {bytes' : ByteArray} {x b : Addr} {f : Nat → Value} {cs : List Int32} {v0 c0 : Value} (hws : ∀ d ∈ StrChars.Road.words, d.before a0 Z = true) (wi : (Jvm.Cond.instantiable "java/lang/String" kI).before a0 Z = true) (w1 : (Jvm.Cond.methodLink own index (⟨"java/lang/String", "<init>", "([C)V"⟩ : MethodName)).before a0 Z = true) (w2 : (Jvm.Cond.instanceMethod (⟨"java/lang/String", "<init>", "([C)V"⟩ : MethodName)).before a0 Z = true) (w4 : (Jvm.Cond.code (⟨"java/lang/String", "<init>", "([C)V"⟩ : MethodName) bytes' maxL' none).before a0 Z = true) (E : Exa Z h x "java/lang/String") (V : Fld Z h x "java/lang/String" "value" "[B" v0) (Cd : Fld Z h x "java/lang/String" "coder" "B" c0) (A : Af Z h b .char n f) (hcs : (List.range n).map f = cs.map Value.int) (hn1 : 0 < n) (hn2 : n ≤ 4000) (hr : ∀ c ∈ cs, ¬ c < 0 ∧ ¬ (255 : Int32) < c) (hx0 : h0.size ≤ x) (hsz : Ls.size = maxL) (hd : decode bytes pc = .ok (.invokespecial index, 3)) (hp : pc + 3 = pc') (hc : cells + 1 ≤ R.cells) (hs : slots + n ≤ R.slots) (hf : 4 ≤ R.frames) (hl : (st.map fun v => v.category).sum + 65 ≤ R.locals) (k : ∀ h', Keep h h' [x] → Str Z h' x cs → G p l e R s m args below meth c ws Φ h' (cells + 1) (slots + n) pc' Ls st) : G p l e R s m args below meth c ws Φ h cells slots pc Ls (.ref b :: .ref x :: st) := g_ctx C fun K0 E0 => by
  obtain ⟨z, fm, O2, P5, O4, rf⟩ := hS
  obtain ⟨kC, Av⟩ := A.arv (.int 0)
  rw [hcs] at Av
  have hlen : cs.length = n := by have := congrArg List.length hcs; simpa using this.symm
  refine g_special C rfl w1 w2 w4 (by decide) (W := (st.map fun v => v.category).sum) (argsL := [.ref b]) (rest := st) (kb := 1) (sb := n) (Qb := StrChars.Road.QV Z x (Int32.ofNat n) (cs.map fun c => c.toInt8.toInt32) h h0.size) (StrChars.Road.backV C.2.1 hws wi (cs := cs) (n := n) (n0 := h0.size) hx0 K0.1 E V Cd Av (O2.ext E0) P5 hlen rfl hn1 hn2 hr rfl hf hl) hsz (lenOf pd_chars rfl) rfl (Nat.le_refl _) hd hp hc hs ?_
  rintro v h' L ⟨rfl, N, K, E', C', t, kb, -, -, -, V', A'⟩
  exact ⟨fun y hy => Or.inr (N y hy), k h' K ⟨by omega, hr, E', C', t, kb, V', by rw [hlen]; exact A'⟩⟩
end OwnStr
theorem Ws_backV {Z : State} {a0 : Array Value} (hw : ∀ d ∈ tables_1, d.before a0 Z = true) : ∀ d ∈ StrChars.Road.words, d.before a0 Z = true := fun d hd => hw d ((by decide +kernel : ∀ d ∈ StrChars.Road.words, d ∈ tables_1) d hd)
theorem rngL255 (x : Int64) : ¬ nar .char (nar .char (x &&& 255).toInt32) < 0 ∧ ¬ (255 : Int32) < nar .char (nar .char (x &&& 255).toInt32) := by
  have q1 := c_maskL x 255 8 (by decide) (by decide)
  have l : ((2 ^ 8 : Nat) : Int) = 256 := rfl
  have l1 : (0 : Int32).toInt = 0 := rfl
  have l2 : (255 : Int32).toInt = 255 := rfl
  rw [l] at q1
  have q2 := c_l2i (x &&& 255)
  have r := rng32 (x &&& 255).toInt32
  rw [nar_char_id (x := (x &&& 255).toInt32) (by omega) (by omega), nar_char_id (x := (x &&& 255).toInt32) (by omega) (by omega), Int32.lt_iff_toInt_lt, Int32.lt_iff_toInt_lt]
  omega
theorem ins_keep {Z : State} {h h' : Heap} {a : Addr} {C : String} {ws : List Addr} (F : Ins Z h a C true) (K : Keep h h' ws) : Ins Z h' a C true := by
  obtain ⟨cell, cT, h1, h2, h3⟩ := F
  obtain ⟨c', q1, q2, q3, -⟩ := K.2.2 a cell h1
  exact ⟨c', cT, q1, h2, by rw [q2, q3]; exact h3⟩
theorem d_method_3_0 : decode method_3_code 0 = .ok (.iconst 2, 1) := by decide +kernel
theorem d_method_3_1 : decode method_3_code 1 = .ok (.newarray .char, 2) := by decide +kernel
theorem d_method_3_3 : decode method_3_code 3 = .ok (.astore_n 3, 1) := by decide +kernel
theorem d_method_3_4 : decode method_3_code 4 = .ok (.aload_n 3, 1) := by decide +kernel
theorem d_method_3_5 : decode method_3_code 5 = .ok (.iconst 0, 1) := by decide +kernel
theorem d_method_3_6 : decode method_3_code 6 = .ok (.lload_n 0, 1) := by decide +kernel
theorem d_method_3_7 : decode method_3_code 7 = .ok (.iload_n 2, 1) := by decide +kernel
theorem d_method_3_8 : decode method_3_code 8 = .ok (.lushr, 1) := by decide +kernel
theorem d_method_3_9 : decode method_3_code 9 = .ok (.ldc2_w 48, 3) := by decide +kernel
theorem d_method_3_12 : decode method_3_code 12 = .ok (.land, 1) := by decide +kernel
theorem d_method_3_13 : decode method_3_code 13 = .ok (.l2i, 1) := by decide +kernel
theorem d_method_3_14 : decode method_3_code 14 = .ok (.i2c, 1) := by decide +kernel
theorem d_method_3_15 : decode method_3_code 15 = .ok (.castore, 1) := by decide +kernel
theorem d_method_3_16 : decode method_3_code 16 = .ok (.aload_n 3, 1) := by decide +kernel
theorem d_method_3_17 : decode method_3_code 17 = .ok (.iconst 1, 1) := by decide +kernel
theorem d_method_3_18 : decode method_3_code 18 = .ok (.lload_n 0, 1) := by decide +kernel
theorem d_method_3_19 : decode method_3_code 19 = .ok (.iload_n 2, 1) := by decide +kernel
theorem d_method_3_20 : decode method_3_code 20 = .ok (.bipush 8, 2) := by decide +kernel
theorem d_method_3_22 : decode method_3_code 22 = .ok (.iadd, 1) := by decide +kernel
theorem d_method_3_23 : decode method_3_code 23 = .ok (.lushr, 1) := by decide +kernel
theorem d_method_3_24 : decode method_3_code 24 = .ok (.ldc2_w 48, 3) := by decide +kernel
theorem d_method_3_27 : decode method_3_code 27 = .ok (.land, 1) := by decide +kernel
theorem d_method_3_28 : decode method_3_code 28 = .ok (.l2i, 1) := by decide +kernel
theorem d_method_3_29 : decode method_3_code 29 = .ok (.i2c, 1) := by decide +kernel
theorem d_method_3_30 : decode method_3_code 30 = .ok (.castore, 1) := by decide +kernel
theorem d_method_3_31 : decode method_3_code 31 = .ok (.new 42, 3) := by decide +kernel
theorem d_method_3_34 : decode method_3_code 34 = .ok (.dup, 1) := by decide +kernel
theorem d_method_3_35 : decode method_3_code 35 = .ok (.aload_n 3, 1) := by decide +kernel
theorem d_method_3_36 : decode method_3_code 36 = .ok (.invokespecial 50, 3) := by decide +kernel
theorem d_method_3_39 : decode method_3_code 39 = .ok (.areturn, 1) := by decide +kernel
theorem d_jdk_30_method_1_0 : decode jdk_30_method_1_code 0 = .ok (.aload_n 0, 1) := by decide +kernel
theorem d_jdk_30_method_1_1 : decode jdk_30_method_1_code 1 = .ok (.invokespecial 1, 3) := by decide +kernel
theorem d_jdk_30_method_1_4 : decode jdk_30_method_1_code 4 = .ok (.return_, 1) := by decide +kernel
theorem d_prog_55_method_1_0 : decode prog_55_method_1_code 0 = .ok (.aload_n 0, 1) := by decide +kernel
theorem d_prog_55_method_1_1 : decode prog_55_method_1_code 1 = .ok (.invokespecial 1, 3) := by decide +kernel
theorem d_prog_55_method_1_4 : decode prog_55_method_1_code 4 = .ok (.aload_n 0, 1) := by decide +kernel
theorem d_prog_55_method_1_5 : decode prog_55_method_1_code 5 = .ok (.aload_n 1, 1) := by decide +kernel
theorem d_prog_55_method_1_6 : decode prog_55_method_1_code 6 = .ok (.putfield 7, 3) := by decide +kernel
theorem d_prog_55_method_1_9 : decode prog_55_method_1_code 9 = .ok (.aload_n 0, 1) := by decide +kernel
theorem d_prog_55_method_1_10 : decode prog_55_method_1_code 10 = .ok (.aload_n 2, 1) := by decide +kernel
theorem d_prog_55_method_1_11 : decode prog_55_method_1_code 11 = .ok (.putfield 13, 3) := by decide +kernel
theorem d_prog_55_method_1_14 : decode prog_55_method_1_code 14 = .ok (.aload_n 0, 1) := by decide +kernel
theorem d_prog_55_method_1_15 : decode prog_55_method_1_code 15 = .ok (.aload_n 3, 1) := by decide +kernel
theorem d_prog_55_method_1_16 : decode prog_55_method_1_code 16 = .ok (.putfield 16, 3) := by decide +kernel
theorem d_prog_55_method_1_19 : decode prog_55_method_1_code 19 = .ok (.aload_n 0, 1) := by decide +kernel
theorem d_prog_55_method_1_20 : decode prog_55_method_1_code 20 = .ok (.aload 4, 2) := by decide +kernel
theorem d_prog_55_method_1_22 : decode prog_55_method_1_code 22 = .ok (.putfield 19, 3) := by decide +kernel
theorem d_prog_55_method_1_25 : decode prog_55_method_1_code 25 = .ok (.aload_n 0, 1) := by decide +kernel
theorem d_prog_55_method_1_26 : decode prog_55_method_1_code 26 = .ok (.aload 5, 2) := by decide +kernel
theorem d_prog_55_method_1_28 : decode prog_55_method_1_code 28 = .ok (.putfield 22, 3) := by decide +kernel
theorem d_prog_55_method_1_31 : decode prog_55_method_1_code 31 = .ok (.return_, 1) := by decide +kernel
theorem d_prog_3_method_1_0 : decode prog_3_method_1_code 0 = .ok (.aload_n 0, 1) := by decide +kernel
theorem d_prog_3_method_1_1 : decode prog_3_method_1_code 1 = .ok (.invokespecial 1, 3) := by decide +kernel
theorem d_prog_3_method_1_4 : decode prog_3_method_1_code 4 = .ok (.aload_n 0, 1) := by decide +kernel
theorem d_prog_3_method_1_5 : decode prog_3_method_1_code 5 = .ok (.aload_n 1, 1) := by decide +kernel
theorem d_prog_3_method_1_6 : decode prog_3_method_1_code 6 = .ok (.putfield 7, 3) := by decide +kernel
theorem d_prog_3_method_1_9 : decode prog_3_method_1_code 9 = .ok (.aload_n 0, 1) := by decide +kernel
theorem d_prog_3_method_1_10 : decode prog_3_method_1_code 10 = .ok (.aload_n 2, 1) := by decide +kernel
theorem d_prog_3_method_1_11 : decode prog_3_method_1_code 11 = .ok (.putfield 13, 3) := by decide +kernel
theorem d_prog_3_method_1_14 : decode prog_3_method_1_code 14 = .ok (.return_, 1) := by decide +kernel
theorem d_prog_33_method_1_0 : decode prog_33_method_1_code 0 = .ok (.aload_n 0, 1) := by decide +kernel
theorem d_prog_33_method_1_1 : decode prog_33_method_1_code 1 = .ok (.invokespecial 1, 3) := by decide +kernel
theorem d_prog_33_method_1_4 : decode prog_33_method_1_code 4 = .ok (.aload_n 0, 1) := by decide +kernel
theorem d_prog_33_method_1_5 : decode prog_33_method_1_code 5 = .ok (.aload_n 1, 1) := by decide +kernel
theorem d_prog_33_method_1_6 : decode prog_33_method_1_code 6 = .ok (.putfield 7, 3) := by decide +kernel
theorem d_prog_33_method_1_9 : decode prog_33_method_1_code 9 = .ok (.aload_n 0, 1) := by decide +kernel
theorem d_prog_33_method_1_10 : decode prog_33_method_1_code 10 = .ok (.aload_n 2, 1) := by decide +kernel
theorem d_prog_33_method_1_11 : decode prog_33_method_1_code 11 = .ok (.putfield 13, 3) := by decide +kernel
theorem d_prog_33_method_1_14 : decode prog_33_method_1_code 14 = .ok (.aload_n 0, 1) := by decide +kernel
theorem d_prog_33_method_1_15 : decode prog_33_method_1_code 15 = .ok (.aload_n 3, 1) := by decide +kernel
theorem d_prog_33_method_1_16 : decode prog_33_method_1_code 16 = .ok (.putfield 17, 3) := by decide +kernel
theorem d_prog_33_method_1_19 : decode prog_33_method_1_code 19 = .ok (.aload_n 0, 1) := by decide +kernel
theorem d_prog_33_method_1_20 : decode prog_33_method_1_code 20 = .ok (.aload 4, 2) := by decide +kernel
theorem d_prog_33_method_1_22 : decode prog_33_method_1_code 22 = .ok (.putfield 21, 3) := by decide +kernel
theorem d_prog_33_method_1_25 : decode prog_33_method_1_code 25 = .ok (.aload_n 0, 1) := by decide +kernel
theorem d_prog_33_method_1_26 : decode prog_33_method_1_code 26 = .ok (.aload 5, 2) := by decide +kernel
theorem d_prog_33_method_1_28 : decode prog_33_method_1_code 28 = .ok (.putfield 24, 3) := by decide +kernel
theorem d_prog_33_method_1_31 : decode prog_33_method_1_code 31 = .ok (.aload_n 0, 1) := by decide +kernel
theorem d_prog_33_method_1_32 : decode prog_33_method_1_code 32 = .ok (.aload 6, 2) := by decide +kernel
theorem d_prog_33_method_1_34 : decode prog_33_method_1_code 34 = .ok (.putfield 27, 3) := by decide +kernel
theorem d_prog_33_method_1_37 : decode prog_33_method_1_code 37 = .ok (.return_, 1) := by decide +kernel
theorem d_prog_55_method_5_0 : decode prog_55_method_5_code 0 = .ok (.aload_n 0, 1) := by decide +kernel
theorem d_prog_55_method_5_1 : decode prog_55_method_5_code 1 = .ok (.getfield 7, 3) := by decide +kernel
theorem d_prog_55_method_5_4 : decode prog_55_method_5_code 4 = .ok (.areturn, 1) := by decide +kernel
theorem d_prog_55_method_6_0 : decode prog_55_method_6_code 0 = .ok (.aload_n 0, 1) := by decide +kernel
theorem d_prog_55_method_6_1 : decode prog_55_method_6_code 1 = .ok (.getfield 13, 3) := by decide +kernel
theorem d_prog_55_method_6_4 : decode prog_55_method_6_code 4 = .ok (.areturn, 1) := by decide +kernel
theorem d_prog_55_method_7_0 : decode prog_55_method_7_code 0 = .ok (.aload_n 0, 1) := by decide +kernel
theorem d_prog_55_method_7_1 : decode prog_55_method_7_code 1 = .ok (.getfield 16, 3) := by decide +kernel
theorem d_prog_55_method_7_4 : decode prog_55_method_7_code 4 = .ok (.areturn, 1) := by decide +kernel
theorem d_prog_55_method_8_0 : decode prog_55_method_8_code 0 = .ok (.aload_n 0, 1) := by decide +kernel
theorem d_prog_55_method_8_1 : decode prog_55_method_8_code 1 = .ok (.getfield 19, 3) := by decide +kernel
theorem d_prog_55_method_8_4 : decode prog_55_method_8_code 4 = .ok (.areturn, 1) := by decide +kernel
theorem d_prog_55_method_9_0 : decode prog_55_method_9_code 0 = .ok (.aload_n 0, 1) := by decide +kernel
theorem d_prog_55_method_9_1 : decode prog_55_method_9_code 1 = .ok (.getfield 22, 3) := by decide +kernel
theorem d_prog_55_method_9_4 : decode prog_55_method_9_code 4 = .ok (.areturn, 1) := by decide +kernel
theorem d_prog_3_method_8_0 : decode prog_3_method_8_code 0 = .ok (.aload_n 0, 1) := by decide +kernel
theorem d_prog_3_method_8_1 : decode prog_3_method_8_code 1 = .ok (.getfield 7, 3) := by decide +kernel
theorem d_prog_3_method_8_4 : decode prog_3_method_8_code 4 = .ok (.areturn, 1) := by decide +kernel
theorem d_prog_3_method_9_0 : decode prog_3_method_9_code 0 = .ok (.aload_n 0, 1) := by decide +kernel
theorem d_prog_3_method_9_1 : decode prog_3_method_9_code 1 = .ok (.getfield 13, 3) := by decide +kernel
theorem d_prog_3_method_9_4 : decode prog_3_method_9_code 4 = .ok (.areturn, 1) := by decide +kernel
theorem d_jdk_31_method_10_0 : decode jdk_31_method_10_code 0 = .ok (.aload_n 0, 1) := by decide +kernel
theorem d_jdk_31_method_10_1 : decode jdk_31_method_10_code 1 = .ok (.ifnonnull 11, 3) := by decide +kernel
theorem d_jdk_31_method_10_12 : decode jdk_31_method_10_code 12 = .ok (.aload_n 0, 1) := by decide +kernel
theorem d_jdk_31_method_10_13 : decode jdk_31_method_10_code 13 = .ok (.areturn, 1) := by decide +kernel
theorem d_jdk_22_method_1_0 : decode jdk_22_method_1_code 0 = .ok (.aload_n 0, 1) := by decide +kernel
theorem d_jdk_22_method_1_1 : decode jdk_22_method_1_code 1 = .ok (.invokespecial 1, 3) := by decide +kernel
theorem d_jdk_22_method_1_4 : decode jdk_22_method_1_code 4 = .ok (.return_, 1) := by decide +kernel
theorem d_jdk_47_method_1_0 : decode jdk_47_method_1_code 0 = .ok (.aload_n 0, 1) := by decide +kernel
theorem d_jdk_47_method_1_1 : decode jdk_47_method_1_code 1 = .ok (.invokespecial 1, 3) := by decide +kernel
theorem d_jdk_47_method_1_4 : decode jdk_47_method_1_code 4 = .ok (.return_, 1) := by decide +kernel
theorem d_jdk_46_method_1_0 : decode jdk_46_method_1_code 0 = .ok (.aload_n 0, 1) := by decide +kernel
theorem d_jdk_46_method_1_1 : decode jdk_46_method_1_code 1 = .ok (.invokespecial 1, 3) := by decide +kernel
theorem d_jdk_46_method_1_4 : decode jdk_46_method_1_code 4 = .ok (.return_, 1) := by decide +kernel
theorem d_jdk_45_method_1_0 : decode jdk_45_method_1_code 0 = .ok (.aload_n 0, 1) := by decide +kernel
theorem d_jdk_45_method_1_1 : decode jdk_45_method_1_code 1 = .ok (.invokespecial 1, 3) := by decide +kernel
theorem d_jdk_45_method_1_4 : decode jdk_45_method_1_code 4 = .ok (.aload_n 0, 1) := by decide +kernel
theorem d_jdk_45_method_1_5 : decode jdk_45_method_1_code 5 = .ok (.aload_n 1, 1) := by decide +kernel
theorem d_jdk_45_method_1_6 : decode jdk_45_method_1_code 6 = .ok (.putfield 7, 3) := by decide +kernel
theorem d_jdk_45_method_1_9 : decode jdk_45_method_1_code 9 = .ok (.aload_n 0, 1) := by decide +kernel
theorem d_jdk_45_method_1_10 : decode jdk_45_method_1_code 10 = .ok (.iload_n 2, 1) := by decide +kernel
theorem d_jdk_45_method_1_11 : decode jdk_45_method_1_code 11 = .ok (.putfield 13, 3) := by decide +kernel
theorem d_jdk_45_method_1_14 : decode jdk_45_method_1_code 14 = .ok (.return_, 1) := by decide +kernel
theorem d_jdk_56_method_4_0 : decode jdk_56_method_4_code 0 = .ok (.aload_n 0, 1) := by decide +kernel
theorem d_jdk_56_method_4_1 : decode jdk_56_method_4_code 1 = .ok (.arraylength, 1) := by decide +kernel
theorem d_jdk_56_method_4_2 : decode jdk_56_method_4_code 2 = .ok (.anewarray 2, 3) := by decide +kernel
theorem d_jdk_56_method_4_5 : decode jdk_56_method_4_code 5 = .ok (.astore_n 1, 1) := by decide +kernel
theorem d_jdk_56_method_4_6 : decode jdk_56_method_4_code 6 = .ok (.iconst 0, 1) := by decide +kernel
theorem d_jdk_56_method_4_7 : decode jdk_56_method_4_code 7 = .ok (.istore_n 2, 1) := by decide +kernel
theorem d_jdk_56_method_4_8 : decode jdk_56_method_4_code 8 = .ok (.iload_n 2, 1) := by decide +kernel
theorem d_jdk_56_method_4_9 : decode jdk_56_method_4_code 9 = .ok (.aload_n 0, 1) := by decide +kernel
theorem d_jdk_56_method_4_10 : decode jdk_56_method_4_code 10 = .ok (.arraylength, 1) := by decide +kernel
theorem d_jdk_56_method_4_11 : decode jdk_56_method_4_code 11 = .ok (.if_icmp .ge 18, 3) := by decide +kernel
theorem d_jdk_56_method_4_29 : decode jdk_56_method_4_code 29 = .ok (.new 12, 3) := by decide +kernel
theorem d_jdk_56_method_4_32 : decode jdk_56_method_4_code 32 = .ok (.dup, 1) := by decide +kernel
theorem d_jdk_56_method_4_33 : decode jdk_56_method_4_code 33 = .ok (.aload_n 1, 1) := by decide +kernel
theorem d_jdk_56_method_4_34 : decode jdk_56_method_4_code 34 = .ok (.iconst 0, 1) := by decide +kernel
theorem d_jdk_56_method_4_35 : decode jdk_56_method_4_code 35 = .ok (.invokespecial 43, 3) := by decide +kernel
theorem d_jdk_56_method_4_38 : decode jdk_56_method_4_code 38 = .ok (.areturn, 1) := by decide +kernel
theorem d_jdk_56_method_4_14 : decode jdk_56_method_4_code 14 = .ok (.aload_n 1, 1) := by decide +kernel
theorem d_jdk_56_method_4_15 : decode jdk_56_method_4_code 15 = .ok (.iload_n 2, 1) := by decide +kernel
theorem d_jdk_56_method_4_16 : decode jdk_56_method_4_code 16 = .ok (.aload_n 0, 1) := by decide +kernel
theorem d_jdk_56_method_4_17 : decode jdk_56_method_4_code 17 = .ok (.iload_n 2, 1) := by decide +kernel
theorem d_jdk_56_method_4_18 : decode jdk_56_method_4_code 18 = .ok (.aaload, 1) := by decide +kernel
theorem d_jdk_56_method_4_19 : decode jdk_56_method_4_code 19 = .ok (.invokestatic 37, 3) := by decide +kernel
theorem d_jdk_56_method_4_22 : decode jdk_56_method_4_code 22 = .ok (.aastore, 1) := by decide +kernel
theorem d_jdk_56_method_4_23 : decode jdk_56_method_4_code 23 = .ok (.iinc 2 1, 3) := by decide +kernel
theorem d_jdk_56_method_4_26 : decode jdk_56_method_4_code 26 = .ok (.goto (-18), 3) := by decide +kernel
theorem d_jdk_40_method_47_0 : decode jdk_40_method_47_code 0 = .ok (.aload_n 0, 1) := by decide +kernel
theorem d_jdk_40_method_47_1 : decode jdk_40_method_47_code 1 = .ok (.arraylength, 1) := by decide +kernel
theorem d_jdk_40_method_47_2 : decode jdk_40_method_47_code 2 = .ok (.tableswitch 57 0 2 #[26, 32, 43], 26) := by decide +kernel
theorem d_jdk_40_method_47_59 : decode jdk_40_method_47_code 59 = .ok (.aload_n 0, 1) := by decide +kernel
theorem d_jdk_40_method_47_60 : decode jdk_40_method_47_code 60 = .ok (.invokestatic 109, 3) := by decide +kernel
theorem d_jdk_40_method_47_63 : decode jdk_40_method_47_code 63 = .ok (.areturn, 1) := by decide +kernel
theorem d_prog_33_method_5_0 : decode prog_33_method_5_code 0 = .ok (.bipush 11, 2) := by decide +kernel
theorem d_prog_33_method_5_2 : decode prog_33_method_5_code 2 = .ok (.anewarray 61, 3) := by decide +kernel
theorem d_prog_33_method_5_5 : decode prog_33_method_5_code 5 = .ok (.dup, 1) := by decide +kernel
theorem d_prog_33_method_5_6 : decode prog_33_method_5_code 6 = .ok (.iconst 0, 1) := by decide +kernel
theorem d_prog_33_method_5_7 : decode prog_33_method_5_code 7 = .ok (.aload_n 0, 1) := by decide +kernel
theorem d_prog_33_method_5_8 : decode prog_33_method_5_code 8 = .ok (.getfield 7, 3) := by decide +kernel
theorem d_prog_33_method_5_11 : decode prog_33_method_5_code 11 = .ok (.invokevirtual 69, 3) := by decide +kernel
theorem d_prog_33_method_5_14 : decode prog_33_method_5_code 14 = .ok (.aastore, 1) := by decide +kernel
theorem d_prog_33_method_5_15 : decode prog_33_method_5_code 15 = .ok (.dup, 1) := by decide +kernel
theorem d_prog_33_method_5_16 : decode prog_33_method_5_code 16 = .ok (.iconst 1, 1) := by decide +kernel
theorem d_prog_33_method_5_17 : decode prog_33_method_5_code 17 = .ok (.aload_n 0, 1) := by decide +kernel
theorem d_prog_33_method_5_18 : decode prog_33_method_5_code 18 = .ok (.getfield 7, 3) := by decide +kernel
theorem d_prog_33_method_5_21 : decode prog_33_method_5_code 21 = .ok (.invokevirtual 72, 3) := by decide +kernel
theorem d_prog_33_method_5_24 : decode prog_33_method_5_code 24 = .ok (.aastore, 1) := by decide +kernel
theorem d_prog_33_method_5_25 : decode prog_33_method_5_code 25 = .ok (.dup, 1) := by decide +kernel
theorem d_prog_33_method_5_26 : decode prog_33_method_5_code 26 = .ok (.iconst 2, 1) := by decide +kernel
theorem d_prog_33_method_5_27 : decode prog_33_method_5_code 27 = .ok (.aload_n 0, 1) := by decide +kernel
theorem d_prog_33_method_5_28 : decode prog_33_method_5_code 28 = .ok (.getfield 7, 3) := by decide +kernel
theorem d_prog_33_method_5_31 : decode prog_33_method_5_code 31 = .ok (.invokevirtual 75, 3) := by decide +kernel
theorem d_prog_33_method_5_34 : decode prog_33_method_5_code 34 = .ok (.aastore, 1) := by decide +kernel
theorem d_prog_33_method_5_35 : decode prog_33_method_5_code 35 = .ok (.dup, 1) := by decide +kernel
theorem d_prog_33_method_5_36 : decode prog_33_method_5_code 36 = .ok (.iconst 3, 1) := by decide +kernel
theorem d_prog_33_method_5_37 : decode prog_33_method_5_code 37 = .ok (.aload_n 0, 1) := by decide +kernel
theorem d_prog_33_method_5_38 : decode prog_33_method_5_code 38 = .ok (.getfield 7, 3) := by decide +kernel
theorem d_prog_33_method_5_41 : decode prog_33_method_5_code 41 = .ok (.invokevirtual 78, 3) := by decide +kernel
theorem d_prog_33_method_5_44 : decode prog_33_method_5_code 44 = .ok (.aastore, 1) := by decide +kernel
theorem d_prog_33_method_5_45 : decode prog_33_method_5_code 45 = .ok (.dup, 1) := by decide +kernel
theorem d_prog_33_method_5_46 : decode prog_33_method_5_code 46 = .ok (.iconst 4, 1) := by decide +kernel
theorem d_prog_33_method_5_47 : decode prog_33_method_5_code 47 = .ok (.aload_n 0, 1) := by decide +kernel
theorem d_prog_33_method_5_48 : decode prog_33_method_5_code 48 = .ok (.getfield 7, 3) := by decide +kernel
theorem d_prog_33_method_5_51 : decode prog_33_method_5_code 51 = .ok (.invokevirtual 81, 3) := by decide +kernel
theorem d_prog_33_method_5_54 : decode prog_33_method_5_code 54 = .ok (.aastore, 1) := by decide +kernel
theorem d_prog_33_method_5_55 : decode prog_33_method_5_code 55 = .ok (.dup, 1) := by decide +kernel
theorem d_prog_33_method_5_56 : decode prog_33_method_5_code 56 = .ok (.iconst 5, 1) := by decide +kernel
theorem d_prog_33_method_5_57 : decode prog_33_method_5_code 57 = .ok (.aload_n 0, 1) := by decide +kernel
theorem d_prog_33_method_5_58 : decode prog_33_method_5_code 58 = .ok (.getfield 13, 3) := by decide +kernel
theorem d_prog_33_method_5_61 : decode prog_33_method_5_code 61 = .ok (.invokevirtual 84, 3) := by decide +kernel
theorem d_prog_33_method_5_64 : decode prog_33_method_5_code 64 = .ok (.aastore, 1) := by decide +kernel
theorem d_prog_33_method_5_65 : decode prog_33_method_5_code 65 = .ok (.dup, 1) := by decide +kernel
theorem d_prog_33_method_5_66 : decode prog_33_method_5_code 66 = .ok (.bipush 6, 2) := by decide +kernel
theorem d_prog_33_method_5_68 : decode prog_33_method_5_code 68 = .ok (.aload_n 0, 1) := by decide +kernel
theorem d_prog_33_method_5_69 : decode prog_33_method_5_code 69 = .ok (.getfield 17, 3) := by decide +kernel
theorem d_prog_33_method_5_72 : decode prog_33_method_5_code 72 = .ok (.aastore, 1) := by decide +kernel
theorem d_prog_33_method_5_73 : decode prog_33_method_5_code 73 = .ok (.dup, 1) := by decide +kernel
theorem d_prog_33_method_5_74 : decode prog_33_method_5_code 74 = .ok (.bipush 7, 2) := by decide +kernel
theorem d_prog_33_method_5_76 : decode prog_33_method_5_code 76 = .ok (.aload_n 0, 1) := by decide +kernel
theorem d_prog_33_method_5_77 : decode prog_33_method_5_code 77 = .ok (.getfield 21, 3) := by decide +kernel
theorem d_prog_33_method_5_80 : decode prog_33_method_5_code 80 = .ok (.aastore, 1) := by decide +kernel
theorem d_prog_33_method_5_81 : decode prog_33_method_5_code 81 = .ok (.dup, 1) := by decide +kernel
theorem d_prog_33_method_5_82 : decode prog_33_method_5_code 82 = .ok (.bipush 8, 2) := by decide +kernel
theorem d_prog_33_method_5_84 : decode prog_33_method_5_code 84 = .ok (.aload_n 0, 1) := by decide +kernel
theorem d_prog_33_method_5_85 : decode prog_33_method_5_code 85 = .ok (.getfield 24, 3) := by decide +kernel
theorem d_prog_33_method_5_88 : decode prog_33_method_5_code 88 = .ok (.aastore, 1) := by decide +kernel
theorem d_prog_33_method_5_89 : decode prog_33_method_5_code 89 = .ok (.dup, 1) := by decide +kernel
theorem d_prog_33_method_5_90 : decode prog_33_method_5_code 90 = .ok (.bipush 9, 2) := by decide +kernel
theorem d_prog_33_method_5_92 : decode prog_33_method_5_code 92 = .ok (.aload_n 0, 1) := by decide +kernel
theorem d_prog_33_method_5_93 : decode prog_33_method_5_code 93 = .ok (.getfield 13, 3) := by decide +kernel
theorem d_prog_33_method_5_96 : decode prog_33_method_5_code 96 = .ok (.invokevirtual 87, 3) := by decide +kernel
theorem d_prog_33_method_5_99 : decode prog_33_method_5_code 99 = .ok (.aastore, 1) := by decide +kernel
theorem d_prog_33_method_5_100 : decode prog_33_method_5_code 100 = .ok (.dup, 1) := by decide +kernel
theorem d_prog_33_method_5_101 : decode prog_33_method_5_code 101 = .ok (.bipush 10, 2) := by decide +kernel
theorem d_prog_33_method_5_103 : decode prog_33_method_5_code 103 = .ok (.aload_n 0, 1) := by decide +kernel
theorem d_prog_33_method_5_104 : decode prog_33_method_5_code 104 = .ok (.getfield 27, 3) := by decide +kernel
theorem d_prog_33_method_5_107 : decode prog_33_method_5_code 107 = .ok (.aastore, 1) := by decide +kernel
theorem d_prog_33_method_5_108 : decode prog_33_method_5_code 108 = .ok (.invokestatic 90, 3) := by decide +kernel
theorem d_prog_33_method_5_111 : decode prog_33_method_5_code 111 = .ok (.areturn, 1) := by decide +kernel
theorem d_jdk_45_method_3_0 : decode jdk_45_method_3_code 0 = .ok (.aload_n 0, 1) := by decide +kernel
theorem d_jdk_45_method_3_1 : decode jdk_45_method_3_code 1 = .ok (.getfield 7, 3) := by decide +kernel
theorem d_jdk_45_method_3_4 : decode jdk_45_method_3_code 4 = .ok (.arraylength, 1) := by decide +kernel
theorem d_jdk_45_method_3_5 : decode jdk_45_method_3_code 5 = .ok (.ireturn, 1) := by decide +kernel
theorem d_jdk_45_method_4_0 : decode jdk_45_method_4_code 0 = .ok (.aload_n 0, 1) := by decide +kernel
theorem d_jdk_45_method_4_1 : decode jdk_45_method_4_code 1 = .ok (.getfield 7, 3) := by decide +kernel
theorem d_jdk_45_method_4_4 : decode jdk_45_method_4_code 4 = .ok (.iload_n 1, 1) := by decide +kernel
theorem d_jdk_45_method_4_5 : decode jdk_45_method_4_code 5 = .ok (.aaload, 1) := by decide +kernel
theorem d_jdk_45_method_4_6 : decode jdk_45_method_4_code 6 = .ok (.areturn, 1) := by decide +kernel
theorem d_jdk_42_method_66_0 : decode jdk_42_method_66_code 0 = .ok (.aload_n 0, 1) := by decide +kernel
theorem d_jdk_42_method_66_1 : decode jdk_42_method_66_code 1 = .ok (.aload_n 1, 1) := by decide +kernel
theorem d_jdk_42_method_66_2 : decode jdk_42_method_66_code 2 = .ok (.if_acmp .ne 5, 3) := by decide +kernel
theorem d_jdk_42_method_66_5 : decode jdk_42_method_66_code 5 = .ok (.iconst 1, 1) := by decide +kernel
theorem d_jdk_42_method_66_6 : decode jdk_42_method_66_code 6 = .ok (.ireturn, 1) := by decide +kernel
theorem pd0 : parseMethodDescriptor "()V" = some ⟨[], none⟩ := by decide +kernel
theorem pd1 : parseMethodDescriptor "([Ljava/lang/Object;Z)V" = some ⟨[(.array (.object "java/lang/Object")), .boolean], none⟩ := by decide +kernel
theorem pd2 : parseMethodDescriptor "(Ljava/lang/Object;)Ljava/lang/Object;" = some ⟨[(.object "java/lang/Object")], some (.object "java/lang/Object")⟩ := by decide +kernel
theorem pd3 : parseMethodDescriptor "([Ljava/lang/Object;)Ljava/util/List;" = some ⟨[(.array (.object "java/lang/Object"))], some (.object "java/util/List")⟩ := by decide +kernel
theorem pd4 : parseMethodDescriptor "()Ljava/lang/String;" = some ⟨[], some (.object "java/lang/String")⟩ := by decide +kernel
theorem pd5 : parseMethodDescriptor "(JI)Ljava/lang/String;" = some ⟨[.long, .int], some (.object "java/lang/String")⟩ := by decide +kernel
theorem pd6 : parseMethodDescriptor "(Ljava/lang/String;Ljava/lang/String;Ljava/lang/String;Ljava/lang/String;Ljava/lang/String;)V" = some ⟨[(.object "java/lang/String"), (.object "java/lang/String"), (.object "java/lang/String"), (.object "java/lang/String"), (.object "java/lang/String")], none⟩ := by decide +kernel
theorem pd7 : parseMethodDescriptor "(Ljava/lang/String;Ljava/lang/String;)V" = some ⟨[(.object "java/lang/String"), (.object "java/lang/String")], none⟩ := by decide +kernel
theorem pd8 : parseMethodDescriptor "(Lcom/example/pledgewire/pledgewire/Reference$AssetAccount;Lcom/example/pledgewire/pledgewire/AssetKind;Ljava/lang/String;Ljava/lang/String;Ljava/lang/String;Ljava/lang/String;)V" = some ⟨[(.object "com/example/pledgewire/pledgewire/Reference$AssetAccount"), (.object "com/example/pledgewire/pledgewire/AssetKind"), (.object "java/lang/String"), (.object "java/lang/String"), (.object "java/lang/String"), (.object "java/lang/String")], none⟩ := by decide +kernel
theorem pd9 : parseMethodDescriptor "()Ljava/util/List;" = some ⟨[], some (.object "java/util/List")⟩ := by decide +kernel
theorem pd10 : parseMethodDescriptor "()I" = some ⟨[], some .int⟩ := by decide +kernel
theorem pd11 : parseMethodDescriptor "(I)Ljava/lang/Object;" = some ⟨[.int], some (.object "java/lang/Object")⟩ := by decide +kernel
theorem pd12 : parseMethodDescriptor "(Ljava/lang/Object;)Z" = some ⟨[(.object "java/lang/Object")], some .boolean⟩ := by decide +kernel
theorem pn0 : plainName "com/example/pledgewire/pledgewire/HoldingCellsPinLaw" = true := by first | (simp [plainName, overriddenIn]; done) | decide +kernel
theorem pn1 : plainName "java/lang/Record" = true := by first | (simp [plainName, overriddenIn]; done) | decide +kernel
theorem pn2 : plainName "com/example/pledgewire/pledgewire/Reference$AssetAccount" = true := by first | (simp [plainName, overriddenIn]; done) | decide +kernel
theorem pn3 : plainName "com/example/pledgewire/pledgewire/AssetKind" = true := by first | (simp [plainName, overriddenIn]; done) | decide +kernel
theorem pn4 : plainName "com/example/pledgewire/pledgewire/Holding" = true := by first | (simp [plainName, overriddenIn]; done) | decide +kernel
theorem pn5 : plainName "java/util/Objects" = true := by first | (simp [plainName, overriddenIn]; done) | decide +kernel
theorem pn6 : plainName "java/util/AbstractCollection" = true := by first | (simp [plainName, overriddenIn]; done) | decide +kernel
theorem pn7 : plainName "java/util/ImmutableCollections$AbstractImmutableCollection" = true := by first | (simp [plainName, overriddenIn]; done) | decide +kernel
theorem pn8 : plainName "java/util/ImmutableCollections$AbstractImmutableList" = true := by first | (simp [plainName, overriddenIn]; done) | decide +kernel
theorem pn9 : plainName "java/util/ImmutableCollections$ListN" = true := by first | (simp [plainName, overriddenIn]; done) | decide +kernel
theorem pn10 : plainName "java/util/ImmutableCollections" = true := by first | (simp [plainName, overriddenIn]; done) | decide +kernel
theorem pn11 : plainName "java/util/List" = true := by first | (simp [plainName, overriddenIn]; done) | decide +kernel
theorem pn12 : plainName "java/lang/String" = true := by first | (simp [plainName, overriddenIn]; done) | decide +kernel
theorem W0 {Z : State} {a0 : Array Value} (hw : ∀ d ∈ tables_1, d.before a0 Z = true) : (Jvm.Cond.methodLink "com/example/pledgewire/pledgewire/HoldingCellsPinLaw" (7 : Nat) ({ cls := "com/example/pledgewire/pledgewire/HoldingCellsPinLaw", name := "s", desc := "(JI)Ljava/lang/String;" } : Jvm.MethodName)).before a0 Z = true := hw _ (List.mem_of_getElem? (i := 0) rfl)
theorem W1 {Z : State} {a0 : Array Value} (hw : ∀ d ∈ tables_1, d.before a0 Z = true) : (Jvm.Cond.static ({ cls := "com/example/pledgewire/pledgewire/HoldingCellsPinLaw", name := "s", desc := "(JI)Ljava/lang/String;" } : Jvm.MethodName)).before a0 Z = true := hw _ (List.mem_of_getElem? (i := 1) rfl)
theorem W2 {Z : State} {a0 : Array Value} (hw : ∀ d ∈ tables_1, d.before a0 Z = true) : (Jvm.Cond.initialized "com/example/pledgewire/pledgewire/HoldingCellsPinLaw").before a0 Z = true := hw _ (List.mem_of_getElem? (i := 2) rfl)
theorem W3 {Z : State} {a0 : Array Value} (hw : ∀ d ∈ tables_1, d.before a0 Z = true) : (Jvm.Cond.code ({ cls := "com/example/pledgewire/pledgewire/HoldingCellsPinLaw", name := "s", desc := "(JI)Ljava/lang/String;" } : Jvm.MethodName) method_3_code (4 : Nat) (Option.some (Jvm.ClassFile.FieldType.object "java/lang/String"))).before a0 Z = true := hw _ (List.mem_of_getElem? (i := 3) rfl)
theorem W4 {Z : State} {a0 : Array Value} (hw : ∀ d ∈ tables_1, d.before a0 Z = true) : (Jvm.Cond.arrayClass Jvm.ClassFile.FieldType.char).before a0 Z = true := hw _ (List.mem_of_getElem? (i := 4) rfl)
theorem W5 {Z : State} {a0 : Array Value} (hw : ∀ d ∈ tables_1, d.before a0 Z = true) : (Jvm.Cond.constantLong "com/example/pledgewire/pledgewire/HoldingCellsPinLaw" (48 : Nat) (255 : Int64)).before a0 Z = true := hw _ (List.mem_of_getElem? (i := 5) rfl)
theorem W6 {Z : State} {a0 : Array Value} (hw : ∀ d ∈ tables_1, d.before a0 Z = true) : (Jvm.Cond.classLink "com/example/pledgewire/pledgewire/HoldingCellsPinLaw" (42 : Nat) "java/lang/String").before a0 Z = true := hw _ (List.mem_of_getElem? (i := 6) rfl)
theorem W7 {Z : State} {a0 : Array Value} (hw : ∀ d ∈ tables_1, d.before a0 Z = true) : (Jvm.Cond.instantiable "java/lang/String" (4 : Nat)).before a0 Z = true := hw _ (List.mem_of_getElem? (i := 7) rfl)
theorem W8 {Z : State} {a0 : Array Value} (hw : ∀ d ∈ tables_1, d.before a0 Z = true) : (Jvm.Cond.initialized "java/lang/String").before a0 Z = true := hw _ (List.mem_of_getElem? (i := 8) rfl)
theorem W9 {Z : State} {a0 : Array Value} (hw : ∀ d ∈ tables_1, d.before a0 Z = true) : (Jvm.Cond.methodLink "com/example/pledgewire/pledgewire/HoldingCellsPinLaw" (50 : Nat) ({ cls := "java/lang/String", name := "<init>", desc := "([C)V" } : Jvm.MethodName)).before a0 Z = true := hw _ (List.mem_of_getElem? (i := 9) rfl)
theorem W10 {Z : State} {a0 : Array Value} (hw : ∀ d ∈ tables_1, d.before a0 Z = true) : (Jvm.Cond.instanceMethod ({ cls := "java/lang/String", name := "<init>", desc := "([C)V" } : Jvm.MethodName)).before a0 Z = true := hw _ (List.mem_of_getElem? (i := 10) rfl)
theorem W11 {Z : State} {a0 : Array Value} (hw : ∀ d ∈ tables_1, d.before a0 Z = true) : (Jvm.Cond.code ({ cls := "java/lang/String", name := "<init>", desc := "([C)V" } : Jvm.MethodName) jdk_42_method_3_code (2 : Nat) (Option.none : Option Jvm.ClassFile.FieldType)).before a0 Z = true := hw _ (List.mem_of_getElem? (i := 11) rfl)
theorem W17 {Z : State} {a0 : Array Value} (hw : ∀ d ∈ tables_1, d.before a0 Z = true) : (Jvm.Cond.instanceMethod ({ cls := "java/lang/Object", name := "<init>", desc := "()V" } : Jvm.MethodName)).before a0 Z = true := hw _ (List.mem_of_getElem? (i := 17) rfl)
theorem W18 {Z : State} {a0 : Array Value} (hw : ∀ d ∈ tables_1, d.before a0 Z = true) : (Jvm.Cond.code ({ cls := "java/lang/Object", name := "<init>", desc := "()V" } : Jvm.MethodName) object_method_1_code (1 : Nat) (Option.none : Option Jvm.ClassFile.FieldType)).before a0 Z = true := hw _ (List.mem_of_getElem? (i := 18) rfl)
theorem W32 {Z : State} {a0 : Array Value} (hw : ∀ d ∈ tables_1, d.before a0 Z = true) : (Jvm.Cond.laysFinal "java/lang/String" "java/lang/String" "coder" "B").before a0 Z = true := hw _ (List.mem_of_getElem? (i := 32) rfl)
theorem W34 {Z : State} {a0 : Array Value} (hw : ∀ d ∈ tables_1, d.before a0 Z = true) : (Jvm.Cond.laysFinal "java/lang/String" "java/lang/String" "value" "[B").before a0 Z = true := hw _ (List.mem_of_getElem? (i := 34) rfl)
theorem W35 {Z : State} {a0 : Array Value} (hw : ∀ d ∈ tables_1, d.before a0 Z = true) : (Jvm.Cond.classLink "com/example/pledgewire/pledgewire/HoldingCellsPinLaw" (13 : Nat) "com/example/pledgewire/pledgewire/Holding").before a0 Z = true := hw _ (List.mem_of_getElem? (i := 35) rfl)
theorem W36 {Z : State} {a0 : Array Value} (hw : ∀ d ∈ tables_1, d.before a0 Z = true) : (Jvm.Cond.instantiable "com/example/pledgewire/pledgewire/Holding" (6 : Nat)).before a0 Z = true := hw _ (List.mem_of_getElem? (i := 36) rfl)
theorem W37 {Z : State} {a0 : Array Value} (hw : ∀ d ∈ tables_1, d.before a0 Z = true) : (Jvm.Cond.initialized "com/example/pledgewire/pledgewire/Holding").before a0 Z = true := hw _ (List.mem_of_getElem? (i := 37) rfl)
theorem W38 {Z : State} {a0 : Array Value} (hw : ∀ d ∈ tables_1, d.before a0 Z = true) : (Jvm.Cond.classLink "com/example/pledgewire/pledgewire/HoldingCellsPinLaw" (15 : Nat) "com/example/pledgewire/pledgewire/Reference$AssetAccount").before a0 Z = true := hw _ (List.mem_of_getElem? (i := 38) rfl)
theorem W39 {Z : State} {a0 : Array Value} (hw : ∀ d ∈ tables_1, d.before a0 Z = true) : (Jvm.Cond.instantiable "com/example/pledgewire/pledgewire/Reference$AssetAccount" (5 : Nat)).before a0 Z = true := hw _ (List.mem_of_getElem? (i := 39) rfl)
theorem W40 {Z : State} {a0 : Array Value} (hw : ∀ d ∈ tables_1, d.before a0 Z = true) : (Jvm.Cond.initialized "com/example/pledgewire/pledgewire/Reference$AssetAccount").before a0 Z = true := hw _ (List.mem_of_getElem? (i := 40) rfl)
theorem W41 {Z : State} {a0 : Array Value} (hw : ∀ d ∈ tables_1, d.before a0 Z = true) : (Jvm.Cond.methodLink "com/example/pledgewire/pledgewire/HoldingCellsPinLaw" (17 : Nat) ({ cls := "com/example/pledgewire/pledgewire/Reference$AssetAccount", name := "<init>", desc := "(Ljava/lang/String;Ljava/lang/String;Ljava/lang/String;Ljava/lang/String;Ljava/lang/String;)V" } : Jvm.MethodName)).before a0 Z = true := hw _ (List.mem_of_getElem? (i := 41) rfl)
theorem W42 {Z : State} {a0 : Array Value} (hw : ∀ d ∈ tables_1, d.before a0 Z = true) : (Jvm.Cond.instanceMethod ({ cls := "com/example/pledgewire/pledgewire/Reference$AssetAccount", name := "<init>", desc := "(Ljava/lang/String;Ljava/lang/String;Ljava/lang/String;Ljava/lang/String;Ljava/lang/String;)V" } : Jvm.MethodName)).before a0 Z = true := hw _ (List.mem_of_getElem? (i := 42) rfl)
theorem W43 {Z : State} {a0 : Array Value} (hw : ∀ d ∈ tables_1, d.before a0 Z = true) : (Jvm.Cond.code ({ cls := "com/example/pledgewire/pledgewire/Reference$AssetAccount", name := "<init>", desc := "(Ljava/lang/String;Ljava/lang/String;Ljava/lang/String;Ljava/lang/String;Ljava/lang/String;)V" } : Jvm.MethodName) prog_55_method_1_code (6 : Nat) (Option.none : Option Jvm.ClassFile.FieldType)).before a0 Z = true := hw _ (List.mem_of_getElem? (i := 43) rfl)
theorem W44 {Z : State} {a0 : Array Value} (hw : ∀ d ∈ tables_1, d.before a0 Z = true) : (Jvm.Cond.methodLink "com/example/pledgewire/pledgewire/Reference$AssetAccount" (1 : Nat) ({ cls := "java/lang/Record", name := "<init>", desc := "()V" } : Jvm.MethodName)).before a0 Z = true := hw _ (List.mem_of_getElem? (i := 44) rfl)
theorem W45 {Z : State} {a0 : Array Value} (hw : ∀ d ∈ tables_1, d.before a0 Z = true) : (Jvm.Cond.instanceMethod ({ cls := "java/lang/Record", name := "<init>", desc := "()V" } : Jvm.MethodName)).before a0 Z = true := hw _ (List.mem_of_getElem? (i := 45) rfl)
theorem W47 {Z : State} {a0 : Array Value} (hw : ∀ d ∈ tables_1, d.before a0 Z = true) : (Jvm.Cond.initialized "java/lang/Record").before a0 Z = true := hw _ (List.mem_of_getElem? (i := 47) rfl)
theorem W48 {Z : State} {a0 : Array Value} (hw : ∀ d ∈ tables_1, d.before a0 Z = true) : (Jvm.Cond.code ({ cls := "java/lang/Record", name := "<init>", desc := "()V" } : Jvm.MethodName) jdk_30_method_1_code (1 : Nat) (Option.none : Option Jvm.ClassFile.FieldType)).before a0 Z = true := hw _ (List.mem_of_getElem? (i := 48) rfl)
theorem W49 {Z : State} {a0 : Array Value} (hw : ∀ d ∈ tables_1, d.before a0 Z = true) : (Jvm.Cond.methodLink "java/lang/Record" (1 : Nat) ({ cls := "java/lang/Object", name := "<init>", desc := "()V" } : Jvm.MethodName)).before a0 Z = true := hw _ (List.mem_of_getElem? (i := 49) rfl)
theorem W50 {Z : State} {a0 : Array Value} (hw : ∀ d ∈ tables_1, d.before a0 Z = true) : (Jvm.Cond.fieldLink "com/example/pledgewire/pledgewire/Reference$AssetAccount" (7 : Nat) "com/example/pledgewire/pledgewire/Reference$AssetAccount" "cmf" "Ljava/lang/String;").before a0 Z = true := hw _ (List.mem_of_getElem? (i := 50) rfl)
theorem W51 {Z : State} {a0 : Array Value} (hw : ∀ d ∈ tables_1, d.before a0 Z = true) : (Jvm.Cond.laysFinal "com/example/pledgewire/pledgewire/Reference$AssetAccount" "com/example/pledgewire/pledgewire/Reference$AssetAccount" "cmf" "Ljava/lang/String;").before a0 Z = true := hw _ (List.mem_of_getElem? (i := 51) rfl)
theorem W52 {Z : State} {a0 : Array Value} (hw : ∀ d ∈ tables_1, d.before a0 Z = true) : (Jvm.Cond.fieldLink "com/example/pledgewire/pledgewire/Reference$AssetAccount" (13 : Nat) "com/example/pledgewire/pledgewire/Reference$AssetAccount" "aa" "Ljava/lang/String;").before a0 Z = true := hw _ (List.mem_of_getElem? (i := 52) rfl)
theorem W53 {Z : State} {a0 : Array Value} (hw : ∀ d ∈ tables_1, d.before a0 Z = true) : (Jvm.Cond.laysFinal "com/example/pledgewire/pledgewire/Reference$AssetAccount" "com/example/pledgewire/pledgewire/Reference$AssetAccount" "aa" "Ljava/lang/String;").before a0 Z = true := hw _ (List.mem_of_getElem? (i := 53) rfl)
theorem W54 {Z : State} {a0 : Array Value} (hw : ∀ d ∈ tables_1, d.before a0 Z = true) : (Jvm.Cond.fieldLink "com/example/pledgewire/pledgewire/Reference$AssetAccount" (16 : Nat) "com/example/pledgewire/pledgewire/Reference$AssetAccount" "fseg" "Ljava/lang/String;").before a0 Z = true := hw _ (List.mem_of_getElem? (i := 54) rfl)
theorem W55 {Z : State} {a0 : Array Value} (hw : ∀ d ∈ tables_1, d.before a0 Z = true) : (Jvm.Cond.laysFinal "com/example/pledgewire/pledgewire/Reference$AssetAccount" "com/example/pledgewire/pledgewire/Reference$AssetAccount" "fseg" "Ljava/lang/String;").before a0 Z = true := hw _ (List.mem_of_getElem? (i := 55) rfl)
theorem W56 {Z : State} {a0 : Array Value} (hw : ∀ d ∈ tables_1, d.before a0 Z = true) : (Jvm.Cond.fieldLink "com/example/pledgewire/pledgewire/Reference$AssetAccount" (19 : Nat) "com/example/pledgewire/pledgewire/Reference$AssetAccount" "acctType" "Ljava/lang/String;").before a0 Z = true := hw _ (List.mem_of_getElem? (i := 56) rfl)
theorem W57 {Z : State} {a0 : Array Value} (hw : ∀ d ∈ tables_1, d.before a0 Z = true) : (Jvm.Cond.laysFinal "com/example/pledgewire/pledgewire/Reference$AssetAccount" "com/example/pledgewire/pledgewire/Reference$AssetAccount" "acctType" "Ljava/lang/String;").before a0 Z = true := hw _ (List.mem_of_getElem? (i := 57) rfl)
theorem W58 {Z : State} {a0 : Array Value} (hw : ∀ d ∈ tables_1, d.before a0 Z = true) : (Jvm.Cond.fieldLink "com/example/pledgewire/pledgewire/Reference$AssetAccount" (22 : Nat) "com/example/pledgewire/pledgewire/Reference$AssetAccount" "busFunc" "Ljava/lang/String;").before a0 Z = true := hw _ (List.mem_of_getElem? (i := 58) rfl)
theorem W59 {Z : State} {a0 : Array Value} (hw : ∀ d ∈ tables_1, d.before a0 Z = true) : (Jvm.Cond.laysFinal "com/example/pledgewire/pledgewire/Reference$AssetAccount" "com/example/pledgewire/pledgewire/Reference$AssetAccount" "busFunc" "Ljava/lang/String;").before a0 Z = true := hw _ (List.mem_of_getElem? (i := 59) rfl)
theorem W60 {Z : State} {a0 : Array Value} (hw : ∀ d ∈ tables_1, d.before a0 Z = true) : (Jvm.Cond.classLink "com/example/pledgewire/pledgewire/HoldingCellsPinLaw" (20 : Nat) "com/example/pledgewire/pledgewire/AssetKind").before a0 Z = true := hw _ (List.mem_of_getElem? (i := 60) rfl)
theorem W61 {Z : State} {a0 : Array Value} (hw : ∀ d ∈ tables_1, d.before a0 Z = true) : (Jvm.Cond.instantiable "com/example/pledgewire/pledgewire/AssetKind" (2 : Nat)).before a0 Z = true := hw _ (List.mem_of_getElem? (i := 61) rfl)
theorem W62 {Z : State} {a0 : Array Value} (hw : ∀ d ∈ tables_1, d.before a0 Z = true) : (Jvm.Cond.initialized "com/example/pledgewire/pledgewire/AssetKind").before a0 Z = true := hw _ (List.mem_of_getElem? (i := 62) rfl)
theorem W63 {Z : State} {a0 : Array Value} (hw : ∀ d ∈ tables_1, d.before a0 Z = true) : (Jvm.Cond.methodLink "com/example/pledgewire/pledgewire/HoldingCellsPinLaw" (22 : Nat) ({ cls := "com/example/pledgewire/pledgewire/AssetKind", name := "<init>", desc := "(Ljava/lang/String;Ljava/lang/String;)V" } : Jvm.MethodName)).before a0 Z = true := hw _ (List.mem_of_getElem? (i := 63) rfl)
theorem W64 {Z : State} {a0 : Array Value} (hw : ∀ d ∈ tables_1, d.before a0 Z = true) : (Jvm.Cond.instanceMethod ({ cls := "com/example/pledgewire/pledgewire/AssetKind", name := "<init>", desc := "(Ljava/lang/String;Ljava/lang/String;)V" } : Jvm.MethodName)).before a0 Z = true := hw _ (List.mem_of_getElem? (i := 64) rfl)
theorem W65 {Z : State} {a0 : Array Value} (hw : ∀ d ∈ tables_1, d.before a0 Z = true) : (Jvm.Cond.code ({ cls := "com/example/pledgewire/pledgewire/AssetKind", name := "<init>", desc := "(Ljava/lang/String;Ljava/lang/String;)V" } : Jvm.MethodName) prog_3_method_1_code (3 : Nat) (Option.none : Option Jvm.ClassFile.FieldType)).before a0 Z = true := hw _ (List.mem_of_getElem? (i := 65) rfl)
theorem W66 {Z : State} {a0 : Array Value} (hw : ∀ d ∈ tables_1, d.before a0 Z = true) : (Jvm.Cond.methodLink "com/example/pledgewire/pledgewire/AssetKind" (1 : Nat) ({ cls := "java/lang/Record", name := "<init>", desc := "()V" } : Jvm.MethodName)).before a0 Z = true := hw _ (List.mem_of_getElem? (i := 66) rfl)
theorem W67 {Z : State} {a0 : Array Value} (hw : ∀ d ∈ tables_1, d.before a0 Z = true) : (Jvm.Cond.fieldLink "com/example/pledgewire/pledgewire/AssetKind" (7 : Nat) "com/example/pledgewire/pledgewire/AssetKind" "type" "Ljava/lang/String;").before a0 Z = true := hw _ (List.mem_of_getElem? (i := 67) rfl)
theorem W68 {Z : State} {a0 : Array Value} (hw : ∀ d ∈ tables_1, d.before a0 Z = true) : (Jvm.Cond.laysFinal "com/example/pledgewire/pledgewire/AssetKind" "com/example/pledgewire/pledgewire/AssetKind" "type" "Ljava/lang/String;").before a0 Z = true := hw _ (List.mem_of_getElem? (i := 68) rfl)
theorem W69 {Z : State} {a0 : Array Value} (hw : ∀ d ∈ tables_1, d.before a0 Z = true) : (Jvm.Cond.fieldLink "com/example/pledgewire/pledgewire/AssetKind" (13 : Nat) "com/example/pledgewire/pledgewire/AssetKind" "ccy" "Ljava/lang/String;").before a0 Z = true := hw _ (List.mem_of_getElem? (i := 69) rfl)
theorem W70 {Z : State} {a0 : Array Value} (hw : ∀ d ∈ tables_1, d.before a0 Z = true) : (Jvm.Cond.laysFinal "com/example/pledgewire/pledgewire/AssetKind" "com/example/pledgewire/pledgewire/AssetKind" "ccy" "Ljava/lang/String;").before a0 Z = true := hw _ (List.mem_of_getElem? (i := 70) rfl)
theorem W71 {Z : State} {a0 : Array Value} (hw : ∀ d ∈ tables_1, d.before a0 Z = true) : (Jvm.Cond.methodLink "com/example/pledgewire/pledgewire/HoldingCellsPinLaw" (25 : Nat) ({ cls := "com/example/pledgewire/pledgewire/Holding", name := "<init>", desc := "(Lcom/example/pledgewire/pledgewire/Reference$AssetAccount;Lcom/example/pledgewire/pledgewire/AssetKind;Ljava/lang/String;Ljava/lang/String;Ljava/lang/String;Ljava/lang/String;)V" } : Jvm.MethodName)).before a0 Z = true := hw _ (List.mem_of_getElem? (i := 71) rfl)
theorem W72 {Z : State} {a0 : Array Value} (hw : ∀ d ∈ tables_1, d.before a0 Z = true) : (Jvm.Cond.instanceMethod ({ cls := "com/example/pledgewire/pledgewire/Holding", name := "<init>", desc := "(Lcom/example/pledgewire/pledgewire/Reference$AssetAccount;Lcom/example/pledgewire/pledgewire/AssetKind;Ljava/lang/String;Ljava/lang/String;Ljava/lang/String;Ljava/lang/String;)V" } : Jvm.MethodName)).before a0 Z = true := hw _ (List.mem_of_getElem? (i := 72) rfl)
theorem W73 {Z : State} {a0 : Array Value} (hw : ∀ d ∈ tables_1, d.before a0 Z = true) : (Jvm.Cond.code ({ cls := "com/example/pledgewire/pledgewire/Holding", name := "<init>", desc := "(Lcom/example/pledgewire/pledgewire/Reference$AssetAccount;Lcom/example/pledgewire/pledgewire/AssetKind;Ljava/lang/String;Ljava/lang/String;Ljava/lang/String;Ljava/lang/String;)V" } : Jvm.MethodName) prog_33_method_1_code (7 : Nat) (Option.none : Option Jvm.ClassFile.FieldType)).before a0 Z = true := hw _ (List.mem_of_getElem? (i := 73) rfl)
theorem W74 {Z : State} {a0 : Array Value} (hw : ∀ d ∈ tables_1, d.before a0 Z = true) : (Jvm.Cond.methodLink "com/example/pledgewire/pledgewire/Holding" (1 : Nat) ({ cls := "java/lang/Record", name := "<init>", desc := "()V" } : Jvm.MethodName)).before a0 Z = true := hw _ (List.mem_of_getElem? (i := 74) rfl)
theorem W75 {Z : State} {a0 : Array Value} (hw : ∀ d ∈ tables_1, d.before a0 Z = true) : (Jvm.Cond.fieldLink "com/example/pledgewire/pledgewire/Holding" (7 : Nat) "com/example/pledgewire/pledgewire/Holding" "account" "Lcom/example/pledgewire/pledgewire/Reference$AssetAccount;").before a0 Z = true := hw _ (List.mem_of_getElem? (i := 75) rfl)
theorem W76 {Z : State} {a0 : Array Value} (hw : ∀ d ∈ tables_1, d.before a0 Z = true) : (Jvm.Cond.laysFinal "com/example/pledgewire/pledgewire/Holding" "com/example/pledgewire/pledgewire/Holding" "account" "Lcom/example/pledgewire/pledgewire/Reference$AssetAccount;").before a0 Z = true := hw _ (List.mem_of_getElem? (i := 76) rfl)
theorem W77 {Z : State} {a0 : Array Value} (hw : ∀ d ∈ tables_1, d.before a0 Z = true) : (Jvm.Cond.fieldLink "com/example/pledgewire/pledgewire/Holding" (13 : Nat) "com/example/pledgewire/pledgewire/Holding" "kind" "Lcom/example/pledgewire/pledgewire/AssetKind;").before a0 Z = true := hw _ (List.mem_of_getElem? (i := 77) rfl)
theorem W78 {Z : State} {a0 : Array Value} (hw : ∀ d ∈ tables_1, d.before a0 Z = true) : (Jvm.Cond.laysFinal "com/example/pledgewire/pledgewire/Holding" "com/example/pledgewire/pledgewire/Holding" "kind" "Lcom/example/pledgewire/pledgewire/AssetKind;").before a0 Z = true := hw _ (List.mem_of_getElem? (i := 78) rfl)
theorem W79 {Z : State} {a0 : Array Value} (hw : ∀ d ∈ tables_1, d.before a0 Z = true) : (Jvm.Cond.fieldLink "com/example/pledgewire/pledgewire/Holding" (17 : Nat) "com/example/pledgewire/pledgewire/Holding" "cusip" "Ljava/lang/String;").before a0 Z = true := hw _ (List.mem_of_getElem? (i := 79) rfl)
theorem W80 {Z : State} {a0 : Array Value} (hw : ∀ d ∈ tables_1, d.before a0 Z = true) : (Jvm.Cond.laysFinal "com/example/pledgewire/pledgewire/Holding" "com/example/pledgewire/pledgewire/Holding" "cusip" "Ljava/lang/String;").before a0 Z = true := hw _ (List.mem_of_getElem? (i := 80) rfl)
theorem W81 {Z : State} {a0 : Array Value} (hw : ∀ d ∈ tables_1, d.before a0 Z = true) : (Jvm.Cond.fieldLink "com/example/pledgewire/pledgewire/Holding" (21 : Nat) "com/example/pledgewire/pledgewire/Holding" "isin" "Ljava/lang/String;").before a0 Z = true := hw _ (List.mem_of_getElem? (i := 81) rfl)
theorem W82 {Z : State} {a0 : Array Value} (hw : ∀ d ∈ tables_1, d.before a0 Z = true) : (Jvm.Cond.laysFinal "com/example/pledgewire/pledgewire/Holding" "com/example/pledgewire/pledgewire/Holding" "isin" "Ljava/lang/String;").before a0 Z = true := hw _ (List.mem_of_getElem? (i := 82) rfl)
theorem W83 {Z : State} {a0 : Array Value} (hw : ∀ d ∈ tables_1, d.before a0 Z = true) : (Jvm.Cond.fieldLink "com/example/pledgewire/pledgewire/Holding" (24 : Nat) "com/example/pledgewire/pledgewire/Holding" "ticker" "Ljava/lang/String;").before a0 Z = true := hw _ (List.mem_of_getElem? (i := 83) rfl)
theorem W84 {Z : State} {a0 : Array Value} (hw : ∀ d ∈ tables_1, d.before a0 Z = true) : (Jvm.Cond.laysFinal "com/example/pledgewire/pledgewire/Holding" "com/example/pledgewire/pledgewire/Holding" "ticker" "Ljava/lang/String;").before a0 Z = true := hw _ (List.mem_of_getElem? (i := 84) rfl)
theorem W85 {Z : State} {a0 : Array Value} (hw : ∀ d ∈ tables_1, d.before a0 Z = true) : (Jvm.Cond.fieldLink "com/example/pledgewire/pledgewire/Holding" (27 : Nat) "com/example/pledgewire/pledgewire/Holding" "custodian" "Ljava/lang/String;").before a0 Z = true := hw _ (List.mem_of_getElem? (i := 85) rfl)
theorem W86 {Z : State} {a0 : Array Value} (hw : ∀ d ∈ tables_1, d.before a0 Z = true) : (Jvm.Cond.laysFinal "com/example/pledgewire/pledgewire/Holding" "com/example/pledgewire/pledgewire/Holding" "custodian" "Ljava/lang/String;").before a0 Z = true := hw _ (List.mem_of_getElem? (i := 86) rfl)
theorem W87 {Z : State} {a0 : Array Value} (hw : ∀ d ∈ tables_1, d.before a0 Z = true) : (Jvm.Cond.methodLink "com/example/pledgewire/pledgewire/HoldingCellsPinLaw" (28 : Nat) ({ cls := "com/example/pledgewire/pledgewire/Holding", name := "cells", desc := "()Ljava/util/List;" } : Jvm.MethodName)).before a0 Z = true := hw _ (List.mem_of_getElem? (i := 87) rfl)
theorem W88 {Z : State} {a0 : Array Value} (hw : ∀ d ∈ tables_1, d.before a0 Z = true) : (Jvm.Cond.declares ({ cls := "com/example/pledgewire/pledgewire/Holding", name := "cells", desc := "()Ljava/util/List;" } : Jvm.MethodName)).before a0 Z = true := hw _ (List.mem_of_getElem? (i := 88) rfl)
theorem W89 {Z : State} {a0 : Array Value} (hw : ∀ d ∈ tables_1, d.before a0 Z = true) : (Jvm.Cond.instanceMethod ({ cls := "com/example/pledgewire/pledgewire/Holding", name := "cells", desc := "()Ljava/util/List;" } : Jvm.MethodName)).before a0 Z = true := hw _ (List.mem_of_getElem? (i := 89) rfl)
theorem W90 {Z : State} {a0 : Array Value} (hw : ∀ d ∈ tables_1, d.before a0 Z = true) : (Jvm.Cond.selects "com/example/pledgewire/pledgewire/Holding" ({ cls := "com/example/pledgewire/pledgewire/Holding", name := "cells", desc := "()Ljava/util/List;" } : Jvm.MethodName) ({ cls := "com/example/pledgewire/pledgewire/Holding", name := "cells", desc := "()Ljava/util/List;" } : Jvm.MethodName)).before a0 Z = true := hw _ (List.mem_of_getElem? (i := 90) rfl)
theorem W91 {Z : State} {a0 : Array Value} (hw : ∀ d ∈ tables_1, d.before a0 Z = true) : (Jvm.Cond.code ({ cls := "com/example/pledgewire/pledgewire/Holding", name := "cells", desc := "()Ljava/util/List;" } : Jvm.MethodName) prog_33_method_5_code (1 : Nat) (Option.some (Jvm.ClassFile.FieldType.object "java/util/List"))).before a0 Z = true := hw _ (List.mem_of_getElem? (i := 91) rfl)
theorem W92 {Z : State} {a0 : Array Value} (hw : ∀ d ∈ tables_1, d.before a0 Z = true) : (Jvm.Cond.classLink "com/example/pledgewire/pledgewire/Holding" (61 : Nat) "java/lang/String").before a0 Z = true := hw _ (List.mem_of_getElem? (i := 92) rfl)
theorem W93 {Z : State} {a0 : Array Value} (hw : ∀ d ∈ tables_1, d.before a0 Z = true) : (Jvm.Cond.arrayOver (Jvm.ClassFile.FieldType.object "java/lang/String")).before a0 Z = true := hw _ (List.mem_of_getElem? (i := 93) rfl)
theorem W94 {Z : State} {a0 : Array Value} (hw : ∀ d ∈ tables_1, d.before a0 Z = true) : (Jvm.Cond.methodLink "com/example/pledgewire/pledgewire/Holding" (69 : Nat) ({ cls := "com/example/pledgewire/pledgewire/Reference$AssetAccount", name := "cmf", desc := "()Ljava/lang/String;" } : Jvm.MethodName)).before a0 Z = true := hw _ (List.mem_of_getElem? (i := 94) rfl)
theorem W95 {Z : State} {a0 : Array Value} (hw : ∀ d ∈ tables_1, d.before a0 Z = true) : (Jvm.Cond.declares ({ cls := "com/example/pledgewire/pledgewire/Reference$AssetAccount", name := "cmf", desc := "()Ljava/lang/String;" } : Jvm.MethodName)).before a0 Z = true := hw _ (List.mem_of_getElem? (i := 95) rfl)
theorem W96 {Z : State} {a0 : Array Value} (hw : ∀ d ∈ tables_1, d.before a0 Z = true) : (Jvm.Cond.instanceMethod ({ cls := "com/example/pledgewire/pledgewire/Reference$AssetAccount", name := "cmf", desc := "()Ljava/lang/String;" } : Jvm.MethodName)).before a0 Z = true := hw _ (List.mem_of_getElem? (i := 96) rfl)
theorem W97 {Z : State} {a0 : Array Value} (hw : ∀ d ∈ tables_1, d.before a0 Z = true) : (Jvm.Cond.selects "com/example/pledgewire/pledgewire/Reference$AssetAccount" ({ cls := "com/example/pledgewire/pledgewire/Reference$AssetAccount", name := "cmf", desc := "()Ljava/lang/String;" } : Jvm.MethodName) ({ cls := "com/example/pledgewire/pledgewire/Reference$AssetAccount", name := "cmf", desc := "()Ljava/lang/String;" } : Jvm.MethodName)).before a0 Z = true := hw _ (List.mem_of_getElem? (i := 97) rfl)
theorem W98 {Z : State} {a0 : Array Value} (hw : ∀ d ∈ tables_1, d.before a0 Z = true) : (Jvm.Cond.code ({ cls := "com/example/pledgewire/pledgewire/Reference$AssetAccount", name := "cmf", desc := "()Ljava/lang/String;" } : Jvm.MethodName) prog_55_method_5_code (1 : Nat) (Option.some (Jvm.ClassFile.FieldType.object "java/lang/String"))).before a0 Z = true := hw _ (List.mem_of_getElem? (i := 98) rfl)
theorem W99 {Z : State} {a0 : Array Value} (hw : ∀ d ∈ tables_1, d.before a0 Z = true) : (Jvm.Cond.methodLink "com/example/pledgewire/pledgewire/Holding" (72 : Nat) ({ cls := "com/example/pledgewire/pledgewire/Reference$AssetAccount", name := "aa", desc := "()Ljava/lang/String;" } : Jvm.MethodName)).before a0 Z = true := hw _ (List.mem_of_getElem? (i := 99) rfl)
theorem W100 {Z : State} {a0 : Array Value} (hw : ∀ d ∈ tables_1, d.before a0 Z = true) : (Jvm.Cond.declares ({ cls := "com/example/pledgewire/pledgewire/Reference$AssetAccount", name := "aa", desc := "()Ljava/lang/String;" } : Jvm.MethodName)).before a0 Z = true := hw _ (List.mem_of_getElem? (i := 100) rfl)
theorem W101 {Z : State} {a0 : Array Value} (hw : ∀ d ∈ tables_1, d.before a0 Z = true) : (Jvm.Cond.instanceMethod ({ cls := "com/example/pledgewire/pledgewire/Reference$AssetAccount", name := "aa", desc := "()Ljava/lang/String;" } : Jvm.MethodName)).before a0 Z = true := hw _ (List.mem_of_getElem? (i := 101) rfl)
theorem W102 {Z : State} {a0 : Array Value} (hw : ∀ d ∈ tables_1, d.before a0 Z = true) : (Jvm.Cond.selects "com/example/pledgewire/pledgewire/Reference$AssetAccount" ({ cls := "com/example/pledgewire/pledgewire/Reference$AssetAccount", name := "aa", desc := "()Ljava/lang/String;" } : Jvm.MethodName) ({ cls := "com/example/pledgewire/pledgewire/Reference$AssetAccount", name := "aa", desc := "()Ljava/lang/String;" } : Jvm.MethodName)).before a0 Z = true := hw _ (List.mem_of_getElem? (i := 102) rfl)
theorem W103 {Z : State} {a0 : Array Value} (hw : ∀ d ∈ tables_1, d.before a0 Z = true) : (Jvm.Cond.code ({ cls := "com/example/pledgewire/pledgewire/Reference$AssetAccount", name := "aa", desc := "()Ljava/lang/String;" } : Jvm.MethodName) prog_55_method_6_code (1 : Nat) (Option.some (Jvm.ClassFile.FieldType.object "java/lang/String"))).before a0 Z = true := hw _ (List.mem_of_getElem? (i := 103) rfl)
theorem W104 {Z : State} {a0 : Array Value} (hw : ∀ d ∈ tables_1, d.before a0 Z = true) : (Jvm.Cond.methodLink "com/example/pledgewire/pledgewire/Holding" (75 : Nat) ({ cls := "com/example/pledgewire/pledgewire/Reference$AssetAccount", name := "fseg", desc := "()Ljava/lang/String;" } : Jvm.MethodName)).before a0 Z = true := hw _ (List.mem_of_getElem? (i := 104) rfl)
theorem W105 {Z : State} {a0 : Array Value} (hw : ∀ d ∈ tables_1, d.before a0 Z = true) : (Jvm.Cond.declares ({ cls := "com/example/pledgewire/pledgewire/Reference$AssetAccount", name := "fseg", desc := "()Ljava/lang/String;" } : Jvm.MethodName)).before a0 Z = true := hw _ (List.mem_of_getElem? (i := 105) rfl)
theorem W106 {Z : State} {a0 : Array Value} (hw : ∀ d ∈ tables_1, d.before a0 Z = true) : (Jvm.Cond.instanceMethod ({ cls := "com/example/pledgewire/pledgewire/Reference$AssetAccount", name := "fseg", desc := "()Ljava/lang/String;" } : Jvm.MethodName)).before a0 Z = true := hw _ (List.mem_of_getElem? (i := 106) rfl)
theorem W107 {Z : State} {a0 : Array Value} (hw : ∀ d ∈ tables_1, d.before a0 Z = true) : (Jvm.Cond.selects "com/example/pledgewire/pledgewire/Reference$AssetAccount" ({ cls := "com/example/pledgewire/pledgewire/Reference$AssetAccount", name := "fseg", desc := "()Ljava/lang/String;" } : Jvm.MethodName) ({ cls := "com/example/pledgewire/pledgewire/Reference$AssetAccount", name := "fseg", desc := "()Ljava/lang/String;" } : Jvm.MethodName)).before a0 Z = true := hw _ (List.mem_of_getElem? (i := 107) rfl)
theorem W108 {Z : State} {a0 : Array Value} (hw : ∀ d ∈ tables_1, d.before a0 Z = true) : (Jvm.Cond.code ({ cls := "com/example/pledgewire/pledgewire/Reference$AssetAccount", name := "fseg", desc := "()Ljava/lang/String;" } : Jvm.MethodName) prog_55_method_7_code (1 : Nat) (Option.some (Jvm.ClassFile.FieldType.object "java/lang/String"))).before a0 Z = true := hw _ (List.mem_of_getElem? (i := 108) rfl)
theorem W109 {Z : State} {a0 : Array Value} (hw : ∀ d ∈ tables_1, d.before a0 Z = true) : (Jvm.Cond.methodLink "com/example/pledgewire/pledgewire/Holding" (78 : Nat) ({ cls := "com/example/pledgewire/pledgewire/Reference$AssetAccount", name := "acctType", desc := "()Ljava/lang/String;" } : Jvm.MethodName)).before a0 Z = true := hw _ (List.mem_of_getElem? (i := 109) rfl)
theorem W110 {Z : State} {a0 : Array Value} (hw : ∀ d ∈ tables_1, d.before a0 Z = true) : (Jvm.Cond.declares ({ cls := "com/example/pledgewire/pledgewire/Reference$AssetAccount", name := "acctType", desc := "()Ljava/lang/String;" } : Jvm.MethodName)).before a0 Z = true := hw _ (List.mem_of_getElem? (i := 110) rfl)
theorem W111 {Z : State} {a0 : Array Value} (hw : ∀ d ∈ tables_1, d.before a0 Z = true) : (Jvm.Cond.instanceMethod ({ cls := "com/example/pledgewire/pledgewire/Reference$AssetAccount", name := "acctType", desc := "()Ljava/lang/String;" } : Jvm.MethodName)).before a0 Z = true := hw _ (List.mem_of_getElem? (i := 111) rfl)
theorem W112 {Z : State} {a0 : Array Value} (hw : ∀ d ∈ tables_1, d.before a0 Z = true) : (Jvm.Cond.selects "com/example/pledgewire/pledgewire/Reference$AssetAccount" ({ cls := "com/example/pledgewire/pledgewire/Reference$AssetAccount", name := "acctType", desc := "()Ljava/lang/String;" } : Jvm.MethodName) ({ cls := "com/example/pledgewire/pledgewire/Reference$AssetAccount", name := "acctType", desc := "()Ljava/lang/String;" } : Jvm.MethodName)).before a0 Z = true := hw _ (List.mem_of_getElem? (i := 112) rfl)
theorem W113 {Z : State} {a0 : Array Value} (hw : ∀ d ∈ tables_1, d.before a0 Z = true) : (Jvm.Cond.code ({ cls := "com/example/pledgewire/pledgewire/Reference$AssetAccount", name := "acctType", desc := "()Ljava/lang/String;" } : Jvm.MethodName) prog_55_method_8_code (1 : Nat) (Option.some (Jvm.ClassFile.FieldType.object "java/lang/String"))).before a0 Z = true := hw _ (List.mem_of_getElem? (i := 113) rfl)
theorem W114 {Z : State} {a0 : Array Value} (hw : ∀ d ∈ tables_1, d.before a0 Z = true) : (Jvm.Cond.methodLink "com/example/pledgewire/pledgewire/Holding" (81 : Nat) ({ cls := "com/example/pledgewire/pledgewire/Reference$AssetAccount", name := "busFunc", desc := "()Ljava/lang/String;" } : Jvm.MethodName)).before a0 Z = true := hw _ (List.mem_of_getElem? (i := 114) rfl)
theorem W115 {Z : State} {a0 : Array Value} (hw : ∀ d ∈ tables_1, d.before a0 Z = true) : (Jvm.Cond.declares ({ cls := "com/example/pledgewire/pledgewire/Reference$AssetAccount", name := "busFunc", desc := "()Ljava/lang/String;" } : Jvm.MethodName)).before a0 Z = true := hw _ (List.mem_of_getElem? (i := 115) rfl)
theorem W116 {Z : State} {a0 : Array Value} (hw : ∀ d ∈ tables_1, d.before a0 Z = true) : (Jvm.Cond.instanceMethod ({ cls := "com/example/pledgewire/pledgewire/Reference$AssetAccount", name := "busFunc", desc := "()Ljava/lang/String;" } : Jvm.MethodName)).before a0 Z = true := hw _ (List.mem_of_getElem? (i := 116) rfl)
theorem W117 {Z : State} {a0 : Array Value} (hw : ∀ d ∈ tables_1, d.before a0 Z = true) : (Jvm.Cond.selects "com/example/pledgewire/pledgewire/Reference$AssetAccount" ({ cls := "com/example/pledgewire/pledgewire/Reference$AssetAccount", name := "busFunc", desc := "()Ljava/lang/String;" } : Jvm.MethodName) ({ cls := "com/example/pledgewire/pledgewire/Reference$AssetAccount", name := "busFunc", desc := "()Ljava/lang/String;" } : Jvm.MethodName)).before a0 Z = true := hw _ (List.mem_of_getElem? (i := 117) rfl)
theorem W118 {Z : State} {a0 : Array Value} (hw : ∀ d ∈ tables_1, d.before a0 Z = true) : (Jvm.Cond.code ({ cls := "com/example/pledgewire/pledgewire/Reference$AssetAccount", name := "busFunc", desc := "()Ljava/lang/String;" } : Jvm.MethodName) prog_55_method_9_code (1 : Nat) (Option.some (Jvm.ClassFile.FieldType.object "java/lang/String"))).before a0 Z = true := hw _ (List.mem_of_getElem? (i := 118) rfl)
theorem W119 {Z : State} {a0 : Array Value} (hw : ∀ d ∈ tables_1, d.before a0 Z = true) : (Jvm.Cond.methodLink "com/example/pledgewire/pledgewire/Holding" (84 : Nat) ({ cls := "com/example/pledgewire/pledgewire/AssetKind", name := "type", desc := "()Ljava/lang/String;" } : Jvm.MethodName)).before a0 Z = true := hw _ (List.mem_of_getElem? (i := 119) rfl)
theorem W120 {Z : State} {a0 : Array Value} (hw : ∀ d ∈ tables_1, d.before a0 Z = true) : (Jvm.Cond.declares ({ cls := "com/example/pledgewire/pledgewire/AssetKind", name := "type", desc := "()Ljava/lang/String;" } : Jvm.MethodName)).before a0 Z = true := hw _ (List.mem_of_getElem? (i := 120) rfl)
theorem W121 {Z : State} {a0 : Array Value} (hw : ∀ d ∈ tables_1, d.before a0 Z = true) : (Jvm.Cond.instanceMethod ({ cls := "com/example/pledgewire/pledgewire/AssetKind", name := "type", desc := "()Ljava/lang/String;" } : Jvm.MethodName)).before a0 Z = true := hw _ (List.mem_of_getElem? (i := 121) rfl)
theorem W122 {Z : State} {a0 : Array Value} (hw : ∀ d ∈ tables_1, d.before a0 Z = true) : (Jvm.Cond.selects "com/example/pledgewire/pledgewire/AssetKind" ({ cls := "com/example/pledgewire/pledgewire/AssetKind", name := "type", desc := "()Ljava/lang/String;" } : Jvm.MethodName) ({ cls := "com/example/pledgewire/pledgewire/AssetKind", name := "type", desc := "()Ljava/lang/String;" } : Jvm.MethodName)).before a0 Z = true := hw _ (List.mem_of_getElem? (i := 122) rfl)
theorem W123 {Z : State} {a0 : Array Value} (hw : ∀ d ∈ tables_1, d.before a0 Z = true) : (Jvm.Cond.code ({ cls := "com/example/pledgewire/pledgewire/AssetKind", name := "type", desc := "()Ljava/lang/String;" } : Jvm.MethodName) prog_3_method_8_code (1 : Nat) (Option.some (Jvm.ClassFile.FieldType.object "java/lang/String"))).before a0 Z = true := hw _ (List.mem_of_getElem? (i := 123) rfl)
theorem W124 {Z : State} {a0 : Array Value} (hw : ∀ d ∈ tables_1, d.before a0 Z = true) : (Jvm.Cond.methodLink "com/example/pledgewire/pledgewire/Holding" (87 : Nat) ({ cls := "com/example/pledgewire/pledgewire/AssetKind", name := "ccy", desc := "()Ljava/lang/String;" } : Jvm.MethodName)).before a0 Z = true := hw _ (List.mem_of_getElem? (i := 124) rfl)
theorem W125 {Z : State} {a0 : Array Value} (hw : ∀ d ∈ tables_1, d.before a0 Z = true) : (Jvm.Cond.declares ({ cls := "com/example/pledgewire/pledgewire/AssetKind", name := "ccy", desc := "()Ljava/lang/String;" } : Jvm.MethodName)).before a0 Z = true := hw _ (List.mem_of_getElem? (i := 125) rfl)
theorem W126 {Z : State} {a0 : Array Value} (hw : ∀ d ∈ tables_1, d.before a0 Z = true) : (Jvm.Cond.instanceMethod ({ cls := "com/example/pledgewire/pledgewire/AssetKind", name := "ccy", desc := "()Ljava/lang/String;" } : Jvm.MethodName)).before a0 Z = true := hw _ (List.mem_of_getElem? (i := 126) rfl)
theorem W127 {Z : State} {a0 : Array Value} (hw : ∀ d ∈ tables_1, d.before a0 Z = true) : (Jvm.Cond.selects "com/example/pledgewire/pledgewire/AssetKind" ({ cls := "com/example/pledgewire/pledgewire/AssetKind", name := "ccy", desc := "()Ljava/lang/String;" } : Jvm.MethodName) ({ cls := "com/example/pledgewire/pledgewire/AssetKind", name := "ccy", desc := "()Ljava/lang/String;" } : Jvm.MethodName)).before a0 Z = true := hw _ (List.mem_of_getElem? (i := 127) rfl)
theorem W128 {Z : State} {a0 : Array Value} (hw : ∀ d ∈ tables_1, d.before a0 Z = true) : (Jvm.Cond.code ({ cls := "com/example/pledgewire/pledgewire/AssetKind", name := "ccy", desc := "()Ljava/lang/String;" } : Jvm.MethodName) prog_3_method_9_code (1 : Nat) (Option.some (Jvm.ClassFile.FieldType.object "java/lang/String"))).before a0 Z = true := hw _ (List.mem_of_getElem? (i := 128) rfl)
theorem W129 {Z : State} {a0 : Array Value} (hw : ∀ d ∈ tables_1, d.before a0 Z = true) : (Jvm.Cond.methodLink "com/example/pledgewire/pledgewire/Holding" (90 : Nat) ({ cls := "java/util/List", name := "of", desc := "([Ljava/lang/Object;)Ljava/util/List;" } : Jvm.MethodName)).before a0 Z = true := hw _ (List.mem_of_getElem? (i := 129) rfl)
theorem W130 {Z : State} {a0 : Array Value} (hw : ∀ d ∈ tables_1, d.before a0 Z = true) : (Jvm.Cond.static ({ cls := "java/util/List", name := "of", desc := "([Ljava/lang/Object;)Ljava/util/List;" } : Jvm.MethodName)).before a0 Z = true := hw _ (List.mem_of_getElem? (i := 130) rfl)
theorem W131 {Z : State} {a0 : Array Value} (hw : ∀ d ∈ tables_1, d.before a0 Z = true) : (Jvm.Cond.initialized "java/util/List").before a0 Z = true := hw _ (List.mem_of_getElem? (i := 131) rfl)
theorem W132 {Z : State} {a0 : Array Value} (hw : ∀ d ∈ tables_1, d.before a0 Z = true) : (Jvm.Cond.code ({ cls := "java/util/List", name := "of", desc := "([Ljava/lang/Object;)Ljava/util/List;" } : Jvm.MethodName) jdk_40_method_47_code (2 : Nat) (Option.some (Jvm.ClassFile.FieldType.object "java/util/List"))).before a0 Z = true := hw _ (List.mem_of_getElem? (i := 132) rfl)
theorem W133 {Z : State} {a0 : Array Value} (hw : ∀ d ∈ tables_1, d.before a0 Z = true) : (Jvm.Cond.methodLink "java/util/List" (109 : Nat) ({ cls := "java/util/ImmutableCollections", name := "listFromArray", desc := "([Ljava/lang/Object;)Ljava/util/List;" } : Jvm.MethodName)).before a0 Z = true := hw _ (List.mem_of_getElem? (i := 133) rfl)
theorem W134 {Z : State} {a0 : Array Value} (hw : ∀ d ∈ tables_1, d.before a0 Z = true) : (Jvm.Cond.static ({ cls := "java/util/ImmutableCollections", name := "listFromArray", desc := "([Ljava/lang/Object;)Ljava/util/List;" } : Jvm.MethodName)).before a0 Z = true := hw _ (List.mem_of_getElem? (i := 134) rfl)
theorem W135 {Z : State} {a0 : Array Value} (hw : ∀ d ∈ tables_1, d.before a0 Z = true) : (Jvm.Cond.initialized "java/util/ImmutableCollections").before a0 Z = true := hw _ (List.mem_of_getElem? (i := 135) rfl)
theorem W136 {Z : State} {a0 : Array Value} (hw : ∀ d ∈ tables_1, d.before a0 Z = true) : (Jvm.Cond.code ({ cls := "java/util/ImmutableCollections", name := "listFromArray", desc := "([Ljava/lang/Object;)Ljava/util/List;" } : Jvm.MethodName) jdk_56_method_4_code (3 : Nat) (Option.some (Jvm.ClassFile.FieldType.object "java/util/List"))).before a0 Z = true := hw _ (List.mem_of_getElem? (i := 136) rfl)
theorem W137 {Z : State} {a0 : Array Value} (hw : ∀ d ∈ tables_1, d.before a0 Z = true) : (Jvm.Cond.classLink "java/util/ImmutableCollections" (2 : Nat) "java/lang/Object").before a0 Z = true := hw _ (List.mem_of_getElem? (i := 137) rfl)
theorem W138 {Z : State} {a0 : Array Value} (hw : ∀ d ∈ tables_1, d.before a0 Z = true) : (Jvm.Cond.arrayOver (Jvm.ClassFile.FieldType.object "java/lang/Object")).before a0 Z = true := hw _ (List.mem_of_getElem? (i := 138) rfl)
theorem W139 {Z : State} {a0 : Array Value} (hw : ∀ d ∈ tables_1, d.before a0 Z = true) : (Jvm.Cond.methodLink "java/util/ImmutableCollections" (37 : Nat) ({ cls := "java/util/Objects", name := "requireNonNull", desc := "(Ljava/lang/Object;)Ljava/lang/Object;" } : Jvm.MethodName)).before a0 Z = true := hw _ (List.mem_of_getElem? (i := 139) rfl)
theorem W140 {Z : State} {a0 : Array Value} (hw : ∀ d ∈ tables_1, d.before a0 Z = true) : (Jvm.Cond.static ({ cls := "java/util/Objects", name := "requireNonNull", desc := "(Ljava/lang/Object;)Ljava/lang/Object;" } : Jvm.MethodName)).before a0 Z = true := hw _ (List.mem_of_getElem? (i := 140) rfl)
theorem W141 {Z : State} {a0 : Array Value} (hw : ∀ d ∈ tables_1, d.before a0 Z = true) : (Jvm.Cond.initialized "java/util/Objects").before a0 Z = true := hw _ (List.mem_of_getElem? (i := 141) rfl)
theorem W142 {Z : State} {a0 : Array Value} (hw : ∀ d ∈ tables_1, d.before a0 Z = true) : (Jvm.Cond.code ({ cls := "java/util/Objects", name := "requireNonNull", desc := "(Ljava/lang/Object;)Ljava/lang/Object;" } : Jvm.MethodName) jdk_31_method_10_code (1 : Nat) (Option.some (Jvm.ClassFile.FieldType.object "java/lang/Object"))).before a0 Z = true := hw _ (List.mem_of_getElem? (i := 142) rfl)
theorem W143 {Z : State} {a0 : Array Value} (hw : ∀ d ∈ tables_1, d.before a0 Z = true) : (Jvm.Cond.castable "java/lang/String" "java/lang/Object").before a0 Z = true := hw _ (List.mem_of_getElem? (i := 143) rfl)
theorem W144 {Z : State} {a0 : Array Value} (hw : ∀ d ∈ tables_1, d.before a0 Z = true) : (Jvm.Cond.classLink "java/util/ImmutableCollections" (12 : Nat) "java/util/ImmutableCollections$ListN").before a0 Z = true := hw _ (List.mem_of_getElem? (i := 144) rfl)
theorem W145 {Z : State} {a0 : Array Value} (hw : ∀ d ∈ tables_1, d.before a0 Z = true) : (Jvm.Cond.instantiable "java/util/ImmutableCollections$ListN" (2 : Nat)).before a0 Z = true := hw _ (List.mem_of_getElem? (i := 145) rfl)
theorem W146 {Z : State} {a0 : Array Value} (hw : ∀ d ∈ tables_1, d.before a0 Z = true) : (Jvm.Cond.initialized "java/util/ImmutableCollections$ListN").before a0 Z = true := hw _ (List.mem_of_getElem? (i := 146) rfl)
theorem W147 {Z : State} {a0 : Array Value} (hw : ∀ d ∈ tables_1, d.before a0 Z = true) : (Jvm.Cond.methodLinkNest "java/util/ImmutableCollections" (43 : Nat) ({ cls := "java/util/ImmutableCollections$ListN", name := "<init>", desc := "([Ljava/lang/Object;Z)V" } : Jvm.MethodName) "java/util/ImmutableCollections").before a0 Z = true := hw _ (List.mem_of_getElem? (i := 147) rfl)
theorem W148 {Z : State} {a0 : Array Value} (hw : ∀ d ∈ tables_1, d.before a0 Z = true) : (Jvm.Cond.instanceMethod ({ cls := "java/util/ImmutableCollections$ListN", name := "<init>", desc := "([Ljava/lang/Object;Z)V" } : Jvm.MethodName)).before a0 Z = true := hw _ (List.mem_of_getElem? (i := 148) rfl)
theorem W150 {Z : State} {a0 : Array Value} (hw : ∀ d ∈ tables_1, d.before a0 Z = true) : (Jvm.Cond.code ({ cls := "java/util/ImmutableCollections$ListN", name := "<init>", desc := "([Ljava/lang/Object;Z)V" } : Jvm.MethodName) jdk_45_method_1_code (3 : Nat) (Option.none : Option Jvm.ClassFile.FieldType)).before a0 Z = true := hw _ (List.mem_of_getElem? (i := 150) rfl)
theorem W151 {Z : State} {a0 : Array Value} (hw : ∀ d ∈ tables_1, d.before a0 Z = true) : (Jvm.Cond.methodLink "java/util/ImmutableCollections$ListN" (1 : Nat) ({ cls := "java/util/ImmutableCollections$AbstractImmutableList", name := "<init>", desc := "()V" } : Jvm.MethodName)).before a0 Z = true := hw _ (List.mem_of_getElem? (i := 151) rfl)
theorem W152 {Z : State} {a0 : Array Value} (hw : ∀ d ∈ tables_1, d.before a0 Z = true) : (Jvm.Cond.instanceMethod ({ cls := "java/util/ImmutableCollections$AbstractImmutableList", name := "<init>", desc := "()V" } : Jvm.MethodName)).before a0 Z = true := hw _ (List.mem_of_getElem? (i := 152) rfl)
theorem W155 {Z : State} {a0 : Array Value} (hw : ∀ d ∈ tables_1, d.before a0 Z = true) : (Jvm.Cond.initialized "java/util/ImmutableCollections$AbstractImmutableList").before a0 Z = true := hw _ (List.mem_of_getElem? (i := 155) rfl)
theorem W156 {Z : State} {a0 : Array Value} (hw : ∀ d ∈ tables_1, d.before a0 Z = true) : (Jvm.Cond.code ({ cls := "java/util/ImmutableCollections$AbstractImmutableList", name := "<init>", desc := "()V" } : Jvm.MethodName) jdk_46_method_1_code (1 : Nat) (Option.none : Option Jvm.ClassFile.FieldType)).before a0 Z = true := hw _ (List.mem_of_getElem? (i := 156) rfl)
theorem W157 {Z : State} {a0 : Array Value} (hw : ∀ d ∈ tables_1, d.before a0 Z = true) : (Jvm.Cond.methodLink "java/util/ImmutableCollections$AbstractImmutableList" (1 : Nat) ({ cls := "java/util/ImmutableCollections$AbstractImmutableCollection", name := "<init>", desc := "()V" } : Jvm.MethodName)).before a0 Z = true := hw _ (List.mem_of_getElem? (i := 157) rfl)
theorem W158 {Z : State} {a0 : Array Value} (hw : ∀ d ∈ tables_1, d.before a0 Z = true) : (Jvm.Cond.instanceMethod ({ cls := "java/util/ImmutableCollections$AbstractImmutableCollection", name := "<init>", desc := "()V" } : Jvm.MethodName)).before a0 Z = true := hw _ (List.mem_of_getElem? (i := 158) rfl)
theorem W161 {Z : State} {a0 : Array Value} (hw : ∀ d ∈ tables_1, d.before a0 Z = true) : (Jvm.Cond.initialized "java/util/ImmutableCollections$AbstractImmutableCollection").before a0 Z = true := hw _ (List.mem_of_getElem? (i := 161) rfl)
theorem W162 {Z : State} {a0 : Array Value} (hw : ∀ d ∈ tables_1, d.before a0 Z = true) : (Jvm.Cond.code ({ cls := "java/util/ImmutableCollections$AbstractImmutableCollection", name := "<init>", desc := "()V" } : Jvm.MethodName) jdk_47_method_1_code (1 : Nat) (Option.none : Option Jvm.ClassFile.FieldType)).before a0 Z = true := hw _ (List.mem_of_getElem? (i := 162) rfl)
theorem W163 {Z : State} {a0 : Array Value} (hw : ∀ d ∈ tables_1, d.before a0 Z = true) : (Jvm.Cond.methodLink "java/util/ImmutableCollections$AbstractImmutableCollection" (1 : Nat) ({ cls := "java/util/AbstractCollection", name := "<init>", desc := "()V" } : Jvm.MethodName)).before a0 Z = true := hw _ (List.mem_of_getElem? (i := 163) rfl)
theorem W164 {Z : State} {a0 : Array Value} (hw : ∀ d ∈ tables_1, d.before a0 Z = true) : (Jvm.Cond.instanceMethod ({ cls := "java/util/AbstractCollection", name := "<init>", desc := "()V" } : Jvm.MethodName)).before a0 Z = true := hw _ (List.mem_of_getElem? (i := 164) rfl)
theorem W167 {Z : State} {a0 : Array Value} (hw : ∀ d ∈ tables_1, d.before a0 Z = true) : (Jvm.Cond.initialized "java/util/AbstractCollection").before a0 Z = true := hw _ (List.mem_of_getElem? (i := 167) rfl)
theorem W168 {Z : State} {a0 : Array Value} (hw : ∀ d ∈ tables_1, d.before a0 Z = true) : (Jvm.Cond.code ({ cls := "java/util/AbstractCollection", name := "<init>", desc := "()V" } : Jvm.MethodName) jdk_22_method_1_code (1 : Nat) (Option.none : Option Jvm.ClassFile.FieldType)).before a0 Z = true := hw _ (List.mem_of_getElem? (i := 168) rfl)
theorem W169 {Z : State} {a0 : Array Value} (hw : ∀ d ∈ tables_1, d.before a0 Z = true) : (Jvm.Cond.methodLink "java/util/AbstractCollection" (1 : Nat) ({ cls := "java/lang/Object", name := "<init>", desc := "()V" } : Jvm.MethodName)).before a0 Z = true := hw _ (List.mem_of_getElem? (i := 169) rfl)
theorem W170 {Z : State} {a0 : Array Value} (hw : ∀ d ∈ tables_1, d.before a0 Z = true) : (Jvm.Cond.fieldLink "java/util/ImmutableCollections$ListN" (7 : Nat) "java/util/ImmutableCollections$ListN" "elements" "[Ljava/lang/Object;").before a0 Z = true := hw _ (List.mem_of_getElem? (i := 170) rfl)
theorem W171 {Z : State} {a0 : Array Value} (hw : ∀ d ∈ tables_1, d.before a0 Z = true) : (Jvm.Cond.laysFinal "java/util/ImmutableCollections$ListN" "java/util/ImmutableCollections$ListN" "elements" "[Ljava/lang/Object;").before a0 Z = true := hw _ (List.mem_of_getElem? (i := 171) rfl)
theorem W172 {Z : State} {a0 : Array Value} (hw : ∀ d ∈ tables_1, d.before a0 Z = true) : (Jvm.Cond.fieldLink "java/util/ImmutableCollections$ListN" (13 : Nat) "java/util/ImmutableCollections$ListN" "allowNulls" "Z").before a0 Z = true := hw _ (List.mem_of_getElem? (i := 172) rfl)
theorem W173 {Z : State} {a0 : Array Value} (hw : ∀ d ∈ tables_1, d.before a0 Z = true) : (Jvm.Cond.laysFinal "java/util/ImmutableCollections$ListN" "java/util/ImmutableCollections$ListN" "allowNulls" "Z").before a0 Z = true := hw _ (List.mem_of_getElem? (i := 173) rfl)
theorem W174 {Z : State} {a0 : Array Value} (hw : ∀ d ∈ tables_1, d.before a0 Z = true) : (Jvm.Cond.methodLink "com/example/pledgewire/pledgewire/HoldingCellsPinLaw" (32 : Nat) ({ cls := "java/util/List", name := "size", desc := "()I" } : Jvm.MethodName)).before a0 Z = true := hw _ (List.mem_of_getElem? (i := 174) rfl)
theorem W175 {Z : State} {a0 : Array Value} (hw : ∀ d ∈ tables_1, d.before a0 Z = true) : (Jvm.Cond.declares ({ cls := "java/util/List", name := "size", desc := "()I" } : Jvm.MethodName)).before a0 Z = true := hw _ (List.mem_of_getElem? (i := 175) rfl)
theorem W176 {Z : State} {a0 : Array Value} (hw : ∀ d ∈ tables_1, d.before a0 Z = true) : (Jvm.Cond.interfaceMethod "java/util/List" "java/util/List" "size" "()I").before a0 Z = true := hw _ (List.mem_of_getElem? (i := 176) rfl)
theorem W177 {Z : State} {a0 : Array Value} (hw : ∀ d ∈ tables_1, d.before a0 Z = true) : (Jvm.Cond.selects "java/util/ImmutableCollections$ListN" ({ cls := "java/util/List", name := "size", desc := "()I" } : Jvm.MethodName) ({ cls := "java/util/ImmutableCollections$ListN", name := "size", desc := "()I" } : Jvm.MethodName)).before a0 Z = true := hw _ (List.mem_of_getElem? (i := 177) rfl)
theorem W178 {Z : State} {a0 : Array Value} (hw : ∀ d ∈ tables_1, d.before a0 Z = true) : (Jvm.Cond.instanceMethod ({ cls := "java/util/ImmutableCollections$ListN", name := "size", desc := "()I" } : Jvm.MethodName)).before a0 Z = true := hw _ (List.mem_of_getElem? (i := 178) rfl)
theorem W179 {Z : State} {a0 : Array Value} (hw : ∀ d ∈ tables_1, d.before a0 Z = true) : (Jvm.Cond.publicMethod ({ cls := "java/util/ImmutableCollections$ListN", name := "size", desc := "()I" } : Jvm.MethodName)).before a0 Z = true := hw _ (List.mem_of_getElem? (i := 179) rfl)
theorem W180 {Z : State} {a0 : Array Value} (hw : ∀ d ∈ tables_1, d.before a0 Z = true) : (Jvm.Cond.unhidden "java/util/ImmutableCollections$ListN" "size" "()I").before a0 Z = true := hw _ (List.mem_of_getElem? (i := 180) rfl)
theorem W181 {Z : State} {a0 : Array Value} (hw : ∀ d ∈ tables_1, d.before a0 Z = true) : (Jvm.Cond.castable "java/util/ImmutableCollections$ListN" "java/util/List").before a0 Z = true := hw _ (List.mem_of_getElem? (i := 181) rfl)
theorem W182 {Z : State} {a0 : Array Value} (hw : ∀ d ∈ tables_1, d.before a0 Z = true) : (Jvm.Cond.code ({ cls := "java/util/ImmutableCollections$ListN", name := "size", desc := "()I" } : Jvm.MethodName) jdk_45_method_3_code (1 : Nat) (Option.some Jvm.ClassFile.FieldType.int)).before a0 Z = true := hw _ (List.mem_of_getElem? (i := 182) rfl)
theorem W183 {Z : State} {a0 : Array Value} (hw : ∀ d ∈ tables_1, d.before a0 Z = true) : (Jvm.Cond.methodLink "com/example/pledgewire/pledgewire/HoldingCellsPinLaw" (38 : Nat) ({ cls := "java/util/List", name := "get", desc := "(I)Ljava/lang/Object;" } : Jvm.MethodName)).before a0 Z = true := hw _ (List.mem_of_getElem? (i := 183) rfl)
theorem W184 {Z : State} {a0 : Array Value} (hw : ∀ d ∈ tables_1, d.before a0 Z = true) : (Jvm.Cond.declares ({ cls := "java/util/List", name := "get", desc := "(I)Ljava/lang/Object;" } : Jvm.MethodName)).before a0 Z = true := hw _ (List.mem_of_getElem? (i := 184) rfl)
theorem W185 {Z : State} {a0 : Array Value} (hw : ∀ d ∈ tables_1, d.before a0 Z = true) : (Jvm.Cond.interfaceMethod "java/util/List" "java/util/List" "get" "(I)Ljava/lang/Object;").before a0 Z = true := hw _ (List.mem_of_getElem? (i := 185) rfl)
theorem W186 {Z : State} {a0 : Array Value} (hw : ∀ d ∈ tables_1, d.before a0 Z = true) : (Jvm.Cond.selects "java/util/ImmutableCollections$ListN" ({ cls := "java/util/List", name := "get", desc := "(I)Ljava/lang/Object;" } : Jvm.MethodName) ({ cls := "java/util/ImmutableCollections$ListN", name := "get", desc := "(I)Ljava/lang/Object;" } : Jvm.MethodName)).before a0 Z = true := hw _ (List.mem_of_getElem? (i := 186) rfl)
theorem W187 {Z : State} {a0 : Array Value} (hw : ∀ d ∈ tables_1, d.before a0 Z = true) : (Jvm.Cond.instanceMethod ({ cls := "java/util/ImmutableCollections$ListN", name := "get", desc := "(I)Ljava/lang/Object;" } : Jvm.MethodName)).before a0 Z = true := hw _ (List.mem_of_getElem? (i := 187) rfl)
theorem W188 {Z : State} {a0 : Array Value} (hw : ∀ d ∈ tables_1, d.before a0 Z = true) : (Jvm.Cond.publicMethod ({ cls := "java/util/ImmutableCollections$ListN", name := "get", desc := "(I)Ljava/lang/Object;" } : Jvm.MethodName)).before a0 Z = true := hw _ (List.mem_of_getElem? (i := 188) rfl)
theorem W189 {Z : State} {a0 : Array Value} (hw : ∀ d ∈ tables_1, d.before a0 Z = true) : (Jvm.Cond.unhidden "java/util/ImmutableCollections$ListN" "get" "(I)Ljava/lang/Object;").before a0 Z = true := hw _ (List.mem_of_getElem? (i := 189) rfl)
theorem W190 {Z : State} {a0 : Array Value} (hw : ∀ d ∈ tables_1, d.before a0 Z = true) : (Jvm.Cond.code ({ cls := "java/util/ImmutableCollections$ListN", name := "get", desc := "(I)Ljava/lang/Object;" } : Jvm.MethodName) jdk_45_method_4_code (2 : Nat) (Option.some (Jvm.ClassFile.FieldType.object "java/lang/Object"))).before a0 Z = true := hw _ (List.mem_of_getElem? (i := 190) rfl)
theorem W191 {Z : State} {a0 : Array Value} (hw : ∀ d ∈ tables_1, d.before a0 Z = true) : (Jvm.Cond.methodLink "com/example/pledgewire/pledgewire/HoldingCellsPinLaw" (44 : Nat) ({ cls := "java/lang/String", name := "equals", desc := "(Ljava/lang/Object;)Z" } : Jvm.MethodName)).before a0 Z = true := hw _ (List.mem_of_getElem? (i := 191) rfl)
theorem W192 {Z : State} {a0 : Array Value} (hw : ∀ d ∈ tables_1, d.before a0 Z = true) : (Jvm.Cond.declares ({ cls := "java/lang/String", name := "equals", desc := "(Ljava/lang/Object;)Z" } : Jvm.MethodName)).before a0 Z = true := hw _ (List.mem_of_getElem? (i := 192) rfl)
theorem W193 {Z : State} {a0 : Array Value} (hw : ∀ d ∈ tables_1, d.before a0 Z = true) : (Jvm.Cond.instanceMethod ({ cls := "java/lang/String", name := "equals", desc := "(Ljava/lang/Object;)Z" } : Jvm.MethodName)).before a0 Z = true := hw _ (List.mem_of_getElem? (i := 193) rfl)
theorem W194 {Z : State} {a0 : Array Value} (hw : ∀ d ∈ tables_1, d.before a0 Z = true) : (Jvm.Cond.selects "java/lang/String" ({ cls := "java/lang/String", name := "equals", desc := "(Ljava/lang/Object;)Z" } : Jvm.MethodName) ({ cls := "java/lang/String", name := "equals", desc := "(Ljava/lang/Object;)Z" } : Jvm.MethodName)).before a0 Z = true := hw _ (List.mem_of_getElem? (i := 194) rfl)
theorem W195 {Z : State} {a0 : Array Value} (hw : ∀ d ∈ tables_1, d.before a0 Z = true) : (Jvm.Cond.code ({ cls := "java/lang/String", name := "equals", desc := "(Ljava/lang/Object;)Z" } : Jvm.MethodName) jdk_42_method_66_code (3 : Nat) (Option.some Jvm.ClassFile.FieldType.boolean)).before a0 Z = true := hw _ (List.mem_of_getElem? (i := 195) rfl)
set_option maxRecDepth 65536 in
set_option maxHeartbeats 40000000 in
theorem con_s (l : Launch) (Z : State) (a0 : Array Value) (hw : ∀ d ∈ tables_1, d.before a0 Z = true)  (h : Heap) (hS : SS Z) (p : Int64) (sh : Int32) : Con l Z [] (⟨"com/example/pledgewire/pledgewire/HoldingCellsPinLaw", "s", "(JI)Ljava/lang/String;"⟩ : MethodName) method_3_code 4 ((some (Jvm.ClassFile.FieldType.object "java/lang/String"))) ({ frames := 4, cells := 3, slots := 8, locals := 66 } : Room) #[(.long p), (.int sh)] h [] (fun v h' => ∃ x, v = some (.ref x) ∧ h.size ≤ x ∧ Exa Z h' x "java/lang/String") := by
  refine Con.of (plainFor_of_name pn0) (Ls := #[.val (.long p), .second, .val (.int sh), .unset]) (fun m => by first | (simp [entryFrame, mkF, argsToLocals, Value.category]; done) | rfl) ?_
  intro p_ e_ s_ m_ bel_ mt_ cd_ C
  refine g_iconst C d_method_3_0 (x := (2 : Int32)) rfl (pc' := 1) rfl ?_
  refine g_newarray C (aty := .char) (n := 2) (W4 hw) (by first | decide | exact Nat.le_of_ble_eq_true rfl) rfl (by first | decide | exact Nat.le_of_ble_eq_true rfl) d_method_3_1 (pc' := 3) rfl (by first | decide | exact Nat.le_of_ble_eq_true rfl) (by first | decide | exact Nat.le_of_ble_eq_true rfl) ?_
  intro h1 b hb hb0 X1 A1
  refine g_norm (cells' := 1) (slots' := 2) (st' := [(.ref b)]) (by first | decide | exact Nat.le_of_ble_eq_true rfl) (by first | decide | exact Nat.le_of_ble_eq_true rfl) rfl ?_
  refine g_astore_n C d_method_3_3 rfl (Ls' := #[.val (.long p), .second, .val (.int sh), .val (.ref b)]) rfl (pc' := 4) rfl ?_
  refine g_aload_n C d_method_3_4 rfl rfl (pc' := 5) rfl ?_
  refine g_iconst C d_method_3_5 (x := (0 : Int32)) rfl (pc' := 6) rfl ?_
  refine g_lload_n C d_method_3_6 rfl (pc' := 7) rfl ?_
  refine g_iload_n C d_method_3_7 rfl (pc' := 8) rfl ?_
  refine g_lushr C d_method_3_8 (pc' := 9) rfl ?_
  refine g_ldc2Long C (W5 hw) d_method_3_9 (pc' := 12) rfl ?_
  refine g_land C d_method_3_12 (pc' := 13) rfl ?_
  refine g_l2i C d_method_3_13 (pc' := 14) rfl ?_
  refine g_i2c C d_method_3_14 (pc' := 15) rfl ?_
  refine g_castore C A1 (by first | decide | exact Nat.le_of_ble_eq_true rfl) (i := 0) rfl (by first | decide | exact Nat.le_of_ble_eq_true rfl) (Or.inr hb0) d_method_3_15 (pc' := 16) rfl ?_
  intro h2 V0 A2
  refine g_aload_n C d_method_3_16 rfl rfl (pc' := 17) rfl ?_
  refine g_iconst C d_method_3_17 (x := (1 : Int32)) rfl (pc' := 18) rfl ?_
  refine g_lload_n C d_method_3_18 rfl (pc' := 19) rfl ?_
  refine g_iload_n C d_method_3_19 rfl (pc' := 20) rfl ?_
  refine g_bipush C d_method_3_20 (x := (8 : Int32)) rfl (pc' := 22) rfl ?_
  refine g_iadd C d_method_3_22 (pc' := 23) rfl ?_
  refine g_lushr C d_method_3_23 (pc' := 24) rfl ?_
  refine g_ldc2Long C (W5 hw) d_method_3_24 (pc' := 27) rfl ?_
  refine g_land C d_method_3_27 (pc' := 28) rfl ?_
  refine g_l2i C d_method_3_28 (pc' := 29) rfl ?_
  refine g_i2c C d_method_3_29 (pc' := 30) rfl ?_
  refine g_castore C A2 (by first | decide | exact Nat.le_of_ble_eq_true rfl) (i := 1) rfl (by first | decide | exact Nat.le_of_ble_eq_true rfl) (Or.inr hb0) d_method_3_30 (pc' := 31) rfl ?_
  intro h3 V1 A3
  refine g_new C (W6 hw) (W7 hw) (W8 hw) d_method_3_31 (pc' := 34) rfl (by first | decide | exact Nat.le_of_ble_eq_true rfl) (by first | decide | exact Nat.le_of_ble_eq_true rfl) ?_
  intro h4 x hx hx0 X4 E4 D4
  refine g_norm (cells' := 2) (slots' := 6) (st' := [(.ref x)]) (by first | decide | exact Nat.le_of_ble_eq_true rfl) (by first | decide | exact Nat.le_of_ble_eq_true rfl) rfl ?_
  refine g_dup C d_method_3_34 rfl (pc' := 35) rfl ?_
  refine g_aload_n C d_method_3_35 rfl rfl (pc' := 36) rfl ?_
  refine g_newstr C hS (n := 2) (cs := [nar .char (nar .char ((ushrL p sh) &&& 255).toInt32), nar .char (nar .char ((ushrL p (sh + 8)) &&& 255).toInt32)]) (Ws_backV hw) (W7 hw) (W9 hw) (W10 hw) (W11 hw) (E4) (D4 (Or.inr (W34 hw)) (ty := (.array .byte)) (by first | decide | exact Nat.le_of_ble_eq_true rfl)) (D4 (Or.inr (W32 hw)) (ty := .byte) (by first | decide | exact Nat.le_of_ble_eq_true rfl)) (A3.ext X4) (rfl) (by first | decide | exact Nat.le_of_ble_eq_true rfl) (by first | decide | exact Nat.le_of_ble_eq_true rfl) (by intro c hc; simp only [List.mem_cons, List.not_mem_nil, or_false] at hc; rcases hc with rfl | rfl; exact rngL255 _; exact rngL255 _) hx0 rfl d_method_3_36 (pc' := 39) rfl (by first | decide | exact Nat.le_of_ble_eq_true rfl) (by first | decide | exact Nat.le_of_ble_eq_true rfl) (by first | decide | exact Nat.le_of_ble_eq_true rfl) (by first | decide | exact Nat.le_of_ble_eq_true rfl) ?_
  intro h5 K5 S5
  refine g_norm (cells' := 3) (slots' := 8) (st' := [(.ref x)]) (by first | decide | exact Nat.le_of_ble_eq_true rfl) (by first | decide | exact Nat.le_of_ble_eq_true rfl) rfl ?_
  exact g_areturn C rfl rfl d_method_3_39 (⟨x, rfl, hx0, S5.exa⟩) (by first | decide | exact Nat.le_of_ble_eq_true rfl) (by first | decide | exact Nat.le_of_ble_eq_true rfl)
set_option maxRecDepth 65536 in
set_option maxHeartbeats 40000000 in
theorem con_rec (l : Launch) (Z : State) (a0 : Array Value) (hw : ∀ d ∈ tables_1, d.before a0 Z = true)  (h : Heap) (o : Addr) : Con l Z [] (⟨"java/lang/Record", "<init>", "()V"⟩ : MethodName) jdk_30_method_1_code 1 (none) ({ frames := 1, cells := 0, slots := 0, locals := 12 } : Room) #[(.ref o)] h [] (fun v h' => v = none ∧ h' = h) := by
  refine Con.of (plainFor_of_name pn1) (Ls := #[.val (.ref o)]) (fun m => by first | (simp [entryFrame, mkF, argsToLocals, Value.category]; done) | rfl) ?_
  intro p_ e_ s_ m_ bel_ mt_ cd_ C
  refine g_aload_n C d_jdk_30_method_1_0 rfl rfl (pc' := 1) rfl ?_
  refine g_objinit C (W49 hw) (W17 hw) (W18 hw) rfl (by first | decide | exact Nat.le_of_ble_eq_true rfl) (by first | decide | exact Nat.le_of_ble_eq_true rfl) d_jdk_30_method_1_1 (pc' := 4) rfl ?_
  exact g_return C d_jdk_30_method_1_4 (⟨rfl, rfl⟩) (by first | decide | exact Nat.le_of_ble_eq_true rfl) (by first | decide | exact Nat.le_of_ble_eq_true rfl)
set_option maxRecDepth 65536 in
set_option maxHeartbeats 40000000 in
theorem con_acc (l : Launch) (Z : State) (a0 : Array Value) (hw : ∀ d ∈ tables_1, d.before a0 Z = true)  (h : Heap) (o s0 s1 s2 s3 s4 : Addr) (E0 : Exa Z h o "com/example/pledgewire/pledgewire/Reference$AssetAccount") (F0_0 : Fld Z h o "com/example/pledgewire/pledgewire/Reference$AssetAccount" "cmf" "Ljava/lang/String;" .null) (F1_0 : Fld Z h o "com/example/pledgewire/pledgewire/Reference$AssetAccount" "aa" "Ljava/lang/String;" .null) (F2_0 : Fld Z h o "com/example/pledgewire/pledgewire/Reference$AssetAccount" "fseg" "Ljava/lang/String;" .null) (F3_0 : Fld Z h o "com/example/pledgewire/pledgewire/Reference$AssetAccount" "acctType" "Ljava/lang/String;" .null) (F4_0 : Fld Z h o "com/example/pledgewire/pledgewire/Reference$AssetAccount" "busFunc" "Ljava/lang/String;" .null) : Con l Z [o] (⟨"com/example/pledgewire/pledgewire/Reference$AssetAccount", "<init>", "(Ljava/lang/String;Ljava/lang/String;Ljava/lang/String;Ljava/lang/String;Ljava/lang/String;)V"⟩ : MethodName) prog_55_method_1_code 6 (none) ({ frames := 2, cells := 0, slots := 0, locals := 24 } : Room) #[(.ref o), (.ref s0), (.ref s1), (.ref s2), (.ref s3), (.ref s4)] h [] (fun v h' => v = none ∧ Exa Z h' o "com/example/pledgewire/pledgewire/Reference$AssetAccount" ∧ Fld Z h' o "com/example/pledgewire/pledgewire/Reference$AssetAccount" "cmf" "Ljava/lang/String;" (.ref s0) ∧ Fld Z h' o "com/example/pledgewire/pledgewire/Reference$AssetAccount" "aa" "Ljava/lang/String;" (.ref s1) ∧ Fld Z h' o "com/example/pledgewire/pledgewire/Reference$AssetAccount" "fseg" "Ljava/lang/String;" (.ref s2) ∧ Fld Z h' o "com/example/pledgewire/pledgewire/Reference$AssetAccount" "acctType" "Ljava/lang/String;" (.ref s3) ∧ Fld Z h' o "com/example/pledgewire/pledgewire/Reference$AssetAccount" "busFunc" "Ljava/lang/String;" (.ref s4)) := by
  refine Con.of (plainFor_of_name pn2) (Ls := #[.val (.ref o), .val (.ref s0), .val (.ref s1), .val (.ref s2), .val (.ref s3), .val (.ref s4)]) (fun m => by first | (simp [entryFrame, mkF, argsToLocals, Value.category]; done) | rfl) ?_
  intro p_ e_ s_ m_ bel_ mt_ cd_ C
  refine g_aload_n C d_prog_55_method_1_0 rfl rfl (pc' := 1) rfl ?_
  refine g_specialC C (W := 0) (argsL := []) (rest := []) (con_rec l Z a0 hw h o) rfl (W44 hw) (W45 hw) (W47 hw) (W48 hw) (by first | decide | exact Nat.le_of_ble_eq_true rfl) rfl (lenOf pd0 rfl) rfl (Nat.le_of_eq rfl) d_prog_55_method_1_1 (pc' := 4) rfl (by first | decide | exact Nat.le_of_ble_eq_true rfl) (by first | decide | exact Nat.le_of_ble_eq_true rfl) (fun _ q => nomatch q) (by first | decide | exact Nat.le_of_ble_eq_true rfl) (by first | decide | exact Nat.le_of_ble_eq_true rfl) ?_
  rintro _ hh ⟨rfl, eh_⟩ K0
  subst hh
  refine g_norm (cells' := 0) (slots' := 0) (st' := []) (by first | decide | exact Nat.le_of_ble_eq_true rfl) (by first | decide | exact Nat.le_of_ble_eq_true rfl) rfl ?_
  refine g_aload_n C d_prog_55_method_1_4 rfl rfl (pc' := 5) rfl ?_
  refine g_aload_n C d_prog_55_method_1_5 rfl rfl (pc' := 6) rfl ?_
  refine g_putfield C (W50 hw) Via.refl (v' := (.ref s0)) (F0_0) (E0) (Or.inr ⟨(W51 hw), rfl, rfl⟩) (W39 hw) (ty := (.object "java/lang/String")) (by first | decide | exact Nat.le_of_ble_eq_true rfl) rfl rfl (Or.inl (List.mem_cons_self ..)) d_prog_55_method_1_6 (pc' := 9) rfl ?_
  intro h1 V1
  have E1 := (E0).wr V1
  have F0_1 := (F0_0).same V1
  have F1_1 := (F1_0).other V1 (Or.inr (slot_ne (Or.inr (W53 hw)) (Or.inr (W51 hw)) (by first | decide | exact Nat.le_of_ble_eq_true rfl) (t := (.object "java/lang/String")) (by first | decide | exact Nat.le_of_ble_eq_true rfl) (t' := (.object "java/lang/String")) (by first | decide | exact Nat.le_of_ble_eq_true rfl)))
  have F2_1 := (F2_0).other V1 (Or.inr (slot_ne (Or.inr (W55 hw)) (Or.inr (W51 hw)) (by first | decide | exact Nat.le_of_ble_eq_true rfl) (t := (.object "java/lang/String")) (by first | decide | exact Nat.le_of_ble_eq_true rfl) (t' := (.object "java/lang/String")) (by first | decide | exact Nat.le_of_ble_eq_true rfl)))
  have F3_1 := (F3_0).other V1 (Or.inr (slot_ne (Or.inr (W57 hw)) (Or.inr (W51 hw)) (by first | decide | exact Nat.le_of_ble_eq_true rfl) (t := (.object "java/lang/String")) (by first | decide | exact Nat.le_of_ble_eq_true rfl) (t' := (.object "java/lang/String")) (by first | decide | exact Nat.le_of_ble_eq_true rfl)))
  have F4_1 := (F4_0).other V1 (Or.inr (slot_ne (Or.inr (W59 hw)) (Or.inr (W51 hw)) (by first | decide | exact Nat.le_of_ble_eq_true rfl) (t := (.object "java/lang/String")) (by first | decide | exact Nat.le_of_ble_eq_true rfl) (t' := (.object "java/lang/String")) (by first | decide | exact Nat.le_of_ble_eq_true rfl)))
  refine g_aload_n C d_prog_55_method_1_9 rfl rfl (pc' := 10) rfl ?_
  refine g_aload_n C d_prog_55_method_1_10 rfl rfl (pc' := 11) rfl ?_
  refine g_putfield C (W52 hw) Via.refl (v' := (.ref s1)) (F1_1) (E1) (Or.inr ⟨(W53 hw), rfl, rfl⟩) (W39 hw) (ty := (.object "java/lang/String")) (by first | decide | exact Nat.le_of_ble_eq_true rfl) rfl rfl (Or.inl (List.mem_cons_self ..)) d_prog_55_method_1_11 (pc' := 14) rfl ?_
  intro h2 V2
  have E2 := (E1).wr V2
  have F0_2 := (F0_1).other V2 (Or.inr (slot_ne (Or.inr (W51 hw)) (Or.inr (W53 hw)) (by first | decide | exact Nat.le_of_ble_eq_true rfl) (t := (.object "java/lang/String")) (by first | decide | exact Nat.le_of_ble_eq_true rfl) (t' := (.object "java/lang/String")) (by first | decide | exact Nat.le_of_ble_eq_true rfl)))
  have F1_2 := (F1_1).same V2
  have F2_2 := (F2_1).other V2 (Or.inr (slot_ne (Or.inr (W55 hw)) (Or.inr (W53 hw)) (by first | decide | exact Nat.le_of_ble_eq_true rfl) (t := (.object "java/lang/String")) (by first | decide | exact Nat.le_of_ble_eq_true rfl) (t' := (.object "java/lang/String")) (by first | decide | exact Nat.le_of_ble_eq_true rfl)))
  have F3_2 := (F3_1).other V2 (Or.inr (slot_ne (Or.inr (W57 hw)) (Or.inr (W53 hw)) (by first | decide | exact Nat.le_of_ble_eq_true rfl) (t := (.object "java/lang/String")) (by first | decide | exact Nat.le_of_ble_eq_true rfl) (t' := (.object "java/lang/String")) (by first | decide | exact Nat.le_of_ble_eq_true rfl)))
  have F4_2 := (F4_1).other V2 (Or.inr (slot_ne (Or.inr (W59 hw)) (Or.inr (W53 hw)) (by first | decide | exact Nat.le_of_ble_eq_true rfl) (t := (.object "java/lang/String")) (by first | decide | exact Nat.le_of_ble_eq_true rfl) (t' := (.object "java/lang/String")) (by first | decide | exact Nat.le_of_ble_eq_true rfl)))
  refine g_aload_n C d_prog_55_method_1_14 rfl rfl (pc' := 15) rfl ?_
  refine g_aload_n C d_prog_55_method_1_15 rfl rfl (pc' := 16) rfl ?_
  refine g_putfield C (W54 hw) Via.refl (v' := (.ref s2)) (F2_2) (E2) (Or.inr ⟨(W55 hw), rfl, rfl⟩) (W39 hw) (ty := (.object "java/lang/String")) (by first | decide | exact Nat.le_of_ble_eq_true rfl) rfl rfl (Or.inl (List.mem_cons_self ..)) d_prog_55_method_1_16 (pc' := 19) rfl ?_
  intro h3 V3
  have E3 := (E2).wr V3
  have F0_3 := (F0_2).other V3 (Or.inr (slot_ne (Or.inr (W51 hw)) (Or.inr (W55 hw)) (by first | decide | exact Nat.le_of_ble_eq_true rfl) (t := (.object "java/lang/String")) (by first | decide | exact Nat.le_of_ble_eq_true rfl) (t' := (.object "java/lang/String")) (by first | decide | exact Nat.le_of_ble_eq_true rfl)))
  have F1_3 := (F1_2).other V3 (Or.inr (slot_ne (Or.inr (W53 hw)) (Or.inr (W55 hw)) (by first | decide | exact Nat.le_of_ble_eq_true rfl) (t := (.object "java/lang/String")) (by first | decide | exact Nat.le_of_ble_eq_true rfl) (t' := (.object "java/lang/String")) (by first | decide | exact Nat.le_of_ble_eq_true rfl)))
  have F2_3 := (F2_2).same V3
  have F3_3 := (F3_2).other V3 (Or.inr (slot_ne (Or.inr (W57 hw)) (Or.inr (W55 hw)) (by first | decide | exact Nat.le_of_ble_eq_true rfl) (t := (.object "java/lang/String")) (by first | decide | exact Nat.le_of_ble_eq_true rfl) (t' := (.object "java/lang/String")) (by first | decide | exact Nat.le_of_ble_eq_true rfl)))
  have F4_3 := (F4_2).other V3 (Or.inr (slot_ne (Or.inr (W59 hw)) (Or.inr (W55 hw)) (by first | decide | exact Nat.le_of_ble_eq_true rfl) (t := (.object "java/lang/String")) (by first | decide | exact Nat.le_of_ble_eq_true rfl) (t' := (.object "java/lang/String")) (by first | decide | exact Nat.le_of_ble_eq_true rfl)))
  refine g_aload_n C d_prog_55_method_1_19 rfl rfl (pc' := 20) rfl ?_
  refine g_aload C d_prog_55_method_1_20 rfl rfl (pc' := 22) rfl ?_
  refine g_putfield C (W56 hw) Via.refl (v' := (.ref s3)) (F3_3) (E3) (Or.inr ⟨(W57 hw), rfl, rfl⟩) (W39 hw) (ty := (.object "java/lang/String")) (by first | decide | exact Nat.le_of_ble_eq_true rfl) rfl rfl (Or.inl (List.mem_cons_self ..)) d_prog_55_method_1_22 (pc' := 25) rfl ?_
  intro h4 V4
  have E4 := (E3).wr V4
  have F0_4 := (F0_3).other V4 (Or.inr (slot_ne (Or.inr (W51 hw)) (Or.inr (W57 hw)) (by first | decide | exact Nat.le_of_ble_eq_true rfl) (t := (.object "java/lang/String")) (by first | decide | exact Nat.le_of_ble_eq_true rfl) (t' := (.object "java/lang/String")) (by first | decide | exact Nat.le_of_ble_eq_true rfl)))
  have F1_4 := (F1_3).other V4 (Or.inr (slot_ne (Or.inr (W53 hw)) (Or.inr (W57 hw)) (by first | decide | exact Nat.le_of_ble_eq_true rfl) (t := (.object "java/lang/String")) (by first | decide | exact Nat.le_of_ble_eq_true rfl) (t' := (.object "java/lang/String")) (by first | decide | exact Nat.le_of_ble_eq_true rfl)))
  have F2_4 := (F2_3).other V4 (Or.inr (slot_ne (Or.inr (W55 hw)) (Or.inr (W57 hw)) (by first | decide | exact Nat.le_of_ble_eq_true rfl) (t := (.object "java/lang/String")) (by first | decide | exact Nat.le_of_ble_eq_true rfl) (t' := (.object "java/lang/String")) (by first | decide | exact Nat.le_of_ble_eq_true rfl)))
  have F3_4 := (F3_3).same V4
  have F4_4 := (F4_3).other V4 (Or.inr (slot_ne (Or.inr (W59 hw)) (Or.inr (W57 hw)) (by first | decide | exact Nat.le_of_ble_eq_true rfl) (t := (.object "java/lang/String")) (by first | decide | exact Nat.le_of_ble_eq_true rfl) (t' := (.object "java/lang/String")) (by first | decide | exact Nat.le_of_ble_eq_true rfl)))
  refine g_aload_n C d_prog_55_method_1_25 rfl rfl (pc' := 26) rfl ?_
  refine g_aload C d_prog_55_method_1_26 rfl rfl (pc' := 28) rfl ?_
  refine g_putfield C (W58 hw) Via.refl (v' := (.ref s4)) (F4_4) (E4) (Or.inr ⟨(W59 hw), rfl, rfl⟩) (W39 hw) (ty := (.object "java/lang/String")) (by first | decide | exact Nat.le_of_ble_eq_true rfl) rfl rfl (Or.inl (List.mem_cons_self ..)) d_prog_55_method_1_28 (pc' := 31) rfl ?_
  intro h5 V5
  have E5 := (E4).wr V5
  have F0_5 := (F0_4).other V5 (Or.inr (slot_ne (Or.inr (W51 hw)) (Or.inr (W59 hw)) (by first | decide | exact Nat.le_of_ble_eq_true rfl) (t := (.object "java/lang/String")) (by first | decide | exact Nat.le_of_ble_eq_true rfl) (t' := (.object "java/lang/String")) (by first | decide | exact Nat.le_of_ble_eq_true rfl)))
  have F1_5 := (F1_4).other V5 (Or.inr (slot_ne (Or.inr (W53 hw)) (Or.inr (W59 hw)) (by first | decide | exact Nat.le_of_ble_eq_true rfl) (t := (.object "java/lang/String")) (by first | decide | exact Nat.le_of_ble_eq_true rfl) (t' := (.object "java/lang/String")) (by first | decide | exact Nat.le_of_ble_eq_true rfl)))
  have F2_5 := (F2_4).other V5 (Or.inr (slot_ne (Or.inr (W55 hw)) (Or.inr (W59 hw)) (by first | decide | exact Nat.le_of_ble_eq_true rfl) (t := (.object "java/lang/String")) (by first | decide | exact Nat.le_of_ble_eq_true rfl) (t' := (.object "java/lang/String")) (by first | decide | exact Nat.le_of_ble_eq_true rfl)))
  have F3_5 := (F3_4).other V5 (Or.inr (slot_ne (Or.inr (W57 hw)) (Or.inr (W59 hw)) (by first | decide | exact Nat.le_of_ble_eq_true rfl) (t := (.object "java/lang/String")) (by first | decide | exact Nat.le_of_ble_eq_true rfl) (t' := (.object "java/lang/String")) (by first | decide | exact Nat.le_of_ble_eq_true rfl)))
  have F4_5 := (F4_4).same V5
  exact g_return C d_prog_55_method_1_31 (⟨rfl, E5, F0_5, F1_5, F2_5, F3_5, F4_5⟩) (by first | decide | exact Nat.le_of_ble_eq_true rfl) (by first | decide | exact Nat.le_of_ble_eq_true rfl)
set_option maxRecDepth 65536 in
set_option maxHeartbeats 40000000 in
theorem con_kind (l : Launch) (Z : State) (a0 : Array Value) (hw : ∀ d ∈ tables_1, d.before a0 Z = true)  (h : Heap) (o s0 s1 : Addr) (E0 : Exa Z h o "com/example/pledgewire/pledgewire/AssetKind") (F0_0 : Fld Z h o "com/example/pledgewire/pledgewire/AssetKind" "type" "Ljava/lang/String;" .null) (F1_0 : Fld Z h o "com/example/pledgewire/pledgewire/AssetKind" "ccy" "Ljava/lang/String;" .null) : Con l Z [o] (⟨"com/example/pledgewire/pledgewire/AssetKind", "<init>", "(Ljava/lang/String;Ljava/lang/String;)V"⟩ : MethodName) prog_3_method_1_code 3 (none) ({ frames := 2, cells := 0, slots := 0, locals := 24 } : Room) #[(.ref o), (.ref s0), (.ref s1)] h [] (fun v h' => v = none ∧ Exa Z h' o "com/example/pledgewire/pledgewire/AssetKind" ∧ Fld Z h' o "com/example/pledgewire/pledgewire/AssetKind" "type" "Ljava/lang/String;" (.ref s0) ∧ Fld Z h' o "com/example/pledgewire/pledgewire/AssetKind" "ccy" "Ljava/lang/String;" (.ref s1)) := by
  refine Con.of (plainFor_of_name pn3) (Ls := #[.val (.ref o), .val (.ref s0), .val (.ref s1)]) (fun m => by first | (simp [entryFrame, mkF, argsToLocals, Value.category]; done) | rfl) ?_
  intro p_ e_ s_ m_ bel_ mt_ cd_ C
  refine g_aload_n C d_prog_3_method_1_0 rfl rfl (pc' := 1) rfl ?_
  refine g_specialC C (W := 0) (argsL := []) (rest := []) (con_rec l Z a0 hw h o) rfl (W66 hw) (W45 hw) (W47 hw) (W48 hw) (by first | decide | exact Nat.le_of_ble_eq_true rfl) rfl (lenOf pd0 rfl) rfl (Nat.le_of_eq rfl) d_prog_3_method_1_1 (pc' := 4) rfl (by first | decide | exact Nat.le_of_ble_eq_true rfl) (by first | decide | exact Nat.le_of_ble_eq_true rfl) (fun _ q => nomatch q) (by first | decide | exact Nat.le_of_ble_eq_true rfl) (by first | decide | exact Nat.le_of_ble_eq_true rfl) ?_
  rintro _ hh ⟨rfl, eh_⟩ K0
  subst hh
  refine g_norm (cells' := 0) (slots' := 0) (st' := []) (by first | decide | exact Nat.le_of_ble_eq_true rfl) (by first | decide | exact Nat.le_of_ble_eq_true rfl) rfl ?_
  refine g_aload_n C d_prog_3_method_1_4 rfl rfl (pc' := 5) rfl ?_
  refine g_aload_n C d_prog_3_method_1_5 rfl rfl (pc' := 6) rfl ?_
  refine g_putfield C (W67 hw) Via.refl (v' := (.ref s0)) (F0_0) (E0) (Or.inr ⟨(W68 hw), rfl, rfl⟩) (W61 hw) (ty := (.object "java/lang/String")) (by first | decide | exact Nat.le_of_ble_eq_true rfl) rfl rfl (Or.inl (List.mem_cons_self ..)) d_prog_3_method_1_6 (pc' := 9) rfl ?_
  intro h1 V1
  have E1 := (E0).wr V1
  have F0_1 := (F0_0).same V1
  have F1_1 := (F1_0).other V1 (Or.inr (slot_ne (Or.inr (W70 hw)) (Or.inr (W68 hw)) (by first | decide | exact Nat.le_of_ble_eq_true rfl) (t := (.object "java/lang/String")) (by first | decide | exact Nat.le_of_ble_eq_true rfl) (t' := (.object "java/lang/String")) (by first | decide | exact Nat.le_of_ble_eq_true rfl)))
  refine g_aload_n C d_prog_3_method_1_9 rfl rfl (pc' := 10) rfl ?_
  refine g_aload_n C d_prog_3_method_1_10 rfl rfl (pc' := 11) rfl ?_
  refine g_putfield C (W69 hw) Via.refl (v' := (.ref s1)) (F1_1) (E1) (Or.inr ⟨(W70 hw), rfl, rfl⟩) (W61 hw) (ty := (.object "java/lang/String")) (by first | decide | exact Nat.le_of_ble_eq_true rfl) rfl rfl (Or.inl (List.mem_cons_self ..)) d_prog_3_method_1_11 (pc' := 14) rfl ?_
  intro h2 V2
  have E2 := (E1).wr V2
  have F0_2 := (F0_1).other V2 (Or.inr (slot_ne (Or.inr (W68 hw)) (Or.inr (W70 hw)) (by first | decide | exact Nat.le_of_ble_eq_true rfl) (t := (.object "java/lang/String")) (by first | decide | exact Nat.le_of_ble_eq_true rfl) (t' := (.object "java/lang/String")) (by first | decide | exact Nat.le_of_ble_eq_true rfl)))
  have F1_2 := (F1_1).same V2
  exact g_return C d_prog_3_method_1_14 (⟨rfl, E2, F0_2, F1_2⟩) (by first | decide | exact Nat.le_of_ble_eq_true rfl) (by first | decide | exact Nat.le_of_ble_eq_true rfl)
set_option maxRecDepth 65536 in
set_option maxHeartbeats 40000000 in
theorem con_hold (l : Launch) (Z : State) (a0 : Array Value) (hw : ∀ d ∈ tables_1, d.before a0 Z = true)  (h : Heap) (o s0 s1 s2 s3 s4 s5 : Addr) (E0 : Exa Z h o "com/example/pledgewire/pledgewire/Holding") (F0_0 : Fld Z h o "com/example/pledgewire/pledgewire/Holding" "account" "Lcom/example/pledgewire/pledgewire/Reference$AssetAccount;" .null) (F1_0 : Fld Z h o "com/example/pledgewire/pledgewire/Holding" "kind" "Lcom/example/pledgewire/pledgewire/AssetKind;" .null) (F2_0 : Fld Z h o "com/example/pledgewire/pledgewire/Holding" "cusip" "Ljava/lang/String;" .null) (F3_0 : Fld Z h o "com/example/pledgewire/pledgewire/Holding" "isin" "Ljava/lang/String;" .null) (F4_0 : Fld Z h o "com/example/pledgewire/pledgewire/Holding" "ticker" "Ljava/lang/String;" .null) (F5_0 : Fld Z h o "com/example/pledgewire/pledgewire/Holding" "custodian" "Ljava/lang/String;" .null) : Con l Z [o] (⟨"com/example/pledgewire/pledgewire/Holding", "<init>", "(Lcom/example/pledgewire/pledgewire/Reference$AssetAccount;Lcom/example/pledgewire/pledgewire/AssetKind;Ljava/lang/String;Ljava/lang/String;Ljava/lang/String;Ljava/lang/String;)V"⟩ : MethodName) prog_33_method_1_code 7 (none) ({ frames := 2, cells := 0, slots := 0, locals := 24 } : Room) #[(.ref o), (.ref s0), (.ref s1), (.ref s2), (.ref s3), (.ref s4), (.ref s5)] h [] (fun v h' => v = none ∧ Exa Z h' o "com/example/pledgewire/pledgewire/Holding" ∧ Fld Z h' o "com/example/pledgewire/pledgewire/Holding" "account" "Lcom/example/pledgewire/pledgewire/Reference$AssetAccount;" (.ref s0) ∧ Fld Z h' o "com/example/pledgewire/pledgewire/Holding" "kind" "Lcom/example/pledgewire/pledgewire/AssetKind;" (.ref s1) ∧ Fld Z h' o "com/example/pledgewire/pledgewire/Holding" "cusip" "Ljava/lang/String;" (.ref s2) ∧ Fld Z h' o "com/example/pledgewire/pledgewire/Holding" "isin" "Ljava/lang/String;" (.ref s3) ∧ Fld Z h' o "com/example/pledgewire/pledgewire/Holding" "ticker" "Ljava/lang/String;" (.ref s4) ∧ Fld Z h' o "com/example/pledgewire/pledgewire/Holding" "custodian" "Ljava/lang/String;" (.ref s5)) := by
  refine Con.of (plainFor_of_name pn4) (Ls := #[.val (.ref o), .val (.ref s0), .val (.ref s1), .val (.ref s2), .val (.ref s3), .val (.ref s4), .val (.ref s5)]) (fun m => by first | (simp [entryFrame, mkF, argsToLocals, Value.category]; done) | rfl) ?_
  intro p_ e_ s_ m_ bel_ mt_ cd_ C
  refine g_aload_n C d_prog_33_method_1_0 rfl rfl (pc' := 1) rfl ?_
  refine g_specialC C (W := 0) (argsL := []) (rest := []) (con_rec l Z a0 hw h o) rfl (W74 hw) (W45 hw) (W47 hw) (W48 hw) (by first | decide | exact Nat.le_of_ble_eq_true rfl) rfl (lenOf pd0 rfl) rfl (Nat.le_of_eq rfl) d_prog_33_method_1_1 (pc' := 4) rfl (by first | decide | exact Nat.le_of_ble_eq_true rfl) (by first | decide | exact Nat.le_of_ble_eq_true rfl) (fun _ q => nomatch q) (by first | decide | exact Nat.le_of_ble_eq_true rfl) (by first | decide | exact Nat.le_of_ble_eq_true rfl) ?_
  rintro _ hh ⟨rfl, eh_⟩ K0
  subst hh
  refine g_norm (cells' := 0) (slots' := 0) (st' := []) (by first | decide | exact Nat.le_of_ble_eq_true rfl) (by first | decide | exact Nat.le_of_ble_eq_true rfl) rfl ?_
  refine g_aload_n C d_prog_33_method_1_4 rfl rfl (pc' := 5) rfl ?_
  refine g_aload_n C d_prog_33_method_1_5 rfl rfl (pc' := 6) rfl ?_
  refine g_putfield C (W75 hw) Via.refl (v' := (.ref s0)) (F0_0) (E0) (Or.inr ⟨(W76 hw), rfl, rfl⟩) (W36 hw) (ty := (.object "com/example/pledgewire/pledgewire/Reference$AssetAccount")) (by first | decide | exact Nat.le_of_ble_eq_true rfl) rfl rfl (Or.inl (List.mem_cons_self ..)) d_prog_33_method_1_6 (pc' := 9) rfl ?_
  intro h1 V1
  have E1 := (E0).wr V1
  have F0_1 := (F0_0).same V1
  have F1_1 := (F1_0).other V1 (Or.inr (slot_ne (Or.inr (W78 hw)) (Or.inr (W76 hw)) (by first | decide | exact Nat.le_of_ble_eq_true rfl) (t := (.object "com/example/pledgewire/pledgewire/AssetKind")) (by first | decide | exact Nat.le_of_ble_eq_true rfl) (t' := (.object "com/example/pledgewire/pledgewire/Reference$AssetAccount")) (by first | decide | exact Nat.le_of_ble_eq_true rfl)))
  have F2_1 := (F2_0).other V1 (Or.inr (slot_ne (Or.inr (W80 hw)) (Or.inr (W76 hw)) (by first | decide | exact Nat.le_of_ble_eq_true rfl) (t := (.object "java/lang/String")) (by first | decide | exact Nat.le_of_ble_eq_true rfl) (t' := (.object "com/example/pledgewire/pledgewire/Reference$AssetAccount")) (by first | decide | exact Nat.le_of_ble_eq_true rfl)))
  have F3_1 := (F3_0).other V1 (Or.inr (slot_ne (Or.inr (W82 hw)) (Or.inr (W76 hw)) (by first | decide | exact Nat.le_of_ble_eq_true rfl) (t := (.object "java/lang/String")) (by first | decide | exact Nat.le_of_ble_eq_true rfl) (t' := (.object "com/example/pledgewire/pledgewire/Reference$AssetAccount")) (by first | decide | exact Nat.le_of_ble_eq_true rfl)))
  have F4_1 := (F4_0).other V1 (Or.inr (slot_ne (Or.inr (W84 hw)) (Or.inr (W76 hw)) (by first | decide | exact Nat.le_of_ble_eq_true rfl) (t := (.object "java/lang/String")) (by first | decide | exact Nat.le_of_ble_eq_true rfl) (t' := (.object "com/example/pledgewire/pledgewire/Reference$AssetAccount")) (by first | decide | exact Nat.le_of_ble_eq_true rfl)))
  have F5_1 := (F5_0).other V1 (Or.inr (slot_ne (Or.inr (W86 hw)) (Or.inr (W76 hw)) (by first | decide | exact Nat.le_of_ble_eq_true rfl) (t := (.object "java/lang/String")) (by first | decide | exact Nat.le_of_ble_eq_true rfl) (t' := (.object "com/example/pledgewire/pledgewire/Reference$AssetAccount")) (by first | decide | exact Nat.le_of_ble_eq_true rfl)))
  refine g_aload_n C d_prog_33_method_1_9 rfl rfl (pc' := 10) rfl ?_
  refine g_aload_n C d_prog_33_method_1_10 rfl rfl (pc' := 11) rfl ?_
  refine g_putfield C (W77 hw) Via.refl (v' := (.ref s1)) (F1_1) (E1) (Or.inr ⟨(W78 hw), rfl, rfl⟩) (W36 hw) (ty := (.object "com/example/pledgewire/pledgewire/AssetKind")) (by first | decide | exact Nat.le_of_ble_eq_true rfl) rfl rfl (Or.inl (List.mem_cons_self ..)) d_prog_33_method_1_11 (pc' := 14) rfl ?_
  intro h2 V2
  have E2 := (E1).wr V2
  have F0_2 := (F0_1).other V2 (Or.inr (slot_ne (Or.inr (W76 hw)) (Or.inr (W78 hw)) (by first | decide | exact Nat.le_of_ble_eq_true rfl) (t := (.object "com/example/pledgewire/pledgewire/Reference$AssetAccount")) (by first | decide | exact Nat.le_of_ble_eq_true rfl) (t' := (.object "com/example/pledgewire/pledgewire/AssetKind")) (by first | decide | exact Nat.le_of_ble_eq_true rfl)))
  have F1_2 := (F1_1).same V2
  have F2_2 := (F2_1).other V2 (Or.inr (slot_ne (Or.inr (W80 hw)) (Or.inr (W78 hw)) (by first | decide | exact Nat.le_of_ble_eq_true rfl) (t := (.object "java/lang/String")) (by first | decide | exact Nat.le_of_ble_eq_true rfl) (t' := (.object "com/example/pledgewire/pledgewire/AssetKind")) (by first | decide | exact Nat.le_of_ble_eq_true rfl)))
  have F3_2 := (F3_1).other V2 (Or.inr (slot_ne (Or.inr (W82 hw)) (Or.inr (W78 hw)) (by first | decide | exact Nat.le_of_ble_eq_true rfl) (t := (.object "java/lang/String")) (by first | decide | exact Nat.le_of_ble_eq_true rfl) (t' := (.object "com/example/pledgewire/pledgewire/AssetKind")) (by first | decide | exact Nat.le_of_ble_eq_true rfl)))
  have F4_2 := (F4_1).other V2 (Or.inr (slot_ne (Or.inr (W84 hw)) (Or.inr (W78 hw)) (by first | decide | exact Nat.le_of_ble_eq_true rfl) (t := (.object "java/lang/String")) (by first | decide | exact Nat.le_of_ble_eq_true rfl) (t' := (.object "com/example/pledgewire/pledgewire/AssetKind")) (by first | decide | exact Nat.le_of_ble_eq_true rfl)))
  have F5_2 := (F5_1).other V2 (Or.inr (slot_ne (Or.inr (W86 hw)) (Or.inr (W78 hw)) (by first | decide | exact Nat.le_of_ble_eq_true rfl) (t := (.object "java/lang/String")) (by first | decide | exact Nat.le_of_ble_eq_true rfl) (t' := (.object "com/example/pledgewire/pledgewire/AssetKind")) (by first | decide | exact Nat.le_of_ble_eq_true rfl)))
  refine g_aload_n C d_prog_33_method_1_14 rfl rfl (pc' := 15) rfl ?_
  refine g_aload_n C d_prog_33_method_1_15 rfl rfl (pc' := 16) rfl ?_
  refine g_putfield C (W79 hw) Via.refl (v' := (.ref s2)) (F2_2) (E2) (Or.inr ⟨(W80 hw), rfl, rfl⟩) (W36 hw) (ty := (.object "java/lang/String")) (by first | decide | exact Nat.le_of_ble_eq_true rfl) rfl rfl (Or.inl (List.mem_cons_self ..)) d_prog_33_method_1_16 (pc' := 19) rfl ?_
  intro h3 V3
  have E3 := (E2).wr V3
  have F0_3 := (F0_2).other V3 (Or.inr (slot_ne (Or.inr (W76 hw)) (Or.inr (W80 hw)) (by first | decide | exact Nat.le_of_ble_eq_true rfl) (t := (.object "com/example/pledgewire/pledgewire/Reference$AssetAccount")) (by first | decide | exact Nat.le_of_ble_eq_true rfl) (t' := (.object "java/lang/String")) (by first | decide | exact Nat.le_of_ble_eq_true rfl)))
  have F1_3 := (F1_2).other V3 (Or.inr (slot_ne (Or.inr (W78 hw)) (Or.inr (W80 hw)) (by first | decide | exact Nat.le_of_ble_eq_true rfl) (t := (.object "com/example/pledgewire/pledgewire/AssetKind")) (by first | decide | exact Nat.le_of_ble_eq_true rfl) (t' := (.object "java/lang/String")) (by first | decide | exact Nat.le_of_ble_eq_true rfl)))
  have F2_3 := (F2_2).same V3
  have F3_3 := (F3_2).other V3 (Or.inr (slot_ne (Or.inr (W82 hw)) (Or.inr (W80 hw)) (by first | decide | exact Nat.le_of_ble_eq_true rfl) (t := (.object "java/lang/String")) (by first | decide | exact Nat.le_of_ble_eq_true rfl) (t' := (.object "java/lang/String")) (by first | decide | exact Nat.le_of_ble_eq_true rfl)))
  have F4_3 := (F4_2).other V3 (Or.inr (slot_ne (Or.inr (W84 hw)) (Or.inr (W80 hw)) (by first | decide | exact Nat.le_of_ble_eq_true rfl) (t := (.object "java/lang/String")) (by first | decide | exact Nat.le_of_ble_eq_true rfl) (t' := (.object "java/lang/String")) (by first | decide | exact Nat.le_of_ble_eq_true rfl)))
  have F5_3 := (F5_2).other V3 (Or.inr (slot_ne (Or.inr (W86 hw)) (Or.inr (W80 hw)) (by first | decide | exact Nat.le_of_ble_eq_true rfl) (t := (.object "java/lang/String")) (by first | decide | exact Nat.le_of_ble_eq_true rfl) (t' := (.object "java/lang/String")) (by first | decide | exact Nat.le_of_ble_eq_true rfl)))
  refine g_aload_n C d_prog_33_method_1_19 rfl rfl (pc' := 20) rfl ?_
  refine g_aload C d_prog_33_method_1_20 rfl rfl (pc' := 22) rfl ?_
  refine g_putfield C (W81 hw) Via.refl (v' := (.ref s3)) (F3_3) (E3) (Or.inr ⟨(W82 hw), rfl, rfl⟩) (W36 hw) (ty := (.object "java/lang/String")) (by first | decide | exact Nat.le_of_ble_eq_true rfl) rfl rfl (Or.inl (List.mem_cons_self ..)) d_prog_33_method_1_22 (pc' := 25) rfl ?_
  intro h4 V4
  have E4 := (E3).wr V4
  have F0_4 := (F0_3).other V4 (Or.inr (slot_ne (Or.inr (W76 hw)) (Or.inr (W82 hw)) (by first | decide | exact Nat.le_of_ble_eq_true rfl) (t := (.object "com/example/pledgewire/pledgewire/Reference$AssetAccount")) (by first | decide | exact Nat.le_of_ble_eq_true rfl) (t' := (.object "java/lang/String")) (by first | decide | exact Nat.le_of_ble_eq_true rfl)))
  have F1_4 := (F1_3).other V4 (Or.inr (slot_ne (Or.inr (W78 hw)) (Or.inr (W82 hw)) (by first | decide | exact Nat.le_of_ble_eq_true rfl) (t := (.object "com/example/pledgewire/pledgewire/AssetKind")) (by first | decide | exact Nat.le_of_ble_eq_true rfl) (t' := (.object "java/lang/String")) (by first | decide | exact Nat.le_of_ble_eq_true rfl)))
  have F2_4 := (F2_3).other V4 (Or.inr (slot_ne (Or.inr (W80 hw)) (Or.inr (W82 hw)) (by first | decide | exact Nat.le_of_ble_eq_true rfl) (t := (.object "java/lang/String")) (by first | decide | exact Nat.le_of_ble_eq_true rfl) (t' := (.object "java/lang/String")) (by first | decide | exact Nat.le_of_ble_eq_true rfl)))
  have F3_4 := (F3_3).same V4
  have F4_4 := (F4_3).other V4 (Or.inr (slot_ne (Or.inr (W84 hw)) (Or.inr (W82 hw)) (by first | decide | exact Nat.le_of_ble_eq_true rfl) (t := (.object "java/lang/String")) (by first | decide | exact Nat.le_of_ble_eq_true rfl) (t' := (.object "java/lang/String")) (by first | decide | exact Nat.le_of_ble_eq_true rfl)))
  have F5_4 := (F5_3).other V4 (Or.inr (slot_ne (Or.inr (W86 hw)) (Or.inr (W82 hw)) (by first | decide | exact Nat.le_of_ble_eq_true rfl) (t := (.object "java/lang/String")) (by first | decide | exact Nat.le_of_ble_eq_true rfl) (t' := (.object "java/lang/String")) (by first | decide | exact Nat.le_of_ble_eq_true rfl)))
  refine g_aload_n C d_prog_33_method_1_25 rfl rfl (pc' := 26) rfl ?_
  refine g_aload C d_prog_33_method_1_26 rfl rfl (pc' := 28) rfl ?_
  refine g_putfield C (W83 hw) Via.refl (v' := (.ref s4)) (F4_4) (E4) (Or.inr ⟨(W84 hw), rfl, rfl⟩) (W36 hw) (ty := (.object "java/lang/String")) (by first | decide | exact Nat.le_of_ble_eq_true rfl) rfl rfl (Or.inl (List.mem_cons_self ..)) d_prog_33_method_1_28 (pc' := 31) rfl ?_
  intro h5 V5
  have E5 := (E4).wr V5
  have F0_5 := (F0_4).other V5 (Or.inr (slot_ne (Or.inr (W76 hw)) (Or.inr (W84 hw)) (by first | decide | exact Nat.le_of_ble_eq_true rfl) (t := (.object "com/example/pledgewire/pledgewire/Reference$AssetAccount")) (by first | decide | exact Nat.le_of_ble_eq_true rfl) (t' := (.object "java/lang/String")) (by first | decide | exact Nat.le_of_ble_eq_true rfl)))
  have F1_5 := (F1_4).other V5 (Or.inr (slot_ne (Or.inr (W78 hw)) (Or.inr (W84 hw)) (by first | decide | exact Nat.le_of_ble_eq_true rfl) (t := (.object "com/example/pledgewire/pledgewire/AssetKind")) (by first | decide | exact Nat.le_of_ble_eq_true rfl) (t' := (.object "java/lang/String")) (by first | decide | exact Nat.le_of_ble_eq_true rfl)))
  have F2_5 := (F2_4).other V5 (Or.inr (slot_ne (Or.inr (W80 hw)) (Or.inr (W84 hw)) (by first | decide | exact Nat.le_of_ble_eq_true rfl) (t := (.object "java/lang/String")) (by first | decide | exact Nat.le_of_ble_eq_true rfl) (t' := (.object "java/lang/String")) (by first | decide | exact Nat.le_of_ble_eq_true rfl)))
  have F3_5 := (F3_4).other V5 (Or.inr (slot_ne (Or.inr (W82 hw)) (Or.inr (W84 hw)) (by first | decide | exact Nat.le_of_ble_eq_true rfl) (t := (.object "java/lang/String")) (by first | decide | exact Nat.le_of_ble_eq_true rfl) (t' := (.object "java/lang/String")) (by first | decide | exact Nat.le_of_ble_eq_true rfl)))
  have F4_5 := (F4_4).same V5
  have F5_5 := (F5_4).other V5 (Or.inr (slot_ne (Or.inr (W86 hw)) (Or.inr (W84 hw)) (by first | decide | exact Nat.le_of_ble_eq_true rfl) (t := (.object "java/lang/String")) (by first | decide | exact Nat.le_of_ble_eq_true rfl) (t' := (.object "java/lang/String")) (by first | decide | exact Nat.le_of_ble_eq_true rfl)))
  refine g_aload_n C d_prog_33_method_1_31 rfl rfl (pc' := 32) rfl ?_
  refine g_aload C d_prog_33_method_1_32 rfl rfl (pc' := 34) rfl ?_
  refine g_putfield C (W85 hw) Via.refl (v' := (.ref s5)) (F5_5) (E5) (Or.inr ⟨(W86 hw), rfl, rfl⟩) (W36 hw) (ty := (.object "java/lang/String")) (by first | decide | exact Nat.le_of_ble_eq_true rfl) rfl rfl (Or.inl (List.mem_cons_self ..)) d_prog_33_method_1_34 (pc' := 37) rfl ?_
  intro h6 V6
  have E6 := (E5).wr V6
  have F0_6 := (F0_5).other V6 (Or.inr (slot_ne (Or.inr (W76 hw)) (Or.inr (W86 hw)) (by first | decide | exact Nat.le_of_ble_eq_true rfl) (t := (.object "com/example/pledgewire/pledgewire/Reference$AssetAccount")) (by first | decide | exact Nat.le_of_ble_eq_true rfl) (t' := (.object "java/lang/String")) (by first | decide | exact Nat.le_of_ble_eq_true rfl)))
  have F1_6 := (F1_5).other V6 (Or.inr (slot_ne (Or.inr (W78 hw)) (Or.inr (W86 hw)) (by first | decide | exact Nat.le_of_ble_eq_true rfl) (t := (.object "com/example/pledgewire/pledgewire/AssetKind")) (by first | decide | exact Nat.le_of_ble_eq_true rfl) (t' := (.object "java/lang/String")) (by first | decide | exact Nat.le_of_ble_eq_true rfl)))
  have F2_6 := (F2_5).other V6 (Or.inr (slot_ne (Or.inr (W80 hw)) (Or.inr (W86 hw)) (by first | decide | exact Nat.le_of_ble_eq_true rfl) (t := (.object "java/lang/String")) (by first | decide | exact Nat.le_of_ble_eq_true rfl) (t' := (.object "java/lang/String")) (by first | decide | exact Nat.le_of_ble_eq_true rfl)))
  have F3_6 := (F3_5).other V6 (Or.inr (slot_ne (Or.inr (W82 hw)) (Or.inr (W86 hw)) (by first | decide | exact Nat.le_of_ble_eq_true rfl) (t := (.object "java/lang/String")) (by first | decide | exact Nat.le_of_ble_eq_true rfl) (t' := (.object "java/lang/String")) (by first | decide | exact Nat.le_of_ble_eq_true rfl)))
  have F4_6 := (F4_5).other V6 (Or.inr (slot_ne (Or.inr (W84 hw)) (Or.inr (W86 hw)) (by first | decide | exact Nat.le_of_ble_eq_true rfl) (t := (.object "java/lang/String")) (by first | decide | exact Nat.le_of_ble_eq_true rfl) (t' := (.object "java/lang/String")) (by first | decide | exact Nat.le_of_ble_eq_true rfl)))
  have F5_6 := (F5_5).same V6
  exact g_return C d_prog_33_method_1_37 (⟨rfl, E6, F0_6, F1_6, F2_6, F3_6, F4_6, F5_6⟩) (by first | decide | exact Nat.le_of_ble_eq_true rfl) (by first | decide | exact Nat.le_of_ble_eq_true rfl)
set_option maxRecDepth 65536 in
set_option maxHeartbeats 40000000 in
theorem con_get_cmf (l : Launch) (Z : State) (a0 : Array Value) (hw : ∀ d ∈ tables_1, d.before a0 Z = true)  (h : Heap) (o v : Addr) (F : Fld Z h o "com/example/pledgewire/pledgewire/Reference$AssetAccount" "cmf" "Ljava/lang/String;" (.ref v)) : Con l Z [] (⟨"com/example/pledgewire/pledgewire/Reference$AssetAccount", "cmf", "()Ljava/lang/String;"⟩ : MethodName) prog_55_method_5_code 1 ((some (Jvm.ClassFile.FieldType.object "java/lang/String"))) ({ frames := 0, cells := 0, slots := 0, locals := 0 } : Room) #[(.ref o)] h [] (fun u h' => u = some (.ref v) ∧ h' = h) := by
  refine Con.of (plainFor_of_name pn2) (Ls := #[.val (.ref o)]) (fun m => by first | (simp [entryFrame, mkF, argsToLocals, Value.category]; done) | rfl) ?_
  intro p_ e_ s_ m_ bel_ mt_ cd_ C
  refine g_aload_n C d_prog_55_method_5_0 rfl rfl (pc' := 1) rfl ?_
  refine g_getfield C (W50 hw) Via.refl (F) d_prog_55_method_5_1 (pc' := 4) rfl ?_
  exact g_areturn C rfl rfl d_prog_55_method_5_4 (⟨rfl, rfl⟩) (by first | decide | exact Nat.le_of_ble_eq_true rfl) (by first | decide | exact Nat.le_of_ble_eq_true rfl)
set_option maxRecDepth 65536 in
set_option maxHeartbeats 40000000 in
theorem con_get_aa (l : Launch) (Z : State) (a0 : Array Value) (hw : ∀ d ∈ tables_1, d.before a0 Z = true)  (h : Heap) (o v : Addr) (F : Fld Z h o "com/example/pledgewire/pledgewire/Reference$AssetAccount" "aa" "Ljava/lang/String;" (.ref v)) : Con l Z [] (⟨"com/example/pledgewire/pledgewire/Reference$AssetAccount", "aa", "()Ljava/lang/String;"⟩ : MethodName) prog_55_method_6_code 1 ((some (Jvm.ClassFile.FieldType.object "java/lang/String"))) ({ frames := 0, cells := 0, slots := 0, locals := 0 } : Room) #[(.ref o)] h [] (fun u h' => u = some (.ref v) ∧ h' = h) := by
  refine Con.of (plainFor_of_name pn2) (Ls := #[.val (.ref o)]) (fun m => by first | (simp [entryFrame, mkF, argsToLocals, Value.category]; done) | rfl) ?_
  intro p_ e_ s_ m_ bel_ mt_ cd_ C
  refine g_aload_n C d_prog_55_method_6_0 rfl rfl (pc' := 1) rfl ?_
  refine g_getfield C (W52 hw) Via.refl (F) d_prog_55_method_6_1 (pc' := 4) rfl ?_
  exact g_areturn C rfl rfl d_prog_55_method_6_4 (⟨rfl, rfl⟩) (by first | decide | exact Nat.le_of_ble_eq_true rfl) (by first | decide | exact Nat.le_of_ble_eq_true rfl)
set_option maxRecDepth 65536 in
set_option maxHeartbeats 40000000 in
theorem con_get_fseg (l : Launch) (Z : State) (a0 : Array Value) (hw : ∀ d ∈ tables_1, d.before a0 Z = true)  (h : Heap) (o v : Addr) (F : Fld Z h o "com/example/pledgewire/pledgewire/Reference$AssetAccount" "fseg" "Ljava/lang/String;" (.ref v)) : Con l Z [] (⟨"com/example/pledgewire/pledgewire/Reference$AssetAccount", "fseg", "()Ljava/lang/String;"⟩ : MethodName) prog_55_method_7_code 1 ((some (Jvm.ClassFile.FieldType.object "java/lang/String"))) ({ frames := 0, cells := 0, slots := 0, locals := 0 } : Room) #[(.ref o)] h [] (fun u h' => u = some (.ref v) ∧ h' = h) := by
  refine Con.of (plainFor_of_name pn2) (Ls := #[.val (.ref o)]) (fun m => by first | (simp [entryFrame, mkF, argsToLocals, Value.category]; done) | rfl) ?_
  intro p_ e_ s_ m_ bel_ mt_ cd_ C
  refine g_aload_n C d_prog_55_method_7_0 rfl rfl (pc' := 1) rfl ?_
  refine g_getfield C (W54 hw) Via.refl (F) d_prog_55_method_7_1 (pc' := 4) rfl ?_
  exact g_areturn C rfl rfl d_prog_55_method_7_4 (⟨rfl, rfl⟩) (by first | decide | exact Nat.le_of_ble_eq_true rfl) (by first | decide | exact Nat.le_of_ble_eq_true rfl)
set_option maxRecDepth 65536 in
set_option maxHeartbeats 40000000 in
theorem con_get_acctType (l : Launch) (Z : State) (a0 : Array Value) (hw : ∀ d ∈ tables_1, d.before a0 Z = true)  (h : Heap) (o v : Addr) (F : Fld Z h o "com/example/pledgewire/pledgewire/Reference$AssetAccount" "acctType" "Ljava/lang/String;" (.ref v)) : Con l Z [] (⟨"com/example/pledgewire/pledgewire/Reference$AssetAccount", "acctType", "()Ljava/lang/String;"⟩ : MethodName) prog_55_method_8_code 1 ((some (Jvm.ClassFile.FieldType.object "java/lang/String"))) ({ frames := 0, cells := 0, slots := 0, locals := 0 } : Room) #[(.ref o)] h [] (fun u h' => u = some (.ref v) ∧ h' = h) := by
  refine Con.of (plainFor_of_name pn2) (Ls := #[.val (.ref o)]) (fun m => by first | (simp [entryFrame, mkF, argsToLocals, Value.category]; done) | rfl) ?_
  intro p_ e_ s_ m_ bel_ mt_ cd_ C
  refine g_aload_n C d_prog_55_method_8_0 rfl rfl (pc' := 1) rfl ?_
  refine g_getfield C (W56 hw) Via.refl (F) d_prog_55_method_8_1 (pc' := 4) rfl ?_
  exact g_areturn C rfl rfl d_prog_55_method_8_4 (⟨rfl, rfl⟩) (by first | decide | exact Nat.le_of_ble_eq_true rfl) (by first | decide | exact Nat.le_of_ble_eq_true rfl)
set_option maxRecDepth 65536 in
set_option maxHeartbeats 40000000 in
theorem con_get_busFunc (l : Launch) (Z : State) (a0 : Array Value) (hw : ∀ d ∈ tables_1, d.before a0 Z = true)  (h : Heap) (o v : Addr) (F : Fld Z h o "com/example/pledgewire/pledgewire/Reference$AssetAccount" "busFunc" "Ljava/lang/String;" (.ref v)) : Con l Z [] (⟨"com/example/pledgewire/pledgewire/Reference$AssetAccount", "busFunc", "()Ljava/lang/String;"⟩ : MethodName) prog_55_method_9_code 1 ((some (Jvm.ClassFile.FieldType.object "java/lang/String"))) ({ frames := 0, cells := 0, slots := 0, locals := 0 } : Room) #[(.ref o)] h [] (fun u h' => u = some (.ref v) ∧ h' = h) := by
  refine Con.of (plainFor_of_name pn2) (Ls := #[.val (.ref o)]) (fun m => by first | (simp [entryFrame, mkF, argsToLocals, Value.category]; done) | rfl) ?_
  intro p_ e_ s_ m_ bel_ mt_ cd_ C
  refine g_aload_n C d_prog_55_method_9_0 rfl rfl (pc' := 1) rfl ?_
  refine g_getfield C (W58 hw) Via.refl (F) d_prog_55_method_9_1 (pc' := 4) rfl ?_
  exact g_areturn C rfl rfl d_prog_55_method_9_4 (⟨rfl, rfl⟩) (by first | decide | exact Nat.le_of_ble_eq_true rfl) (by first | decide | exact Nat.le_of_ble_eq_true rfl)
set_option maxRecDepth 65536 in
set_option maxHeartbeats 40000000 in
theorem con_get_type (l : Launch) (Z : State) (a0 : Array Value) (hw : ∀ d ∈ tables_1, d.before a0 Z = true)  (h : Heap) (o v : Addr) (F : Fld Z h o "com/example/pledgewire/pledgewire/AssetKind" "type" "Ljava/lang/String;" (.ref v)) : Con l Z [] (⟨"com/example/pledgewire/pledgewire/AssetKind", "type", "()Ljava/lang/String;"⟩ : MethodName) prog_3_method_8_code 1 ((some (Jvm.ClassFile.FieldType.object "java/lang/String"))) ({ frames := 0, cells := 0, slots := 0, locals := 0 } : Room) #[(.ref o)] h [] (fun u h' => u = some (.ref v) ∧ h' = h) := by
  refine Con.of (plainFor_of_name pn3) (Ls := #[.val (.ref o)]) (fun m => by first | (simp [entryFrame, mkF, argsToLocals, Value.category]; done) | rfl) ?_
  intro p_ e_ s_ m_ bel_ mt_ cd_ C
  refine g_aload_n C d_prog_3_method_8_0 rfl rfl (pc' := 1) rfl ?_
  refine g_getfield C (W67 hw) Via.refl (F) d_prog_3_method_8_1 (pc' := 4) rfl ?_
  exact g_areturn C rfl rfl d_prog_3_method_8_4 (⟨rfl, rfl⟩) (by first | decide | exact Nat.le_of_ble_eq_true rfl) (by first | decide | exact Nat.le_of_ble_eq_true rfl)
set_option maxRecDepth 65536 in
set_option maxHeartbeats 40000000 in
theorem con_get_ccy (l : Launch) (Z : State) (a0 : Array Value) (hw : ∀ d ∈ tables_1, d.before a0 Z = true)  (h : Heap) (o v : Addr) (F : Fld Z h o "com/example/pledgewire/pledgewire/AssetKind" "ccy" "Ljava/lang/String;" (.ref v)) : Con l Z [] (⟨"com/example/pledgewire/pledgewire/AssetKind", "ccy", "()Ljava/lang/String;"⟩ : MethodName) prog_3_method_9_code 1 ((some (Jvm.ClassFile.FieldType.object "java/lang/String"))) ({ frames := 0, cells := 0, slots := 0, locals := 0 } : Room) #[(.ref o)] h [] (fun u h' => u = some (.ref v) ∧ h' = h) := by
  refine Con.of (plainFor_of_name pn3) (Ls := #[.val (.ref o)]) (fun m => by first | (simp [entryFrame, mkF, argsToLocals, Value.category]; done) | rfl) ?_
  intro p_ e_ s_ m_ bel_ mt_ cd_ C
  refine g_aload_n C d_prog_3_method_9_0 rfl rfl (pc' := 1) rfl ?_
  refine g_getfield C (W69 hw) Via.refl (F) d_prog_3_method_9_1 (pc' := 4) rfl ?_
  exact g_areturn C rfl rfl d_prog_3_method_9_4 (⟨rfl, rfl⟩) (by first | decide | exact Nat.le_of_ble_eq_true rfl) (by first | decide | exact Nat.le_of_ble_eq_true rfl)
set_option maxRecDepth 65536 in
set_option maxHeartbeats 40000000 in
theorem con_rnn (l : Launch) (Z : State) (a0 : Array Value) (hw : ∀ d ∈ tables_1, d.before a0 Z = true)  (h : Heap) (o : Addr) : Con l Z [] (⟨"java/util/Objects", "requireNonNull", "(Ljava/lang/Object;)Ljava/lang/Object;"⟩ : MethodName) jdk_31_method_10_code 1 ((some (Jvm.ClassFile.FieldType.object "java/lang/Object"))) ({ frames := 0, cells := 0, slots := 0, locals := 0 } : Room) #[(.ref o)] h [] (fun v h' => v = some (.ref o) ∧ h' = h) := by
  refine Con.of (plainFor_of_name pn5) (Ls := #[.val (.ref o)]) (fun m => by first | (simp [entryFrame, mkF, argsToLocals, Value.category]; done) | rfl) ?_
  intro p_ e_ s_ m_ bel_ mt_ cd_ C
  refine g_aload_n C d_jdk_31_method_10_0 rfl rfl (pc' := 1) rfl ?_
  refine g_ifnonnull C rfl d_jdk_31_method_10_1 (by first | decide | exact Nat.le_of_ble_eq_true rfl) (pcT := 12) rfl (pcF := 4) rfl (fun _ _ => ?_) (fun z => nomatch z)
  refine g_aload_n C d_jdk_31_method_10_12 rfl rfl (pc' := 13) rfl ?_
  exact g_areturn C rfl rfl d_jdk_31_method_10_13 (⟨rfl, rfl⟩) (by first | decide | exact Nat.le_of_ble_eq_true rfl) (by first | decide | exact Nat.le_of_ble_eq_true rfl)
set_option maxRecDepth 65536 in
set_option maxHeartbeats 40000000 in
theorem con_ac0 (l : Launch) (Z : State) (a0 : Array Value) (hw : ∀ d ∈ tables_1, d.before a0 Z = true)  (h : Heap) (o : Addr) : Con l Z [] (⟨"java/util/AbstractCollection", "<init>", "()V"⟩ : MethodName) jdk_22_method_1_code 1 (none) ({ frames := 1, cells := 0, slots := 0, locals := 12 } : Room) #[(.ref o)] h [] (fun v h' => v = none ∧ h' = h) := by
  refine Con.of (plainFor_of_name pn6) (Ls := #[.val (.ref o)]) (fun m => by first | (simp [entryFrame, mkF, argsToLocals, Value.category]; done) | rfl) ?_
  intro p_ e_ s_ m_ bel_ mt_ cd_ C
  refine g_aload_n C d_jdk_22_method_1_0 rfl rfl (pc' := 1) rfl ?_
  refine g_objinit C (W169 hw) (W17 hw) (W18 hw) rfl (by first | decide | exact Nat.le_of_ble_eq_true rfl) (by first | decide | exact Nat.le_of_ble_eq_true rfl) d_jdk_22_method_1_1 (pc' := 4) rfl ?_
  exact g_return C d_jdk_22_method_1_4 (⟨rfl, rfl⟩) (by first | decide | exact Nat.le_of_ble_eq_true rfl) (by first | decide | exact Nat.le_of_ble_eq_true rfl)
set_option maxRecDepth 65536 in
set_option maxHeartbeats 40000000 in
theorem con_ac1 (l : Launch) (Z : State) (a0 : Array Value) (hw : ∀ d ∈ tables_1, d.before a0 Z = true)  (h : Heap) (o : Addr) : Con l Z [] (⟨"java/util/ImmutableCollections$AbstractImmutableCollection", "<init>", "()V"⟩ : MethodName) jdk_47_method_1_code 1 (none) ({ frames := 2, cells := 0, slots := 0, locals := 24 } : Room) #[(.ref o)] h [] (fun v h' => v = none ∧ h' = h) := by
  refine Con.of (plainFor_of_name pn7) (Ls := #[.val (.ref o)]) (fun m => by first | (simp [entryFrame, mkF, argsToLocals, Value.category]; done) | rfl) ?_
  intro p_ e_ s_ m_ bel_ mt_ cd_ C
  refine g_aload_n C d_jdk_47_method_1_0 rfl rfl (pc' := 1) rfl ?_
  refine g_specialC C (W := 0) (argsL := []) (rest := []) (con_ac0 l Z a0 hw h o) rfl (W163 hw) (W164 hw) (W167 hw) (W168 hw) (by first | decide | exact Nat.le_of_ble_eq_true rfl) rfl (lenOf pd0 rfl) rfl (Nat.le_of_eq rfl) d_jdk_47_method_1_1 (pc' := 4) rfl (by first | decide | exact Nat.le_of_ble_eq_true rfl) (by first | decide | exact Nat.le_of_ble_eq_true rfl) (fun _ q => nomatch q) (by first | decide | exact Nat.le_of_ble_eq_true rfl) (by first | decide | exact Nat.le_of_ble_eq_true rfl) ?_
  rintro _ hh ⟨rfl, eh_⟩ K
  subst hh
  refine g_norm (cells' := 0) (slots' := 0) (st' := []) (by first | decide | exact Nat.le_of_ble_eq_true rfl) (by first | decide | exact Nat.le_of_ble_eq_true rfl) rfl ?_
  exact g_return C d_jdk_47_method_1_4 (⟨rfl, rfl⟩) (by first | decide | exact Nat.le_of_ble_eq_true rfl) (by first | decide | exact Nat.le_of_ble_eq_true rfl)
set_option maxRecDepth 65536 in
set_option maxHeartbeats 40000000 in
theorem con_ac2 (l : Launch) (Z : State) (a0 : Array Value) (hw : ∀ d ∈ tables_1, d.before a0 Z = true)  (h : Heap) (o : Addr) : Con l Z [] (⟨"java/util/ImmutableCollections$AbstractImmutableList", "<init>", "()V"⟩ : MethodName) jdk_46_method_1_code 1 (none) ({ frames := 3, cells := 0, slots := 0, locals := 36 } : Room) #[(.ref o)] h [] (fun v h' => v = none ∧ h' = h) := by
  refine Con.of (plainFor_of_name pn8) (Ls := #[.val (.ref o)]) (fun m => by first | (simp [entryFrame, mkF, argsToLocals, Value.category]; done) | rfl) ?_
  intro p_ e_ s_ m_ bel_ mt_ cd_ C
  refine g_aload_n C d_jdk_46_method_1_0 rfl rfl (pc' := 1) rfl ?_
  refine g_specialC C (W := 0) (argsL := []) (rest := []) (con_ac1 l Z a0 hw h o) rfl (W157 hw) (W158 hw) (W161 hw) (W162 hw) (by first | decide | exact Nat.le_of_ble_eq_true rfl) rfl (lenOf pd0 rfl) rfl (Nat.le_of_eq rfl) d_jdk_46_method_1_1 (pc' := 4) rfl (by first | decide | exact Nat.le_of_ble_eq_true rfl) (by first | decide | exact Nat.le_of_ble_eq_true rfl) (fun _ q => nomatch q) (by first | decide | exact Nat.le_of_ble_eq_true rfl) (by first | decide | exact Nat.le_of_ble_eq_true rfl) ?_
  rintro _ hh ⟨rfl, eh_⟩ K
  subst hh
  refine g_norm (cells' := 0) (slots' := 0) (st' := []) (by first | decide | exact Nat.le_of_ble_eq_true rfl) (by first | decide | exact Nat.le_of_ble_eq_true rfl) rfl ?_
  exact g_return C d_jdk_46_method_1_4 (⟨rfl, rfl⟩) (by first | decide | exact Nat.le_of_ble_eq_true rfl) (by first | decide | exact Nat.le_of_ble_eq_true rfl)
set_option maxRecDepth 65536 in
set_option maxHeartbeats 40000000 in
theorem con_listn (l : Launch) (Z : State) (a0 : Array Value) (hw : ∀ d ∈ tables_1, d.before a0 Z = true)  (h : Heap) (o t : Addr) (E1 : Exa Z h o "java/util/ImmutableCollections$ListN") (F1 : Fld Z h o "java/util/ImmutableCollections$ListN" "elements" "[Ljava/lang/Object;" .null) (F2 : Fld Z h o "java/util/ImmutableCollections$ListN" "allowNulls" "Z" (.int 0)) : Con l Z [o] (⟨"java/util/ImmutableCollections$ListN", "<init>", "([Ljava/lang/Object;Z)V"⟩ : MethodName) jdk_45_method_1_code 3 (none) ({ frames := 4, cells := 0, slots := 0, locals := 48 } : Room) #[(.ref o), (.ref t), (.int (0 : Int32))] h [] (fun v h' => v = none ∧ Exa Z h' o "java/util/ImmutableCollections$ListN" ∧ Fld Z h' o "java/util/ImmutableCollections$ListN" "elements" "[Ljava/lang/Object;" (.ref t)) := by
  refine Con.of (plainFor_of_name pn9) (Ls := #[.val (.ref o), .val (.ref t), .val (.int (0 : Int32))]) (fun m => by first | (simp [entryFrame, mkF, argsToLocals, Value.category]; done) | rfl) ?_
  intro p_ e_ s_ m_ bel_ mt_ cd_ C
  refine g_aload_n C d_jdk_45_method_1_0 rfl rfl (pc' := 1) rfl ?_
  refine g_specialC C (W := 0) (argsL := []) (rest := []) (con_ac2 l Z a0 hw h o) rfl (W151 hw) (W152 hw) (W155 hw) (W156 hw) (by first | decide | exact Nat.le_of_ble_eq_true rfl) rfl (lenOf pd0 rfl) rfl (Nat.le_of_eq rfl) d_jdk_45_method_1_1 (pc' := 4) rfl (by first | decide | exact Nat.le_of_ble_eq_true rfl) (by first | decide | exact Nat.le_of_ble_eq_true rfl) (fun _ q => nomatch q) (by first | decide | exact Nat.le_of_ble_eq_true rfl) (by first | decide | exact Nat.le_of_ble_eq_true rfl) ?_
  rintro _ hh ⟨rfl, eh_⟩ K
  subst hh
  refine g_norm (cells' := 0) (slots' := 0) (st' := []) (by first | decide | exact Nat.le_of_ble_eq_true rfl) (by first | decide | exact Nat.le_of_ble_eq_true rfl) rfl ?_
  refine g_aload_n C d_jdk_45_method_1_4 rfl rfl (pc' := 5) rfl ?_
  refine g_aload_n C d_jdk_45_method_1_5 rfl rfl (pc' := 6) rfl ?_
  refine g_putfield C (W170 hw) Via.refl (v' := (.ref t)) (F1) (E1) (Or.inr ⟨(W171 hw), rfl, rfl⟩) (W145 hw) (ty := (.array (.object "java/lang/Object"))) (by first | decide | exact Nat.le_of_ble_eq_true rfl) rfl rfl (Or.inl (List.mem_cons_self ..)) d_jdk_45_method_1_6 (pc' := 9) rfl ?_
  intro h1 V1
  refine g_aload_n C d_jdk_45_method_1_9 rfl rfl (pc' := 10) rfl ?_
  refine g_iload_n C d_jdk_45_method_1_10 rfl (pc' := 11) rfl ?_
  have G2 := F2.other V1 (Or.inr (slot_ne (Or.inr (W173 hw)) (Or.inr (W171 hw)) (by first | decide | exact Nat.le_of_ble_eq_true rfl) (t := .boolean) (by first | decide | exact Nat.le_of_ble_eq_true rfl) (t' := (.array (.object "java/lang/Object"))) (by first | decide | exact Nat.le_of_ble_eq_true rfl)))
  have E2 := E1.wr V1
  refine g_putfield C (W172 hw) Via.refl (v' := (.int (0 : Int32))) (G2) (E2) (Or.inr ⟨(W173 hw), rfl, rfl⟩) (W145 hw) (ty := .boolean) (by first | decide | exact Nat.le_of_ble_eq_true rfl) rfl rfl (Or.inl (List.mem_cons_self ..)) d_jdk_45_method_1_11 (pc' := 14) rfl ?_
  intro h2 V2
  exact g_return C d_jdk_45_method_1_14 (⟨rfl, E2.wr V2, (F1.same V1).other V2 (Or.inr (slot_ne (Or.inr (W171 hw)) (Or.inr (W173 hw)) (by first | decide | exact Nat.le_of_ble_eq_true rfl) (t := (.array (.object "java/lang/Object"))) (by first | decide | exact Nat.le_of_ble_eq_true rfl) (t' := .boolean) (by first | decide | exact Nat.le_of_ble_eq_true rfl)))⟩) (by first | decide | exact Nat.le_of_ble_eq_true rfl) (by first | decide | exact Nat.le_of_ble_eq_true rfl)
set_option maxRecDepth 65536 in
set_option maxHeartbeats 40000000 in
theorem con_lfa (l : Launch) (Z : State) (a0 : Array Value) (hw : ∀ d ∈ tables_1, d.before a0 Z = true)  (h : Heap) (a : Addr) (f : Nat → Value) (A : Af Z h a (.object "java/lang/String") 11 f) (hf : ∀ i, i < 11 → ∃ y, f i = .ref y ∧ Ins Z h y "java/lang/Object" true) : Con l Z [] (⟨"java/util/ImmutableCollections", "listFromArray", "([Ljava/lang/Object;)Ljava/util/List;"⟩ : MethodName) jdk_56_method_4_code 3 ((some (Jvm.ClassFile.FieldType.object "java/util/List"))) ({ frames := 5, cells := 2, slots := 13, locals := 63 } : Room) #[(.ref a)] h [] (fun v h' => ∃ x t, v = some (.ref x) ∧ h.size ≤ x ∧ Exa Z h' x "java/util/ImmutableCollections$ListN" ∧ Fld Z h' x "java/util/ImmutableCollections$ListN" "elements" "[Ljava/lang/Object;" (.ref t) ∧ Af Z h' t (.object "java/lang/Object") 11 f) := by
  refine Con.of (plainFor_of_name pn10) (Ls := #[.val (.ref a), .unset, .unset]) (fun m => by first | (simp [entryFrame, mkF, argsToLocals, Value.category]; done) | rfl) ?_
  intro p_ e_ s_ m_ bel_ mt_ cd_ C
  refine g_aload_n C d_jdk_56_method_4_0 rfl rfl (pc' := 1) rfl ?_
  refine g_arraylength C A (z := 11) rfl d_jdk_56_method_4_1 (pc' := 2) rfl ?_
  refine g_anewarray C (W137 hw) (W138 hw) (by first | decide | exact Nat.le_of_ble_eq_true rfl) (n := 11) rfl (by first | decide | exact Nat.le_of_ble_eq_true rfl) d_jdk_56_method_4_2 (pc' := 5) rfl (by first | decide | exact Nat.le_of_ble_eq_true rfl) (by first | decide | exact Nat.le_of_ble_eq_true rfl) ?_
  intro h1 t ht ht0 X1 B1 O1
  refine g_norm (cells' := 1) (slots' := 11) (st' := [(.ref t)]) (by first | decide | exact Nat.le_of_ble_eq_true rfl) (by first | decide | exact Nat.le_of_ble_eq_true rfl) rfl ?_
  refine g_astore_n C d_jdk_56_method_4_5 rfl (Ls' := #[.val (.ref a), .val (.ref t), .unset]) rfl (pc' := 6) rfl ?_
  refine g_iconst C d_jdk_56_method_4_6 (x := (0 : Int32)) rfl (pc' := 7) rfl ?_
  refine g_istore_n C d_jdk_56_method_4_7 (Ls' := #[.val (.ref a), .val (.ref t), .val (.int (0 : Int32))]) rfl (pc' := 8) rfl ?_
  refine g_loopH (α := Nat) (fun i h' => i ≤ 11 ∧ Af Z h' t (.object "java/lang/Object") 11 (fun j => if j < i then f j else .null) ∧ OvA Z h' t "java/lang/Object") (fun i => 11 - i) (fun i => #[.val (.ref a), .val (.ref t), .val (.int (Int32.ofNat i))]) 0 ⟨by decide, B1.congr (fun j hj => if_neg (Nat.not_lt_zero j)), O1⟩ rfl ?_
  rintro i h2 ⟨hi, B2, O2⟩ IH
  dsimp only
  refine g_ctx C fun K2 _ => ?_
  have A2 := A.keep K2 nin0
  refine g_iload_n C d_jdk_56_method_4_8 rfl (pc' := 9) rfl ?_
  refine g_aload_n C d_jdk_56_method_4_9 rfl rfl (pc' := 10) rfl ?_
  refine g_arraylength C A2 (z := 11) rfl d_jdk_56_method_4_10 (pc' := 11) rfl ?_
  refine g_if_icmpge C d_jdk_56_method_4_11 (by first | decide | exact Nat.le_of_ble_eq_true rfl) (pcT := 29) rfl (pcF := 14) rfl ?_ ?_
  · intro hc
    rw [Int32.lt_iff_toInt_lt, i32_nat (by omega)] at hc
    have l11 : (11 : Int32).toInt = 11 := rfl
    obtain rfl : i = 11 := by omega
    have B3 : Af Z h2 t (.object "java/lang/Object") 11 f := B2.congr (fun j hj => by rw [if_pos hj])
    refine g_new C (W144 hw) (W145 hw) (W146 hw) d_jdk_56_method_4_29 (pc' := 32) rfl (by first | decide | exact Nat.le_of_ble_eq_true rfl) (by first | decide | exact Nat.le_of_ble_eq_true rfl) ?_
    intro h3 x hx hx0 X3 E3 D3
    refine g_norm (cells' := 2) (slots' := 13) (st' := [(.ref x)]) (by first | decide | exact Nat.le_of_ble_eq_true rfl) (by first | decide | exact Nat.le_of_ble_eq_true rfl) rfl ?_
    have ne_t : t ≠ x := by rw [hx]; exact Nat.ne_of_lt B3.lt
    refine g_dup C d_jdk_56_method_4_32 rfl (pc' := 33) rfl ?_
    refine g_aload_n C d_jdk_56_method_4_33 rfl rfl (pc' := 34) rfl ?_
    refine g_iconst C d_jdk_56_method_4_34 (x := (0 : Int32)) rfl (pc' := 35) rfl ?_
    refine g_specialNC C (W := 1) (argsL := [(.ref t), (.int (0 : Int32))]) (rest := [(.ref x)]) (con_listn l Z a0 hw h3 x t E3 (D3 (Or.inr (W171 hw)) (ty := (.array (.object "java/lang/Object"))) (by first | decide | exact Nat.le_of_ble_eq_true rfl)) (D3 (Or.inr (W173 hw)) (ty := .boolean) (by first | decide | exact Nat.le_of_ble_eq_true rfl))) rfl (W147 hw) (W148 hw) (W146 hw) (W150 hw) (by first | decide | exact Nat.le_of_ble_eq_true rfl) rfl (lenOf pd1 rfl) rfl (Nat.le_of_eq rfl) d_jdk_56_method_4_35 (pc' := 38) rfl (by first | decide | exact Nat.le_of_ble_eq_true rfl) (by first | decide | exact Nat.le_of_ble_eq_true rfl) (allS (Or.inr hx0) all0) (by first | decide | exact Nat.le_of_ble_eq_true rfl) (by first | decide | exact Nat.le_of_ble_eq_true rfl) ?_
    rintro _ h4 ⟨rfl, E4, F4⟩ K4
    refine g_norm (cells' := 2) (slots' := 13) (st' := [(.ref x)]) (by first | decide | exact Nat.le_of_ble_eq_true rfl) (by first | decide | exact Nat.le_of_ble_eq_true rfl) rfl ?_
    exact g_areturn C rfl rfl d_jdk_56_method_4_38 (⟨x, t, rfl, hx0, E4, F4, (B3.ext X3).keep K4 (ninS ne_t nin0)⟩) (by first | decide | exact Nat.le_of_ble_eq_true rfl) (by first | decide | exact Nat.le_of_ble_eq_true rfl)
  · intro hc
    rw [Int32.lt_iff_toInt_lt, i32_nat (by omega)] at hc
    have l11 : (11 : Int32).toInt = 11 := rfl
    have hi2 : i < 11 := by omega
    obtain ⟨y, hy, Iy⟩ := hf i hi2
    have Iy2 := ins_keep Iy K2
    refine g_aload_n C d_jdk_56_method_4_14 rfl rfl (pc' := 15) rfl ?_
    refine g_iload_n C d_jdk_56_method_4_15 rfl (pc' := 16) rfl ?_
    refine g_aload_n C d_jdk_56_method_4_16 rfl rfl (pc' := 17) rfl ?_
    refine g_iload_n C d_jdk_56_method_4_17 rfl (pc' := 18) rfl ?_
    refine g_aaload C A2 rfl (i32_nn (by omega)) (i32_clamp (by omega)) hi2 hy d_jdk_56_method_4_18 (pc' := 19) rfl ?_
    refine g_staticC C (W := 2) (argsL := [(.ref y)]) (rest := [(.int (Int32.ofNat i)), (.ref t)]) (con_rnn l Z a0 hw h2 y) (W139 hw) (W140 hw) (W141 hw) (W142 hw) (by first | decide | exact Nat.le_of_ble_eq_true rfl) rfl (lenOf pd2 rfl) rfl (Nat.le_of_eq rfl) d_jdk_56_method_4_19 (pc' := 22) rfl (by first | decide | exact Nat.le_of_ble_eq_true rfl) (by first | decide | exact Nat.le_of_ble_eq_true rfl) (fun _ q => nomatch q) (by first | decide | exact Nat.le_of_ble_eq_true rfl) (by first | decide | exact Nat.le_of_ble_eq_true rfl) ?_
    rintro _ hh ⟨rfl, eh_⟩ K
    subst hh
    refine g_norm (cells' := 1) (slots' := 11) (st' := [(.ref y), (.int (Int32.ofNat i)), (.ref t)]) (by first | decide | exact Nat.le_of_ble_eq_true rfl) (by first | decide | exact Nat.le_of_ble_eq_true rfl) rfl ?_
    refine g_aastore C B2 rfl (O2.sto B2 Iy2) rfl (i32_nn (by omega)) (i32_clamp (by omega)) hi2 (Or.inr ht0) d_jdk_56_method_4_22 (pc' := 23) rfl ?_
    intro h3 V3 B3
    refine g_iinc C d_jdk_56_method_4_23 rfl (y := Int32.ofNat (i + 1)) i32_succ (Ls' := #[.val (.ref a), .val (.ref t), .val (.int (Int32.ofNat (i + 1)))]) rfl (pc' := 26) rfl ?_
    refine g_goto C d_jdk_56_method_4_26 (by first | decide | exact Nat.le_of_ble_eq_true rfl) (pc' := 8) rfl ?_
    exact IH (i + 1) h3 ⟨by omega, B3.congr (fun j hj => by
      unfold upd
      by_cases z : j = i
      · subst z; rw [if_pos (by omega), if_pos rfl, hy]
      · rw [if_neg z]; show (if j < i + 1 then f j else Value.null) = (if j < i then f j else Value.null); by_cases z2 : j < i
        · rw [if_pos (by omega), if_pos z2]
        · rw [if_neg (by omega), if_neg z2]), O2.keep (Keep.of_wr V3)⟩ (by omega)
set_option maxRecDepth 65536 in
set_option maxHeartbeats 40000000 in
theorem con_of (l : Launch) (Z : State) (a0 : Array Value) (hw : ∀ d ∈ tables_1, d.before a0 Z = true)  (h : Heap) (a : Addr) (f : Nat → Value) (A : Af Z h a (.object "java/lang/String") 11 f) (hf : ∀ i, i < 11 → ∃ y, f i = .ref y ∧ Ins Z h y "java/lang/Object" true) : Con l Z [] (⟨"java/util/List", "of", "([Ljava/lang/Object;)Ljava/util/List;"⟩ : MethodName) jdk_40_method_47_code 2 ((some (Jvm.ClassFile.FieldType.object "java/util/List"))) ({ frames := 6, cells := 2, slots := 13, locals := 77 } : Room) #[(.ref a)] h [] (fun v h' => ∃ x t, v = some (.ref x) ∧ h.size ≤ x ∧ Exa Z h' x "java/util/ImmutableCollections$ListN" ∧ Fld Z h' x "java/util/ImmutableCollections$ListN" "elements" "[Ljava/lang/Object;" (.ref t) ∧ Af Z h' t (.object "java/lang/Object") 11 f) := by
  refine Con.of (plainFor_of_name pn11) (Ls := #[.val (.ref a), .unset]) (fun m => by first | (simp [entryFrame, mkF, argsToLocals, Value.category]; done) | rfl) ?_
  intro p_ e_ s_ m_ bel_ mt_ cd_ C
  refine g_aload_n C d_jdk_40_method_47_0 rfl rfl (pc' := 1) rfl ?_
  refine g_arraylength C A (z := 11) rfl d_jdk_40_method_47_1 (pc' := 2) rfl ?_
  refine g_tswOut C d_jdk_40_method_47_2 (Or.inr (by first | decide | exact Nat.le_of_ble_eq_true rfl)) (by first | decide | exact Nat.le_of_ble_eq_true rfl) (pc' := 59) rfl ?_
  refine g_aload_n C d_jdk_40_method_47_59 rfl rfl (pc' := 60) rfl ?_
  refine g_staticC C (W := 0) (argsL := [(.ref a)]) (rest := []) (con_lfa l Z a0 hw h a f A hf) (W133 hw) (W134 hw) (W135 hw) (W136 hw) (by first | decide | exact Nat.le_of_ble_eq_true rfl) rfl (lenOf pd3 rfl) rfl (Nat.le_of_eq rfl) d_jdk_40_method_47_60 (pc' := 63) rfl (by first | decide | exact Nat.le_of_ble_eq_true rfl) (by first | decide | exact Nat.le_of_ble_eq_true rfl) (fun _ q => nomatch q) (by first | decide | exact Nat.le_of_ble_eq_true rfl) (by first | decide | exact Nat.le_of_ble_eq_true rfl) ?_
  rintro _ h1 ⟨x, t, rfl, hx, E1, F1, A1⟩ K1
  refine g_norm (cells' := 2) (slots' := 13) (st' := [(.ref x)]) (by first | decide | exact Nat.le_of_ble_eq_true rfl) (by first | decide | exact Nat.le_of_ble_eq_true rfl) rfl ?_
  exact g_areturn C rfl rfl d_jdk_40_method_47_63 (⟨x, t, rfl, hx, E1, F1, A1⟩) (by first | decide | exact Nat.le_of_ble_eq_true rfl) (by first | decide | exact Nat.le_of_ble_eq_true rfl)
set_option maxRecDepth 65536 in
set_option maxHeartbeats 40000000 in
theorem con_cells (l : Launch) (Z : State) (a0 : Array Value) (hw : ∀ d ∈ tables_1, d.before a0 Z = true)  (h : Heap) (o c k s0 s1 s2 s3 s4 s5 s6 s7 s8 s9 s10 : Addr) (Eh : Exa Z h o "com/example/pledgewire/pledgewire/Holding") (Ec : Exa Z h c "com/example/pledgewire/pledgewire/Reference$AssetAccount") (Ek : Exa Z h k "com/example/pledgewire/pledgewire/AssetKind") (Hc : Fld Z h o "com/example/pledgewire/pledgewire/Holding" "account" "Lcom/example/pledgewire/pledgewire/Reference$AssetAccount;" (.ref c)) (Hk : Fld Z h o "com/example/pledgewire/pledgewire/Holding" "kind" "Lcom/example/pledgewire/pledgewire/AssetKind;" (.ref k)) (G0 : Fld Z h c "com/example/pledgewire/pledgewire/Reference$AssetAccount" "cmf" "Ljava/lang/String;" (.ref s0)) (G1 : Fld Z h c "com/example/pledgewire/pledgewire/Reference$AssetAccount" "aa" "Ljava/lang/String;" (.ref s1)) (G2 : Fld Z h c "com/example/pledgewire/pledgewire/Reference$AssetAccount" "fseg" "Ljava/lang/String;" (.ref s2)) (G3 : Fld Z h c "com/example/pledgewire/pledgewire/Reference$AssetAccount" "acctType" "Ljava/lang/String;" (.ref s3)) (G4 : Fld Z h c "com/example/pledgewire/pledgewire/Reference$AssetAccount" "busFunc" "Ljava/lang/String;" (.ref s4)) (G5 : Fld Z h k "com/example/pledgewire/pledgewire/AssetKind" "type" "Ljava/lang/String;" (.ref s5)) (G6 : Fld Z h o "com/example/pledgewire/pledgewire/Holding" "cusip" "Ljava/lang/String;" (.ref s6)) (G7 : Fld Z h o "com/example/pledgewire/pledgewire/Holding" "isin" "Ljava/lang/String;" (.ref s7)) (G8 : Fld Z h o "com/example/pledgewire/pledgewire/Holding" "ticker" "Ljava/lang/String;" (.ref s8)) (G9 : Fld Z h k "com/example/pledgewire/pledgewire/AssetKind" "ccy" "Ljava/lang/String;" (.ref s9)) (G10 : Fld Z h o "com/example/pledgewire/pledgewire/Holding" "custodian" "Ljava/lang/String;" (.ref s10)) (S0 : Exa Z h s0 "java/lang/String") (S1 : Exa Z h s1 "java/lang/String") (S2 : Exa Z h s2 "java/lang/String") (S3 : Exa Z h s3 "java/lang/String") (S4 : Exa Z h s4 "java/lang/String") (S5 : Exa Z h s5 "java/lang/String") (S6 : Exa Z h s6 "java/lang/String") (S7 : Exa Z h s7 "java/lang/String") (S8 : Exa Z h s8 "java/lang/String") (S9 : Exa Z h s9 "java/lang/String") (S10 : Exa Z h s10 "java/lang/String") : Con l Z [] (⟨"com/example/pledgewire/pledgewire/Holding", "cells", "()Ljava/util/List;"⟩ : MethodName) prog_33_method_5_code 1 ((some (Jvm.ClassFile.FieldType.object "java/util/List"))) ({ frames := 7, cells := 3, slots := 24, locals := 90 } : Room) #[(.ref o)] h [] (fun v h' => ∃ x t, v = some (.ref x) ∧ Exa Z h' x "java/util/ImmutableCollections$ListN" ∧ Fld Z h' x "java/util/ImmutableCollections$ListN" "elements" "[Ljava/lang/Object;" (.ref t) ∧ Af Z h' t (.object "java/lang/Object") 11 (fun i : Nat => (match i with | 0 => .ref s0 | 1 => .ref s1 | 2 => .ref s2 | 3 => .ref s3 | 4 => .ref s4 | 5 => .ref s5 | 6 => .ref s6 | 7 => .ref s7 | 8 => .ref s8 | 9 => .ref s9 | 10 => .ref s10 | _ => .null : Value))) := by
  refine Con.of (plainFor_of_name pn4) (Ls := #[.val (.ref o)]) (fun m => by first | (simp [entryFrame, mkF, argsToLocals, Value.category]; done) | rfl) ?_
  intro p_ e_ s_ m_ bel_ mt_ cd_ C
  refine g_bipush C d_prog_33_method_5_0 (x := (11 : Int32)) rfl (pc' := 2) rfl ?_
  refine g_anewarray C (W92 hw) (W93 hw) (by first | decide | exact Nat.le_of_ble_eq_true rfl) (n := 11) rfl (by first | decide | exact Nat.le_of_ble_eq_true rfl) d_prog_33_method_5_2 (pc' := 5) rfl (by first | decide | exact Nat.le_of_ble_eq_true rfl) (by first | decide | exact Nat.le_of_ble_eq_true rfl) ?_
  intro h1 t ht ht0 X1 B0 O0
  refine g_norm (cells' := 1) (slots' := 11) (st' := [(.ref t)]) (by first | decide | exact Nat.le_of_ble_eq_true rfl) (by first | decide | exact Nat.le_of_ble_eq_true rfl) rfl ?_
  refine g_ctx C fun K0 _ => ?_
  refine g_dup C d_prog_33_method_5_5 rfl (pc' := 6) rfl ?_
  refine g_iconst C d_prog_33_method_5_6 (x := (0 : Int32)) rfl (pc' := 7) rfl ?_
  refine g_aload_n C d_prog_33_method_5_7 rfl rfl (pc' := 8) rfl ?_
  refine g_getfield C (W75 hw) Via.refl (Hc.keep K0 nin0) d_prog_33_method_5_8 (pc' := 11) rfl ?_
  refine g_virtualC C (W := 3) (argsL := []) (rest := [(.int (0 : Int32)), (.ref t), (.ref t)]) (con_get_cmf l Z a0 hw h1 c s0 (G0.keep K0 nin0)) (W94 hw) (W95 hw) (W97 hw) (nfOf (W97 hw) rfl) (W96 hw) (W40 hw) (W98 hw) (by first | decide | exact Nat.le_of_ble_eq_true rfl) (Ec.keep K0) rfl (lenOf pd4 rfl) rfl (Nat.le_of_eq rfl) d_prog_33_method_5_11 (pc' := 14) rfl (by first | decide | exact Nat.le_of_ble_eq_true rfl) (by first | decide | exact Nat.le_of_ble_eq_true rfl) (fun _ q => nomatch q) (by first | decide | exact Nat.le_of_ble_eq_true rfl) (by first | decide | exact Nat.le_of_ble_eq_true rfl) ?_
  rintro _ hh ⟨rfl, eh_⟩ K
  subst hh
  refine g_norm (cells' := 1) (slots' := 11) (st' := [(.ref s0), (.int (0 : Int32)), (.ref t), (.ref t)]) (by first | decide | exact Nat.le_of_ble_eq_true rfl) (by first | decide | exact Nat.le_of_ble_eq_true rfl) rfl ?_
  refine g_aastore C B0 rfl (O0.sto B0 (Ins.self (S0.keep K0))) rfl (by first | decide | exact Nat.le_of_ble_eq_true rfl) (i := 0) rfl (by first | decide | exact Nat.le_of_ble_eq_true rfl) (Or.inr ht0) d_prog_33_method_5_14 (pc' := 15) rfl ?_
  intro h2 V0 B1
  have O1 := O0.keep (Keep.of_wr V0)
  refine g_ctx C fun K1 _ => ?_
  refine g_dup C d_prog_33_method_5_15 rfl (pc' := 16) rfl ?_
  refine g_iconst C d_prog_33_method_5_16 (x := (1 : Int32)) rfl (pc' := 17) rfl ?_
  refine g_aload_n C d_prog_33_method_5_17 rfl rfl (pc' := 18) rfl ?_
  refine g_getfield C (W75 hw) Via.refl (Hc.keep K1 nin0) d_prog_33_method_5_18 (pc' := 21) rfl ?_
  refine g_virtualC C (W := 3) (argsL := []) (rest := [(.int (1 : Int32)), (.ref t), (.ref t)]) (con_get_aa l Z a0 hw h2 c s1 (G1.keep K1 nin0)) (W99 hw) (W100 hw) (W102 hw) (nfOf (W102 hw) rfl) (W101 hw) (W40 hw) (W103 hw) (by first | decide | exact Nat.le_of_ble_eq_true rfl) (Ec.keep K1) rfl (lenOf pd4 rfl) rfl (Nat.le_of_eq rfl) d_prog_33_method_5_21 (pc' := 24) rfl (by first | decide | exact Nat.le_of_ble_eq_true rfl) (by first | decide | exact Nat.le_of_ble_eq_true rfl) (fun _ q => nomatch q) (by first | decide | exact Nat.le_of_ble_eq_true rfl) (by first | decide | exact Nat.le_of_ble_eq_true rfl) ?_
  rintro _ hh ⟨rfl, eh_⟩ K
  subst hh
  refine g_norm (cells' := 1) (slots' := 11) (st' := [(.ref s1), (.int (1 : Int32)), (.ref t), (.ref t)]) (by first | decide | exact Nat.le_of_ble_eq_true rfl) (by first | decide | exact Nat.le_of_ble_eq_true rfl) rfl ?_
  refine g_aastore C B1 rfl (O1.sto B1 (Ins.self (S1.keep K1))) rfl (by first | decide | exact Nat.le_of_ble_eq_true rfl) (i := 1) rfl (by first | decide | exact Nat.le_of_ble_eq_true rfl) (Or.inr ht0) d_prog_33_method_5_24 (pc' := 25) rfl ?_
  intro h3 V1 B2
  have O2 := O1.keep (Keep.of_wr V1)
  refine g_ctx C fun K2 _ => ?_
  refine g_dup C d_prog_33_method_5_25 rfl (pc' := 26) rfl ?_
  refine g_iconst C d_prog_33_method_5_26 (x := (2 : Int32)) rfl (pc' := 27) rfl ?_
  refine g_aload_n C d_prog_33_method_5_27 rfl rfl (pc' := 28) rfl ?_
  refine g_getfield C (W75 hw) Via.refl (Hc.keep K2 nin0) d_prog_33_method_5_28 (pc' := 31) rfl ?_
  refine g_virtualC C (W := 3) (argsL := []) (rest := [(.int (2 : Int32)), (.ref t), (.ref t)]) (con_get_fseg l Z a0 hw h3 c s2 (G2.keep K2 nin0)) (W104 hw) (W105 hw) (W107 hw) (nfOf (W107 hw) rfl) (W106 hw) (W40 hw) (W108 hw) (by first | decide | exact Nat.le_of_ble_eq_true rfl) (Ec.keep K2) rfl (lenOf pd4 rfl) rfl (Nat.le_of_eq rfl) d_prog_33_method_5_31 (pc' := 34) rfl (by first | decide | exact Nat.le_of_ble_eq_true rfl) (by first | decide | exact Nat.le_of_ble_eq_true rfl) (fun _ q => nomatch q) (by first | decide | exact Nat.le_of_ble_eq_true rfl) (by first | decide | exact Nat.le_of_ble_eq_true rfl) ?_
  rintro _ hh ⟨rfl, eh_⟩ K
  subst hh
  refine g_norm (cells' := 1) (slots' := 11) (st' := [(.ref s2), (.int (2 : Int32)), (.ref t), (.ref t)]) (by first | decide | exact Nat.le_of_ble_eq_true rfl) (by first | decide | exact Nat.le_of_ble_eq_true rfl) rfl ?_
  refine g_aastore C B2 rfl (O2.sto B2 (Ins.self (S2.keep K2))) rfl (by first | decide | exact Nat.le_of_ble_eq_true rfl) (i := 2) rfl (by first | decide | exact Nat.le_of_ble_eq_true rfl) (Or.inr ht0) d_prog_33_method_5_34 (pc' := 35) rfl ?_
  intro h4 V2 B3
  have O3 := O2.keep (Keep.of_wr V2)
  refine g_ctx C fun K3 _ => ?_
  refine g_dup C d_prog_33_method_5_35 rfl (pc' := 36) rfl ?_
  refine g_iconst C d_prog_33_method_5_36 (x := (3 : Int32)) rfl (pc' := 37) rfl ?_
  refine g_aload_n C d_prog_33_method_5_37 rfl rfl (pc' := 38) rfl ?_
  refine g_getfield C (W75 hw) Via.refl (Hc.keep K3 nin0) d_prog_33_method_5_38 (pc' := 41) rfl ?_
  refine g_virtualC C (W := 3) (argsL := []) (rest := [(.int (3 : Int32)), (.ref t), (.ref t)]) (con_get_acctType l Z a0 hw h4 c s3 (G3.keep K3 nin0)) (W109 hw) (W110 hw) (W112 hw) (nfOf (W112 hw) rfl) (W111 hw) (W40 hw) (W113 hw) (by first | decide | exact Nat.le_of_ble_eq_true rfl) (Ec.keep K3) rfl (lenOf pd4 rfl) rfl (Nat.le_of_eq rfl) d_prog_33_method_5_41 (pc' := 44) rfl (by first | decide | exact Nat.le_of_ble_eq_true rfl) (by first | decide | exact Nat.le_of_ble_eq_true rfl) (fun _ q => nomatch q) (by first | decide | exact Nat.le_of_ble_eq_true rfl) (by first | decide | exact Nat.le_of_ble_eq_true rfl) ?_
  rintro _ hh ⟨rfl, eh_⟩ K
  subst hh
  refine g_norm (cells' := 1) (slots' := 11) (st' := [(.ref s3), (.int (3 : Int32)), (.ref t), (.ref t)]) (by first | decide | exact Nat.le_of_ble_eq_true rfl) (by first | decide | exact Nat.le_of_ble_eq_true rfl) rfl ?_
  refine g_aastore C B3 rfl (O3.sto B3 (Ins.self (S3.keep K3))) rfl (by first | decide | exact Nat.le_of_ble_eq_true rfl) (i := 3) rfl (by first | decide | exact Nat.le_of_ble_eq_true rfl) (Or.inr ht0) d_prog_33_method_5_44 (pc' := 45) rfl ?_
  intro h5 V3 B4
  have O4 := O3.keep (Keep.of_wr V3)
  refine g_ctx C fun K4 _ => ?_
  refine g_dup C d_prog_33_method_5_45 rfl (pc' := 46) rfl ?_
  refine g_iconst C d_prog_33_method_5_46 (x := (4 : Int32)) rfl (pc' := 47) rfl ?_
  refine g_aload_n C d_prog_33_method_5_47 rfl rfl (pc' := 48) rfl ?_
  refine g_getfield C (W75 hw) Via.refl (Hc.keep K4 nin0) d_prog_33_method_5_48 (pc' := 51) rfl ?_
  refine g_virtualC C (W := 3) (argsL := []) (rest := [(.int (4 : Int32)), (.ref t), (.ref t)]) (con_get_busFunc l Z a0 hw h5 c s4 (G4.keep K4 nin0)) (W114 hw) (W115 hw) (W117 hw) (nfOf (W117 hw) rfl) (W116 hw) (W40 hw) (W118 hw) (by first | decide | exact Nat.le_of_ble_eq_true rfl) (Ec.keep K4) rfl (lenOf pd4 rfl) rfl (Nat.le_of_eq rfl) d_prog_33_method_5_51 (pc' := 54) rfl (by first | decide | exact Nat.le_of_ble_eq_true rfl) (by first | decide | exact Nat.le_of_ble_eq_true rfl) (fun _ q => nomatch q) (by first | decide | exact Nat.le_of_ble_eq_true rfl) (by first | decide | exact Nat.le_of_ble_eq_true rfl) ?_
  rintro _ hh ⟨rfl, eh_⟩ K
  subst hh
  refine g_norm (cells' := 1) (slots' := 11) (st' := [(.ref s4), (.int (4 : Int32)), (.ref t), (.ref t)]) (by first | decide | exact Nat.le_of_ble_eq_true rfl) (by first | decide | exact Nat.le_of_ble_eq_true rfl) rfl ?_
  refine g_aastore C B4 rfl (O4.sto B4 (Ins.self (S4.keep K4))) rfl (by first | decide | exact Nat.le_of_ble_eq_true rfl) (i := 4) rfl (by first | decide | exact Nat.le_of_ble_eq_true rfl) (Or.inr ht0) d_prog_33_method_5_54 (pc' := 55) rfl ?_
  intro h6 V4 B5
  have O5 := O4.keep (Keep.of_wr V4)
  refine g_ctx C fun K5 _ => ?_
  refine g_dup C d_prog_33_method_5_55 rfl (pc' := 56) rfl ?_
  refine g_iconst C d_prog_33_method_5_56 (x := (5 : Int32)) rfl (pc' := 57) rfl ?_
  refine g_aload_n C d_prog_33_method_5_57 rfl rfl (pc' := 58) rfl ?_
  refine g_getfield C (W77 hw) Via.refl (Hk.keep K5 nin0) d_prog_33_method_5_58 (pc' := 61) rfl ?_
  refine g_virtualC C (W := 3) (argsL := []) (rest := [(.int (5 : Int32)), (.ref t), (.ref t)]) (con_get_type l Z a0 hw h6 k s5 (G5.keep K5 nin0)) (W119 hw) (W120 hw) (W122 hw) (nfOf (W122 hw) rfl) (W121 hw) (W62 hw) (W123 hw) (by first | decide | exact Nat.le_of_ble_eq_true rfl) (Ek.keep K5) rfl (lenOf pd4 rfl) rfl (Nat.le_of_eq rfl) d_prog_33_method_5_61 (pc' := 64) rfl (by first | decide | exact Nat.le_of_ble_eq_true rfl) (by first | decide | exact Nat.le_of_ble_eq_true rfl) (fun _ q => nomatch q) (by first | decide | exact Nat.le_of_ble_eq_true rfl) (by first | decide | exact Nat.le_of_ble_eq_true rfl) ?_
  rintro _ hh ⟨rfl, eh_⟩ K
  subst hh
  refine g_norm (cells' := 1) (slots' := 11) (st' := [(.ref s5), (.int (5 : Int32)), (.ref t), (.ref t)]) (by first | decide | exact Nat.le_of_ble_eq_true rfl) (by first | decide | exact Nat.le_of_ble_eq_true rfl) rfl ?_
  refine g_aastore C B5 rfl (O5.sto B5 (Ins.self (S5.keep K5))) rfl (by first | decide | exact Nat.le_of_ble_eq_true rfl) (i := 5) rfl (by first | decide | exact Nat.le_of_ble_eq_true rfl) (Or.inr ht0) d_prog_33_method_5_64 (pc' := 65) rfl ?_
  intro h7 V5 B6
  have O6 := O5.keep (Keep.of_wr V5)
  refine g_ctx C fun K6 _ => ?_
  refine g_dup C d_prog_33_method_5_65 rfl (pc' := 66) rfl ?_
  refine g_bipush C d_prog_33_method_5_66 (x := (6 : Int32)) rfl (pc' := 68) rfl ?_
  refine g_aload_n C d_prog_33_method_5_68 rfl rfl (pc' := 69) rfl ?_
  refine g_getfield C (W79 hw) Via.refl (G6.keep K6 nin0) d_prog_33_method_5_69 (pc' := 72) rfl ?_
  refine g_aastore C B6 rfl (O6.sto B6 (Ins.self (S6.keep K6))) rfl (by first | decide | exact Nat.le_of_ble_eq_true rfl) (i := 6) rfl (by first | decide | exact Nat.le_of_ble_eq_true rfl) (Or.inr ht0) d_prog_33_method_5_72 (pc' := 73) rfl ?_
  intro h8 V6 B7
  have O7 := O6.keep (Keep.of_wr V6)
  refine g_ctx C fun K7 _ => ?_
  refine g_dup C d_prog_33_method_5_73 rfl (pc' := 74) rfl ?_
  refine g_bipush C d_prog_33_method_5_74 (x := (7 : Int32)) rfl (pc' := 76) rfl ?_
  refine g_aload_n C d_prog_33_method_5_76 rfl rfl (pc' := 77) rfl ?_
  refine g_getfield C (W81 hw) Via.refl (G7.keep K7 nin0) d_prog_33_method_5_77 (pc' := 80) rfl ?_
  refine g_aastore C B7 rfl (O7.sto B7 (Ins.self (S7.keep K7))) rfl (by first | decide | exact Nat.le_of_ble_eq_true rfl) (i := 7) rfl (by first | decide | exact Nat.le_of_ble_eq_true rfl) (Or.inr ht0) d_prog_33_method_5_80 (pc' := 81) rfl ?_
  intro h9 V7 B8
  have O8 := O7.keep (Keep.of_wr V7)
  refine g_ctx C fun K8 _ => ?_
  refine g_dup C d_prog_33_method_5_81 rfl (pc' := 82) rfl ?_
  refine g_bipush C d_prog_33_method_5_82 (x := (8 : Int32)) rfl (pc' := 84) rfl ?_
  refine g_aload_n C d_prog_33_method_5_84 rfl rfl (pc' := 85) rfl ?_
  refine g_getfield C (W83 hw) Via.refl (G8.keep K8 nin0) d_prog_33_method_5_85 (pc' := 88) rfl ?_
  refine g_aastore C B8 rfl (O8.sto B8 (Ins.self (S8.keep K8))) rfl (by first | decide | exact Nat.le_of_ble_eq_true rfl) (i := 8) rfl (by first | decide | exact Nat.le_of_ble_eq_true rfl) (Or.inr ht0) d_prog_33_method_5_88 (pc' := 89) rfl ?_
  intro h10 V8 B9
  have O9 := O8.keep (Keep.of_wr V8)
  refine g_ctx C fun K9 _ => ?_
  refine g_dup C d_prog_33_method_5_89 rfl (pc' := 90) rfl ?_
  refine g_bipush C d_prog_33_method_5_90 (x := (9 : Int32)) rfl (pc' := 92) rfl ?_
  refine g_aload_n C d_prog_33_method_5_92 rfl rfl (pc' := 93) rfl ?_
  refine g_getfield C (W77 hw) Via.refl (Hk.keep K9 nin0) d_prog_33_method_5_93 (pc' := 96) rfl ?_
  refine g_virtualC C (W := 3) (argsL := []) (rest := [(.int (9 : Int32)), (.ref t), (.ref t)]) (con_get_ccy l Z a0 hw h10 k s9 (G9.keep K9 nin0)) (W124 hw) (W125 hw) (W127 hw) (nfOf (W127 hw) rfl) (W126 hw) (W62 hw) (W128 hw) (by first | decide | exact Nat.le_of_ble_eq_true rfl) (Ek.keep K9) rfl (lenOf pd4 rfl) rfl (Nat.le_of_eq rfl) d_prog_33_method_5_96 (pc' := 99) rfl (by first | decide | exact Nat.le_of_ble_eq_true rfl) (by first | decide | exact Nat.le_of_ble_eq_true rfl) (fun _ q => nomatch q) (by first | decide | exact Nat.le_of_ble_eq_true rfl) (by first | decide | exact Nat.le_of_ble_eq_true rfl) ?_
  rintro _ hh ⟨rfl, eh_⟩ K
  subst hh
  refine g_norm (cells' := 1) (slots' := 11) (st' := [(.ref s9), (.int (9 : Int32)), (.ref t), (.ref t)]) (by first | decide | exact Nat.le_of_ble_eq_true rfl) (by first | decide | exact Nat.le_of_ble_eq_true rfl) rfl ?_
  refine g_aastore C B9 rfl (O9.sto B9 (Ins.self (S9.keep K9))) rfl (by first | decide | exact Nat.le_of_ble_eq_true rfl) (i := 9) rfl (by first | decide | exact Nat.le_of_ble_eq_true rfl) (Or.inr ht0) d_prog_33_method_5_99 (pc' := 100) rfl ?_
  intro h11 V9 B10
  have O10 := O9.keep (Keep.of_wr V9)
  refine g_ctx C fun K10 _ => ?_
  refine g_dup C d_prog_33_method_5_100 rfl (pc' := 101) rfl ?_
  refine g_bipush C d_prog_33_method_5_101 (x := (10 : Int32)) rfl (pc' := 103) rfl ?_
  refine g_aload_n C d_prog_33_method_5_103 rfl rfl (pc' := 104) rfl ?_
  refine g_getfield C (W85 hw) Via.refl (G10.keep K10 nin0) d_prog_33_method_5_104 (pc' := 107) rfl ?_
  refine g_aastore C B10 rfl (O10.sto B10 (Ins.self (S10.keep K10))) rfl (by first | decide | exact Nat.le_of_ble_eq_true rfl) (i := 10) rfl (by first | decide | exact Nat.le_of_ble_eq_true rfl) (Or.inr ht0) d_prog_33_method_5_107 (pc' := 108) rfl ?_
  intro h12 V10 B11
  have O11 := O10.keep (Keep.of_wr V10)
  refine g_ctx C fun K11 _ => ?_
  have B12 : Af Z h12 t (.object "java/lang/String") 11 (fun i : Nat => (match i with | 0 => .ref s0 | 1 => .ref s1 | 2 => .ref s2 | 3 => .ref s3 | 4 => .ref s4 | 5 => .ref s5 | 6 => .ref s6 | 7 => .ref s7 | 8 => .ref s8 | 9 => .ref s9 | 10 => .ref s10 | _ => .null : Value)) := B11.congr (fun i hi => by
    obtain rfl | rfl | rfl | rfl | rfl | rfl | rfl | rfl | rfl | rfl | rfl : i = 0 ∨ i = 1 ∨ i = 2 ∨ i = 3 ∨ i = 4 ∨ i = 5 ∨ i = 6 ∨ i = 7 ∨ i = 8 ∨ i = 9 ∨ i = 10 := by omega
    all_goals rfl)
  have hf : ∀ i, i < 11 → ∃ y, (fun i : Nat => (match i with | 0 => .ref s0 | 1 => .ref s1 | 2 => .ref s2 | 3 => .ref s3 | 4 => .ref s4 | 5 => .ref s5 | 6 => .ref s6 | 7 => .ref s7 | 8 => .ref s8 | 9 => .ref s9 | 10 => .ref s10 | _ => .null : Value)) i = .ref y ∧ Ins Z h12 y "java/lang/Object" true := fun i hi => by
    obtain rfl | rfl | rfl | rfl | rfl | rfl | rfl | rfl | rfl | rfl | rfl : i = 0 ∨ i = 1 ∨ i = 2 ∨ i = 3 ∨ i = 4 ∨ i = 5 ∨ i = 6 ∨ i = 7 ∨ i = 8 ∨ i = 9 ∨ i = 10 := by omega
    · exact ⟨s0, rfl, Ins.of_exa (S0.keep K11) (W143 hw)⟩
    · exact ⟨s1, rfl, Ins.of_exa (S1.keep K11) (W143 hw)⟩
    · exact ⟨s2, rfl, Ins.of_exa (S2.keep K11) (W143 hw)⟩
    · exact ⟨s3, rfl, Ins.of_exa (S3.keep K11) (W143 hw)⟩
    · exact ⟨s4, rfl, Ins.of_exa (S4.keep K11) (W143 hw)⟩
    · exact ⟨s5, rfl, Ins.of_exa (S5.keep K11) (W143 hw)⟩
    · exact ⟨s6, rfl, Ins.of_exa (S6.keep K11) (W143 hw)⟩
    · exact ⟨s7, rfl, Ins.of_exa (S7.keep K11) (W143 hw)⟩
    · exact ⟨s8, rfl, Ins.of_exa (S8.keep K11) (W143 hw)⟩
    · exact ⟨s9, rfl, Ins.of_exa (S9.keep K11) (W143 hw)⟩
    · exact ⟨s10, rfl, Ins.of_exa (S10.keep K11) (W143 hw)⟩
  refine g_staticC C (W := 0) (argsL := [(.ref t)]) (rest := []) (con_of l Z a0 hw h12 t _ B12 hf) (W129 hw) (W130 hw) (W131 hw) (W132 hw) (by first | decide | exact Nat.le_of_ble_eq_true rfl) rfl (lenOf pd3 rfl) rfl (Nat.le_of_eq rfl) d_prog_33_method_5_108 (pc' := 111) rfl (by first | decide | exact Nat.le_of_ble_eq_true rfl) (by first | decide | exact Nat.le_of_ble_eq_true rfl) (fun _ q => nomatch q) (by first | decide | exact Nat.le_of_ble_eq_true rfl) (by first | decide | exact Nat.le_of_ble_eq_true rfl) ?_
  rintro _ hz ⟨x, u, rfl, hx, E1, F1, A1⟩ Kz
  refine g_norm (cells' := 3) (slots' := 24) (st' := [(.ref x)]) (by first | decide | exact Nat.le_of_ble_eq_true rfl) (by first | decide | exact Nat.le_of_ble_eq_true rfl) rfl ?_
  exact g_areturn C rfl rfl d_prog_33_method_5_111 (⟨x, u, rfl, E1, F1, A1⟩) (by first | decide | exact Nat.le_of_ble_eq_true rfl) (by first | decide | exact Nat.le_of_ble_eq_true rfl)
set_option maxRecDepth 65536 in
set_option maxHeartbeats 40000000 in
theorem con_size (l : Launch) (Z : State) (a0 : Array Value) (hw : ∀ d ∈ tables_1, d.before a0 Z = true)  (h : Heap) (x t : Addr) (f : Nat → Value) (F : Fld Z h x "java/util/ImmutableCollections$ListN" "elements" "[Ljava/lang/Object;" (.ref t)) (A : Af Z h t (.object "java/lang/Object") 11 f) : Con l Z [] (⟨"java/util/ImmutableCollections$ListN", "size", "()I"⟩ : MethodName) jdk_45_method_3_code 1 ((some Jvm.ClassFile.FieldType.int)) ({ frames := 0, cells := 0, slots := 0, locals := 0 } : Room) #[(.ref x)] h [] (fun v h' => v = some (.int 11) ∧ h' = h) := by
  refine Con.of (plainFor_of_name pn9) (Ls := #[.val (.ref x)]) (fun m => by first | (simp [entryFrame, mkF, argsToLocals, Value.category]; done) | rfl) ?_
  intro p_ e_ s_ m_ bel_ mt_ cd_ C
  refine g_aload_n C d_jdk_45_method_3_0 rfl rfl (pc' := 1) rfl ?_
  refine g_getfield C (W170 hw) Via.refl (F) d_jdk_45_method_3_1 (pc' := 4) rfl ?_
  refine g_arraylength C A (z := 11) rfl d_jdk_45_method_3_4 (pc' := 5) rfl ?_
  exact g_ireturn C d_jdk_45_method_3_5 (⟨rfl, rfl⟩) (by first | decide | exact Nat.le_of_ble_eq_true rfl) (by first | decide | exact Nat.le_of_ble_eq_true rfl)
set_option maxRecDepth 65536 in
set_option maxHeartbeats 40000000 in
theorem con_lget (l : Launch) (Z : State) (a0 : Array Value) (hw : ∀ d ∈ tables_1, d.before a0 Z = true)  (h : Heap) (x t y : Addr) (f : Nat → Value) (j : Int32) (i : Nat) (F : Fld Z h x "java/util/ImmutableCollections$ListN" "elements" "[Ljava/lang/Object;" (.ref t)) (A : Af Z h t (.object "java/lang/Object") 11 f) (hj : ¬ j < 0) (hij : j.toNatClampNeg = i) (hi : i < 11) (hv : f i = .ref y) : Con l Z [] (⟨"java/util/ImmutableCollections$ListN", "get", "(I)Ljava/lang/Object;"⟩ : MethodName) jdk_45_method_4_code 2 ((some (Jvm.ClassFile.FieldType.object "java/lang/Object"))) ({ frames := 0, cells := 0, slots := 0, locals := 0 } : Room) #[(.ref x), (.int j)] h [] (fun v h' => v = some (.ref y) ∧ h' = h) := by
  refine Con.of (plainFor_of_name pn9) (Ls := #[.val (.ref x), .val (.int j)]) (fun m => by first | (simp [entryFrame, mkF, argsToLocals, Value.category]; done) | rfl) ?_
  intro p_ e_ s_ m_ bel_ mt_ cd_ C
  refine g_aload_n C d_jdk_45_method_4_0 rfl rfl (pc' := 1) rfl ?_
  refine g_getfield C (W170 hw) Via.refl (F) d_jdk_45_method_4_1 (pc' := 4) rfl ?_
  refine g_iload_n C d_jdk_45_method_4_4 rfl (pc' := 5) rfl ?_
  refine g_aaload C A rfl hj hij hi hv d_jdk_45_method_4_5 (pc' := 6) rfl ?_
  exact g_areturn C rfl rfl d_jdk_45_method_4_6 (⟨rfl, rfl⟩) (by first | decide | exact Nat.le_of_ble_eq_true rfl) (by first | decide | exact Nat.le_of_ble_eq_true rfl)
set_option maxRecDepth 65536 in
set_option maxHeartbeats 40000000 in
theorem con_eq (l : Launch) (Z : State) (a0 : Array Value) (hw : ∀ d ∈ tables_1, d.before a0 Z = true)  (h : Heap) (x : Addr) : Con l Z [] (⟨"java/lang/String", "equals", "(Ljava/lang/Object;)Z"⟩ : MethodName) jdk_42_method_66_code 3 ((some Jvm.ClassFile.FieldType.boolean)) ({ frames := 0, cells := 0, slots := 0, locals := 0 } : Room) #[(.ref x), (.ref x)] h [] (fun v h' => v = some (.int 1) ∧ h' = h) := by
  refine Con.of (plainFor_of_name pn12) (Ls := #[.val (.ref x), .val (.ref x), .unset]) (fun m => by first | (simp [entryFrame, mkF, argsToLocals, Value.category]; done) | rfl) ?_
  intro p_ e_ s_ m_ bel_ mt_ cd_ C
  refine g_aload_n C d_jdk_42_method_66_0 rfl rfl (pc' := 1) rfl ?_
  refine g_aload_n C d_jdk_42_method_66_1 rfl rfl (pc' := 2) rfl ?_
  refine g_if_acmpne C rfl rfl d_jdk_42_method_66_2 (by first | decide | exact Nat.le_of_ble_eq_true rfl) (pcT := 7) rfl (pcF := 5) rfl (fun zz_ => absurd (rfl) zz_) (fun _ => ?_)
  refine g_iconst C d_jdk_42_method_66_5 (x := (1 : Int32)) rfl (pc' := 6) rfl ?_
  exact g_ireturnN C (by simp) d_jdk_42_method_66_6 (⟨rfl, rfl⟩) (by first | decide | exact Nat.le_of_ble_eq_true rfl) (by first | decide | exact Nat.le_of_ble_eq_true rfl)
set_option maxRecDepth 65536 in
set_option maxHeartbeats 40000000 in
theorem con_law (l : Launch) (Z : State) (a0 : Array Value) (hw : ∀ d ∈ tables_1, d.before a0 Z = true)  (h : Heap) (hS : SS Z) (p0 p1 p2 : Int64) : Con l Z [] x code maxLocals (ret) room_1 #[(.long p0), (.long p1), (.long p2)] h tables_1 (fun v _ => v = some (.int 1)) := by
  refine Con.of (plainFor_of_name pn0) (Ls := #[.val (.long p0), .second, .val (.long p1), .second, .val (.long p2), .second, .unset, .unset, .unset, .unset, .unset, .unset, .unset, .unset, .unset, .unset, .unset, .unset, .unset]) (fun m => by first | (simp [entryFrame, mkF, argsToLocals, Value.category, maxLocals]; done) | rfl) ?_
  intro p_ e_ s_ m_ bel_ mt_ cd_ C
  refine g_lload_n C at_0 rfl (pc' := 1) rfl ?_
  refine g_iconst C at_1 (x := (0 : Int32)) rfl (pc' := 2) rfl ?_
  refine g_staticC C (W := 0) (argsL := [(.long p0), (.int (0 : Int32))]) (rest := []) (con_s l Z a0 hw h hS p0 (0 : Int32)) (W0 hw) (W1 hw) (W2 hw) (W3 hw) (by first | decide | exact Nat.le_of_ble_eq_true rfl) rfl (lenOf pd5 rfl) rfl (Nat.le_of_eq rfl) at_2 (pc' := 5) rfl (by first | decide | exact Nat.le_of_ble_eq_true rfl) (by first | decide | exact Nat.le_of_ble_eq_true rfl) (fun _ q => nomatch q) (by first | decide | exact Nat.le_of_ble_eq_true rfl) (by first | decide | exact Nat.le_of_ble_eq_true rfl) ?_
  rintro _ g0 ⟨t0, rfl, ht0, Et0⟩ Kg0
  refine g_norm (cells' := 3) (slots' := 8) (st' := [(.ref t0)]) (by first | decide | exact Nat.le_of_ble_eq_true rfl) (by first | decide | exact Nat.le_of_ble_eq_true rfl) rfl ?_
  refine g_astore C at_5 rfl (Ls' := #[.val (.long p0), .second, .val (.long p1), .second, .val (.long p2), .second, .val (.ref t0), .unset, .unset, .unset, .unset, .unset, .unset, .unset, .unset, .unset, .unset, .unset, .unset]) rfl (pc' := 7) rfl ?_
  refine g_lload_n C at_7 rfl (pc' := 8) rfl ?_
  refine g_bipush C at_8 (x := (16 : Int32)) rfl (pc' := 10) rfl ?_
  refine g_staticC C (W := 0) (argsL := [(.long p0), (.int (16 : Int32))]) (rest := []) (con_s l Z a0 hw g0 hS p0 (16 : Int32)) (W0 hw) (W1 hw) (W2 hw) (W3 hw) (by first | decide | exact Nat.le_of_ble_eq_true rfl) rfl (lenOf pd5 rfl) rfl (Nat.le_of_eq rfl) at_10 (pc' := 13) rfl (by first | decide | exact Nat.le_of_ble_eq_true rfl) (by first | decide | exact Nat.le_of_ble_eq_true rfl) (fun _ q => nomatch q) (by first | decide | exact Nat.le_of_ble_eq_true rfl) (by first | decide | exact Nat.le_of_ble_eq_true rfl) ?_
  rintro _ g1 ⟨t1, rfl, ht1, Et1⟩ Kg1
  refine g_norm (cells' := 6) (slots' := 16) (st' := [(.ref t1)]) (by first | decide | exact Nat.le_of_ble_eq_true rfl) (by first | decide | exact Nat.le_of_ble_eq_true rfl) rfl ?_
  have fx1 := (Et0).keep Kg1
  refine g_astore C at_13 rfl (Ls' := #[.val (.long p0), .second, .val (.long p1), .second, .val (.long p2), .second, .val (.ref t0), .val (.ref t1), .unset, .unset, .unset, .unset, .unset, .unset, .unset, .unset, .unset, .unset, .unset]) rfl (pc' := 15) rfl ?_
  refine g_lload_n C at_15 rfl (pc' := 16) rfl ?_
  refine g_bipush C at_16 (x := (32 : Int32)) rfl (pc' := 18) rfl ?_
  refine g_staticC C (W := 0) (argsL := [(.long p0), (.int (32 : Int32))]) (rest := []) (con_s l Z a0 hw g1 hS p0 (32 : Int32)) (W0 hw) (W1 hw) (W2 hw) (W3 hw) (by first | decide | exact Nat.le_of_ble_eq_true rfl) rfl (lenOf pd5 rfl) rfl (Nat.le_of_eq rfl) at_18 (pc' := 21) rfl (by first | decide | exact Nat.le_of_ble_eq_true rfl) (by first | decide | exact Nat.le_of_ble_eq_true rfl) (fun _ q => nomatch q) (by first | decide | exact Nat.le_of_ble_eq_true rfl) (by first | decide | exact Nat.le_of_ble_eq_true rfl) ?_
  rintro _ g2 ⟨t2, rfl, ht2, Et2⟩ Kg2
  refine g_norm (cells' := 9) (slots' := 24) (st' := [(.ref t2)]) (by first | decide | exact Nat.le_of_ble_eq_true rfl) (by first | decide | exact Nat.le_of_ble_eq_true rfl) rfl ?_
  have fx2 := (fx1).keep Kg2
  have fx3 := (Et1).keep Kg2
  refine g_astore C at_21 rfl (Ls' := #[.val (.long p0), .second, .val (.long p1), .second, .val (.long p2), .second, .val (.ref t0), .val (.ref t1), .val (.ref t2), .unset, .unset, .unset, .unset, .unset, .unset, .unset, .unset, .unset, .unset]) rfl (pc' := 23) rfl ?_
  refine g_lload_n C at_23 rfl (pc' := 24) rfl ?_
  refine g_bipush C at_24 (x := (48 : Int32)) rfl (pc' := 26) rfl ?_
  refine g_staticC C (W := 0) (argsL := [(.long p0), (.int (48 : Int32))]) (rest := []) (con_s l Z a0 hw g2 hS p0 (48 : Int32)) (W0 hw) (W1 hw) (W2 hw) (W3 hw) (by first | decide | exact Nat.le_of_ble_eq_true rfl) rfl (lenOf pd5 rfl) rfl (Nat.le_of_eq rfl) at_26 (pc' := 29) rfl (by first | decide | exact Nat.le_of_ble_eq_true rfl) (by first | decide | exact Nat.le_of_ble_eq_true rfl) (fun _ q => nomatch q) (by first | decide | exact Nat.le_of_ble_eq_true rfl) (by first | decide | exact Nat.le_of_ble_eq_true rfl) ?_
  rintro _ g3 ⟨t3, rfl, ht3, Et3⟩ Kg3
  refine g_norm (cells' := 12) (slots' := 32) (st' := [(.ref t3)]) (by first | decide | exact Nat.le_of_ble_eq_true rfl) (by first | decide | exact Nat.le_of_ble_eq_true rfl) rfl ?_
  have fx4 := (fx2).keep Kg3
  have fx5 := (fx3).keep Kg3
  have fx6 := (Et2).keep Kg3
  refine g_astore C at_29 rfl (Ls' := #[.val (.long p0), .second, .val (.long p1), .second, .val (.long p2), .second, .val (.ref t0), .val (.ref t1), .val (.ref t2), .val (.ref t3), .unset, .unset, .unset, .unset, .unset, .unset, .unset, .unset, .unset]) rfl (pc' := 31) rfl ?_
  refine g_lload_n C at_31 rfl (pc' := 32) rfl ?_
  refine g_iconst C at_32 (x := (0 : Int32)) rfl (pc' := 33) rfl ?_
  refine g_staticC C (W := 0) (argsL := [(.long p1), (.int (0 : Int32))]) (rest := []) (con_s l Z a0 hw g3 hS p1 (0 : Int32)) (W0 hw) (W1 hw) (W2 hw) (W3 hw) (by first | decide | exact Nat.le_of_ble_eq_true rfl) rfl (lenOf pd5 rfl) rfl (Nat.le_of_eq rfl) at_33 (pc' := 36) rfl (by first | decide | exact Nat.le_of_ble_eq_true rfl) (by first | decide | exact Nat.le_of_ble_eq_true rfl) (fun _ q => nomatch q) (by first | decide | exact Nat.le_of_ble_eq_true rfl) (by first | decide | exact Nat.le_of_ble_eq_true rfl) ?_
  rintro _ g4 ⟨t4, rfl, ht4, Et4⟩ Kg4
  refine g_norm (cells' := 15) (slots' := 40) (st' := [(.ref t4)]) (by first | decide | exact Nat.le_of_ble_eq_true rfl) (by first | decide | exact Nat.le_of_ble_eq_true rfl) rfl ?_
  have fx7 := (fx4).keep Kg4
  have fx8 := (fx5).keep Kg4
  have fx9 := (fx6).keep Kg4
  have fx10 := (Et3).keep Kg4
  refine g_astore C at_36 rfl (Ls' := #[.val (.long p0), .second, .val (.long p1), .second, .val (.long p2), .second, .val (.ref t0), .val (.ref t1), .val (.ref t2), .val (.ref t3), .val (.ref t4), .unset, .unset, .unset, .unset, .unset, .unset, .unset, .unset]) rfl (pc' := 38) rfl ?_
  refine g_lload_n C at_38 rfl (pc' := 39) rfl ?_
  refine g_bipush C at_39 (x := (16 : Int32)) rfl (pc' := 41) rfl ?_
  refine g_staticC C (W := 0) (argsL := [(.long p1), (.int (16 : Int32))]) (rest := []) (con_s l Z a0 hw g4 hS p1 (16 : Int32)) (W0 hw) (W1 hw) (W2 hw) (W3 hw) (by first | decide | exact Nat.le_of_ble_eq_true rfl) rfl (lenOf pd5 rfl) rfl (Nat.le_of_eq rfl) at_41 (pc' := 44) rfl (by first | decide | exact Nat.le_of_ble_eq_true rfl) (by first | decide | exact Nat.le_of_ble_eq_true rfl) (fun _ q => nomatch q) (by first | decide | exact Nat.le_of_ble_eq_true rfl) (by first | decide | exact Nat.le_of_ble_eq_true rfl) ?_
  rintro _ g5 ⟨t5, rfl, ht5, Et5⟩ Kg5
  refine g_norm (cells' := 18) (slots' := 48) (st' := [(.ref t5)]) (by first | decide | exact Nat.le_of_ble_eq_true rfl) (by first | decide | exact Nat.le_of_ble_eq_true rfl) rfl ?_
  have fx11 := (fx7).keep Kg5
  have fx12 := (fx8).keep Kg5
  have fx13 := (fx9).keep Kg5
  have fx14 := (fx10).keep Kg5
  have fx15 := (Et4).keep Kg5
  refine g_astore C at_44 rfl (Ls' := #[.val (.long p0), .second, .val (.long p1), .second, .val (.long p2), .second, .val (.ref t0), .val (.ref t1), .val (.ref t2), .val (.ref t3), .val (.ref t4), .val (.ref t5), .unset, .unset, .unset, .unset, .unset, .unset, .unset]) rfl (pc' := 46) rfl ?_
  refine g_lload_n C at_46 rfl (pc' := 47) rfl ?_
  refine g_bipush C at_47 (x := (32 : Int32)) rfl (pc' := 49) rfl ?_
  refine g_staticC C (W := 0) (argsL := [(.long p1), (.int (32 : Int32))]) (rest := []) (con_s l Z a0 hw g5 hS p1 (32 : Int32)) (W0 hw) (W1 hw) (W2 hw) (W3 hw) (by first | decide | exact Nat.le_of_ble_eq_true rfl) rfl (lenOf pd5 rfl) rfl (Nat.le_of_eq rfl) at_49 (pc' := 52) rfl (by first | decide | exact Nat.le_of_ble_eq_true rfl) (by first | decide | exact Nat.le_of_ble_eq_true rfl) (fun _ q => nomatch q) (by first | decide | exact Nat.le_of_ble_eq_true rfl) (by first | decide | exact Nat.le_of_ble_eq_true rfl) ?_
  rintro _ g6 ⟨t6, rfl, ht6, Et6⟩ Kg6
  refine g_norm (cells' := 21) (slots' := 56) (st' := [(.ref t6)]) (by first | decide | exact Nat.le_of_ble_eq_true rfl) (by first | decide | exact Nat.le_of_ble_eq_true rfl) rfl ?_
  have fx16 := (fx11).keep Kg6
  have fx17 := (fx12).keep Kg6
  have fx18 := (fx13).keep Kg6
  have fx19 := (fx14).keep Kg6
  have fx20 := (fx15).keep Kg6
  have fx21 := (Et5).keep Kg6
  refine g_astore C at_52 rfl (Ls' := #[.val (.long p0), .second, .val (.long p1), .second, .val (.long p2), .second, .val (.ref t0), .val (.ref t1), .val (.ref t2), .val (.ref t3), .val (.ref t4), .val (.ref t5), .val (.ref t6), .unset, .unset, .unset, .unset, .unset, .unset]) rfl (pc' := 54) rfl ?_
  refine g_lload_n C at_54 rfl (pc' := 55) rfl ?_
  refine g_bipush C at_55 (x := (48 : Int32)) rfl (pc' := 57) rfl ?_
  refine g_staticC C (W := 0) (argsL := [(.long p1), (.int (48 : Int32))]) (rest := []) (con_s l Z a0 hw g6 hS p1 (48 : Int32)) (W0 hw) (W1 hw) (W2 hw) (W3 hw) (by first | decide | exact Nat.le_of_ble_eq_true rfl) rfl (lenOf pd5 rfl) rfl (Nat.le_of_eq rfl) at_57 (pc' := 60) rfl (by first | decide | exact Nat.le_of_ble_eq_true rfl) (by first | decide | exact Nat.le_of_ble_eq_true rfl) (fun _ q => nomatch q) (by first | decide | exact Nat.le_of_ble_eq_true rfl) (by first | decide | exact Nat.le_of_ble_eq_true rfl) ?_
  rintro _ g7 ⟨t7, rfl, ht7, Et7⟩ Kg7
  refine g_norm (cells' := 24) (slots' := 64) (st' := [(.ref t7)]) (by first | decide | exact Nat.le_of_ble_eq_true rfl) (by first | decide | exact Nat.le_of_ble_eq_true rfl) rfl ?_
  have fx22 := (fx16).keep Kg7
  have fx23 := (fx17).keep Kg7
  have fx24 := (fx18).keep Kg7
  have fx25 := (fx19).keep Kg7
  have fx26 := (fx20).keep Kg7
  have fx27 := (fx21).keep Kg7
  have fx28 := (Et6).keep Kg7
  refine g_astore C at_60 rfl (Ls' := #[.val (.long p0), .second, .val (.long p1), .second, .val (.long p2), .second, .val (.ref t0), .val (.ref t1), .val (.ref t2), .val (.ref t3), .val (.ref t4), .val (.ref t5), .val (.ref t6), .val (.ref t7), .unset, .unset, .unset, .unset, .unset]) rfl (pc' := 62) rfl ?_
  refine g_lload C at_62 rfl (pc' := 64) rfl ?_
  refine g_iconst C at_64 (x := (0 : Int32)) rfl (pc' := 65) rfl ?_
  refine g_staticC C (W := 0) (argsL := [(.long p2), (.int (0 : Int32))]) (rest := []) (con_s l Z a0 hw g7 hS p2 (0 : Int32)) (W0 hw) (W1 hw) (W2 hw) (W3 hw) (by first | decide | exact Nat.le_of_ble_eq_true rfl) rfl (lenOf pd5 rfl) rfl (Nat.le_of_eq rfl) at_65 (pc' := 68) rfl (by first | decide | exact Nat.le_of_ble_eq_true rfl) (by first | decide | exact Nat.le_of_ble_eq_true rfl) (fun _ q => nomatch q) (by first | decide | exact Nat.le_of_ble_eq_true rfl) (by first | decide | exact Nat.le_of_ble_eq_true rfl) ?_
  rintro _ g8 ⟨t8, rfl, ht8, Et8⟩ Kg8
  refine g_norm (cells' := 27) (slots' := 72) (st' := [(.ref t8)]) (by first | decide | exact Nat.le_of_ble_eq_true rfl) (by first | decide | exact Nat.le_of_ble_eq_true rfl) rfl ?_
  have fx29 := (fx22).keep Kg8
  have fx30 := (fx23).keep Kg8
  have fx31 := (fx24).keep Kg8
  have fx32 := (fx25).keep Kg8
  have fx33 := (fx26).keep Kg8
  have fx34 := (fx27).keep Kg8
  have fx35 := (fx28).keep Kg8
  have fx36 := (Et7).keep Kg8
  refine g_astore C at_68 rfl (Ls' := #[.val (.long p0), .second, .val (.long p1), .second, .val (.long p2), .second, .val (.ref t0), .val (.ref t1), .val (.ref t2), .val (.ref t3), .val (.ref t4), .val (.ref t5), .val (.ref t6), .val (.ref t7), .val (.ref t8), .unset, .unset, .unset, .unset]) rfl (pc' := 70) rfl ?_
  refine g_lload C at_70 rfl (pc' := 72) rfl ?_
  refine g_bipush C at_72 (x := (16 : Int32)) rfl (pc' := 74) rfl ?_
  refine g_staticC C (W := 0) (argsL := [(.long p2), (.int (16 : Int32))]) (rest := []) (con_s l Z a0 hw g8 hS p2 (16 : Int32)) (W0 hw) (W1 hw) (W2 hw) (W3 hw) (by first | decide | exact Nat.le_of_ble_eq_true rfl) rfl (lenOf pd5 rfl) rfl (Nat.le_of_eq rfl) at_74 (pc' := 77) rfl (by first | decide | exact Nat.le_of_ble_eq_true rfl) (by first | decide | exact Nat.le_of_ble_eq_true rfl) (fun _ q => nomatch q) (by first | decide | exact Nat.le_of_ble_eq_true rfl) (by first | decide | exact Nat.le_of_ble_eq_true rfl) ?_
  rintro _ g9 ⟨t9, rfl, ht9, Et9⟩ Kg9
  refine g_norm (cells' := 30) (slots' := 80) (st' := [(.ref t9)]) (by first | decide | exact Nat.le_of_ble_eq_true rfl) (by first | decide | exact Nat.le_of_ble_eq_true rfl) rfl ?_
  have fx37 := (fx29).keep Kg9
  have fx38 := (fx30).keep Kg9
  have fx39 := (fx31).keep Kg9
  have fx40 := (fx32).keep Kg9
  have fx41 := (fx33).keep Kg9
  have fx42 := (fx34).keep Kg9
  have fx43 := (fx35).keep Kg9
  have fx44 := (fx36).keep Kg9
  have fx45 := (Et8).keep Kg9
  refine g_astore C at_77 rfl (Ls' := #[.val (.long p0), .second, .val (.long p1), .second, .val (.long p2), .second, .val (.ref t0), .val (.ref t1), .val (.ref t2), .val (.ref t3), .val (.ref t4), .val (.ref t5), .val (.ref t6), .val (.ref t7), .val (.ref t8), .val (.ref t9), .unset, .unset, .unset]) rfl (pc' := 79) rfl ?_
  refine g_lload C at_79 rfl (pc' := 81) rfl ?_
  refine g_bipush C at_81 (x := (32 : Int32)) rfl (pc' := 83) rfl ?_
  refine g_staticC C (W := 0) (argsL := [(.long p2), (.int (32 : Int32))]) (rest := []) (con_s l Z a0 hw g9 hS p2 (32 : Int32)) (W0 hw) (W1 hw) (W2 hw) (W3 hw) (by first | decide | exact Nat.le_of_ble_eq_true rfl) rfl (lenOf pd5 rfl) rfl (Nat.le_of_eq rfl) at_83 (pc' := 86) rfl (by first | decide | exact Nat.le_of_ble_eq_true rfl) (by first | decide | exact Nat.le_of_ble_eq_true rfl) (fun _ q => nomatch q) (by first | decide | exact Nat.le_of_ble_eq_true rfl) (by first | decide | exact Nat.le_of_ble_eq_true rfl) ?_
  rintro _ g10 ⟨t10, rfl, ht10, Et10⟩ Kg10
  refine g_norm (cells' := 33) (slots' := 88) (st' := [(.ref t10)]) (by first | decide | exact Nat.le_of_ble_eq_true rfl) (by first | decide | exact Nat.le_of_ble_eq_true rfl) rfl ?_
  have fx46 := (fx37).keep Kg10
  have fx47 := (fx38).keep Kg10
  have fx48 := (fx39).keep Kg10
  have fx49 := (fx40).keep Kg10
  have fx50 := (fx41).keep Kg10
  have fx51 := (fx42).keep Kg10
  have fx52 := (fx43).keep Kg10
  have fx53 := (fx44).keep Kg10
  have fx54 := (fx45).keep Kg10
  have fx55 := (Et9).keep Kg10
  refine g_astore C at_86 rfl (Ls' := #[.val (.long p0), .second, .val (.long p1), .second, .val (.long p2), .second, .val (.ref t0), .val (.ref t1), .val (.ref t2), .val (.ref t3), .val (.ref t4), .val (.ref t5), .val (.ref t6), .val (.ref t7), .val (.ref t8), .val (.ref t9), .val (.ref t10), .unset, .unset]) rfl (pc' := 88) rfl ?_
  refine g_new C (W35 hw) (W36 hw) (W37 hw) at_88 (pc' := 91) rfl (by first | decide | exact Nat.le_of_ble_eq_true rfl) (by first | decide | exact Nat.le_of_ble_eq_true rfl) ?_
  intro m1 ho qo go Xo Eo Do
  refine g_norm (cells' := 34) (slots' := 94) (st' := [(.ref ho)]) (by first | decide | exact Nat.le_of_ble_eq_true rfl) (by first | decide | exact Nat.le_of_ble_eq_true rfl) rfl ?_
  have fx56 := (fx46).ext Xo
  have fx57 := (fx47).ext Xo
  have fx58 := (fx48).ext Xo
  have fx59 := (fx49).ext Xo
  have fx60 := (fx50).ext Xo
  have fx61 := (fx51).ext Xo
  have fx62 := (fx52).ext Xo
  have fx63 := (fx53).ext Xo
  have fx64 := (fx54).ext Xo
  have fx65 := (fx55).ext Xo
  have fx66 := (Et10).ext Xo
  have Fo0 := Do (Or.inr (W76 hw)) (ty := (.object "com/example/pledgewire/pledgewire/Reference$AssetAccount")) (by first | decide | exact Nat.le_of_ble_eq_true rfl)
  have Fo1 := Do (Or.inr (W78 hw)) (ty := (.object "com/example/pledgewire/pledgewire/AssetKind")) (by first | decide | exact Nat.le_of_ble_eq_true rfl)
  have Fo2 := Do (Or.inr (W80 hw)) (ty := (.object "java/lang/String")) (by first | decide | exact Nat.le_of_ble_eq_true rfl)
  have Fo3 := Do (Or.inr (W82 hw)) (ty := (.object "java/lang/String")) (by first | decide | exact Nat.le_of_ble_eq_true rfl)
  have Fo4 := Do (Or.inr (W84 hw)) (ty := (.object "java/lang/String")) (by first | decide | exact Nat.le_of_ble_eq_true rfl)
  have Fo5 := Do (Or.inr (W86 hw)) (ty := (.object "java/lang/String")) (by first | decide | exact Nat.le_of_ble_eq_true rfl)
  refine g_dup C at_91 rfl (pc' := 92) rfl ?_
  refine g_new C (W38 hw) (W39 hw) (W40 hw) at_92 (pc' := 95) rfl (by first | decide | exact Nat.le_of_ble_eq_true rfl) (by first | decide | exact Nat.le_of_ble_eq_true rfl) ?_
  intro m2 ac qa ga Xa Ea Da
  refine g_norm (cells' := 35) (slots' := 99) (st' := [(.ref ac), (.ref ho), (.ref ho)]) (by first | decide | exact Nat.le_of_ble_eq_true rfl) (by first | decide | exact Nat.le_of_ble_eq_true rfl) rfl ?_
  have ne_ho_ac : ho ≠ ac := by rw [qa]; exact Nat.ne_of_lt (Eo).lt
  have fx67 := (fx56).ext Xa
  have fx68 := (fx57).ext Xa
  have fx69 := (fx58).ext Xa
  have fx70 := (fx59).ext Xa
  have fx71 := (fx60).ext Xa
  have fx72 := (fx61).ext Xa
  have fx73 := (fx62).ext Xa
  have fx74 := (fx63).ext Xa
  have fx75 := (fx64).ext Xa
  have fx76 := (fx65).ext Xa
  have fx77 := (fx66).ext Xa
  have fx78 := (Eo).ext Xa
  have fx79 := (Fo0).ext Xa
  have fx80 := (Fo1).ext Xa
  have fx81 := (Fo2).ext Xa
  have fx82 := (Fo3).ext Xa
  have fx83 := (Fo4).ext Xa
  have fx84 := (Fo5).ext Xa
  refine g_dup C at_95 rfl (pc' := 96) rfl ?_
  refine g_aload C at_96 rfl rfl (pc' := 98) rfl ?_
  refine g_aload C at_98 rfl rfl (pc' := 100) rfl ?_
  refine g_aload C at_100 rfl rfl (pc' := 102) rfl ?_
  refine g_aload C at_102 rfl rfl (pc' := 104) rfl ?_
  refine g_aload C at_104 rfl rfl (pc' := 106) rfl ?_
  refine g_specialC C (W := 3) (argsL := [(.ref t0), (.ref t1), (.ref t2), (.ref t3), (.ref t4)]) (rest := [(.ref ac), (.ref ho), (.ref ho)]) (con_acc l Z a0 hw m2 ac t0 t1 t2 t3 t4 Ea (Da (Or.inr (W51 hw)) (ty := (.object "java/lang/String")) (by first | decide | exact Nat.le_of_ble_eq_true rfl)) (Da (Or.inr (W53 hw)) (ty := (.object "java/lang/String")) (by first | decide | exact Nat.le_of_ble_eq_true rfl)) (Da (Or.inr (W55 hw)) (ty := (.object "java/lang/String")) (by first | decide | exact Nat.le_of_ble_eq_true rfl)) (Da (Or.inr (W57 hw)) (ty := (.object "java/lang/String")) (by first | decide | exact Nat.le_of_ble_eq_true rfl)) (Da (Or.inr (W59 hw)) (ty := (.object "java/lang/String")) (by first | decide | exact Nat.le_of_ble_eq_true rfl))) rfl (W41 hw) (W42 hw) (W40 hw) (W43 hw) (by first | decide | exact Nat.le_of_ble_eq_true rfl) rfl (lenOf pd6 rfl) rfl (Nat.le_of_eq rfl) at_106 (pc' := 109) rfl (by first | decide | exact Nat.le_of_ble_eq_true rfl) (by first | decide | exact Nat.le_of_ble_eq_true rfl) (allS (Or.inr ga) all0) (by first | decide | exact Nat.le_of_ble_eq_true rfl) (by first | decide | exact Nat.le_of_ble_eq_true rfl) ?_
  rintro _ m3 ⟨rfl, Ea2, Fa0, Fa1, Fa2, Fa3, Fa4⟩ Ka
  refine g_norm (cells' := 35) (slots' := 99) (st' := [(.ref ac), (.ref ho), (.ref ho)]) (by first | decide | exact Nat.le_of_ble_eq_true rfl) (by first | decide | exact Nat.le_of_ble_eq_true rfl) rfl ?_
  have fx85 := (fx67).keep Ka
  have fx86 := (fx68).keep Ka
  have fx87 := (fx69).keep Ka
  have fx88 := (fx70).keep Ka
  have fx89 := (fx71).keep Ka
  have fx90 := (fx72).keep Ka
  have fx91 := (fx73).keep Ka
  have fx92 := (fx74).keep Ka
  have fx93 := (fx75).keep Ka
  have fx94 := (fx76).keep Ka
  have fx95 := (fx77).keep Ka
  have fx96 := (fx78).keep Ka
  have fx97 := (fx79).keep Ka (ninS ne_ho_ac nin0)
  have fx98 := (fx80).keep Ka (ninS ne_ho_ac nin0)
  have fx99 := (fx81).keep Ka (ninS ne_ho_ac nin0)
  have fx100 := (fx82).keep Ka (ninS ne_ho_ac nin0)
  have fx101 := (fx83).keep Ka (ninS ne_ho_ac nin0)
  have fx102 := (fx84).keep Ka (ninS ne_ho_ac nin0)
  refine g_new C (W60 hw) (W61 hw) (W62 hw) at_109 (pc' := 112) rfl (by first | decide | exact Nat.le_of_ble_eq_true rfl) (by first | decide | exact Nat.le_of_ble_eq_true rfl) ?_
  intro m4 kn qk gk Xk Ek Dk
  refine g_norm (cells' := 36) (slots' := 101) (st' := [(.ref kn), (.ref ac), (.ref ho), (.ref ho)]) (by first | decide | exact Nat.le_of_ble_eq_true rfl) (by first | decide | exact Nat.le_of_ble_eq_true rfl) rfl ?_
  have ne_ho_kn : ho ≠ kn := by rw [qk]; exact Nat.ne_of_lt (fx96).lt
  have ne_ac_kn : ac ≠ kn := by rw [qk]; exact Nat.ne_of_lt (Ea2).lt
  have fx103 := (fx85).ext Xk
  have fx104 := (fx86).ext Xk
  have fx105 := (fx87).ext Xk
  have fx106 := (fx88).ext Xk
  have fx107 := (fx89).ext Xk
  have fx108 := (fx90).ext Xk
  have fx109 := (fx91).ext Xk
  have fx110 := (fx92).ext Xk
  have fx111 := (fx93).ext Xk
  have fx112 := (fx94).ext Xk
  have fx113 := (fx95).ext Xk
  have fx114 := (fx96).ext Xk
  have fx115 := (fx97).ext Xk
  have fx116 := (fx98).ext Xk
  have fx117 := (fx99).ext Xk
  have fx118 := (fx100).ext Xk
  have fx119 := (fx101).ext Xk
  have fx120 := (fx102).ext Xk
  have fx121 := (Ea2).ext Xk
  have fx122 := (Fa0).ext Xk
  have fx123 := (Fa1).ext Xk
  have fx124 := (Fa2).ext Xk
  have fx125 := (Fa3).ext Xk
  have fx126 := (Fa4).ext Xk
  refine g_dup C at_112 rfl (pc' := 113) rfl ?_
  refine g_aload C at_113 rfl rfl (pc' := 115) rfl ?_
  refine g_aload C at_115 rfl rfl (pc' := 117) rfl ?_
  refine g_specialC C (W := 4) (argsL := [(.ref t5), (.ref t9)]) (rest := [(.ref kn), (.ref ac), (.ref ho), (.ref ho)]) (con_kind l Z a0 hw m4 kn t5 t9 Ek (Dk (Or.inr (W68 hw)) (ty := (.object "java/lang/String")) (by first | decide | exact Nat.le_of_ble_eq_true rfl)) (Dk (Or.inr (W70 hw)) (ty := (.object "java/lang/String")) (by first | decide | exact Nat.le_of_ble_eq_true rfl))) rfl (W63 hw) (W64 hw) (W62 hw) (W65 hw) (by first | decide | exact Nat.le_of_ble_eq_true rfl) rfl (lenOf pd7 rfl) rfl (Nat.le_of_eq rfl) at_117 (pc' := 120) rfl (by first | decide | exact Nat.le_of_ble_eq_true rfl) (by first | decide | exact Nat.le_of_ble_eq_true rfl) (allS (Or.inr gk) all0) (by first | decide | exact Nat.le_of_ble_eq_true rfl) (by first | decide | exact Nat.le_of_ble_eq_true rfl) ?_
  rintro _ m5 ⟨rfl, Ek2, Fk0, Fk1⟩ Kk
  refine g_norm (cells' := 36) (slots' := 101) (st' := [(.ref kn), (.ref ac), (.ref ho), (.ref ho)]) (by first | decide | exact Nat.le_of_ble_eq_true rfl) (by first | decide | exact Nat.le_of_ble_eq_true rfl) rfl ?_
  have fx127 := (fx103).keep Kk
  have fx128 := (fx104).keep Kk
  have fx129 := (fx105).keep Kk
  have fx130 := (fx106).keep Kk
  have fx131 := (fx107).keep Kk
  have fx132 := (fx108).keep Kk
  have fx133 := (fx109).keep Kk
  have fx134 := (fx110).keep Kk
  have fx135 := (fx111).keep Kk
  have fx136 := (fx112).keep Kk
  have fx137 := (fx113).keep Kk
  have fx138 := (fx114).keep Kk
  have fx139 := (fx115).keep Kk (ninS ne_ho_kn nin0)
  have fx140 := (fx116).keep Kk (ninS ne_ho_kn nin0)
  have fx141 := (fx117).keep Kk (ninS ne_ho_kn nin0)
  have fx142 := (fx118).keep Kk (ninS ne_ho_kn nin0)
  have fx143 := (fx119).keep Kk (ninS ne_ho_kn nin0)
  have fx144 := (fx120).keep Kk (ninS ne_ho_kn nin0)
  have fx145 := (fx121).keep Kk
  have fx146 := (fx122).keep Kk (ninS ne_ac_kn nin0)
  have fx147 := (fx123).keep Kk (ninS ne_ac_kn nin0)
  have fx148 := (fx124).keep Kk (ninS ne_ac_kn nin0)
  have fx149 := (fx125).keep Kk (ninS ne_ac_kn nin0)
  have fx150 := (fx126).keep Kk (ninS ne_ac_kn nin0)
  refine g_aload C at_120 rfl rfl (pc' := 122) rfl ?_
  refine g_aload C at_122 rfl rfl (pc' := 124) rfl ?_
  refine g_aload C at_124 rfl rfl (pc' := 126) rfl ?_
  refine g_aload C at_126 rfl rfl (pc' := 128) rfl ?_
  refine g_specialC C (W := 1) (argsL := [(.ref ac), (.ref kn), (.ref t6), (.ref t7), (.ref t8), (.ref t10)]) (rest := [(.ref ho)]) (con_hold l Z a0 hw m5 ho ac kn t6 t7 t8 t10 fx138 fx139 fx140 fx141 fx142 fx143 fx144) rfl (W71 hw) (W72 hw) (W37 hw) (W73 hw) (by first | decide | exact Nat.le_of_ble_eq_true rfl) rfl (lenOf pd8 rfl) rfl (Nat.le_of_eq rfl) at_128 (pc' := 131) rfl (by first | decide | exact Nat.le_of_ble_eq_true rfl) (by first | decide | exact Nat.le_of_ble_eq_true rfl) (allS (Or.inr go) all0) (by first | decide | exact Nat.le_of_ble_eq_true rfl) (by first | decide | exact Nat.le_of_ble_eq_true rfl) ?_
  rintro _ m6 ⟨rfl, Eo2, Fh0, Fh1, Fh2, Fh3, Fh4, Fh5⟩ Kh
  refine g_norm (cells' := 36) (slots' := 101) (st' := [(.ref ho)]) (by first | decide | exact Nat.le_of_ble_eq_true rfl) (by first | decide | exact Nat.le_of_ble_eq_true rfl) rfl ?_
  have fx151 := (fx127).keep Kh
  have fx152 := (fx128).keep Kh
  have fx153 := (fx129).keep Kh
  have fx154 := (fx130).keep Kh
  have fx155 := (fx131).keep Kh
  have fx156 := (fx132).keep Kh
  have fx157 := (fx133).keep Kh
  have fx158 := (fx134).keep Kh
  have fx159 := (fx135).keep Kh
  have fx160 := (fx136).keep Kh
  have fx161 := (fx137).keep Kh
  have fx162 := (fx138).keep Kh
  have fx169 := (fx145).keep Kh
  have fx170 := (fx146).keep Kh (ninS ne_ho_ac.symm nin0)
  have fx171 := (fx147).keep Kh (ninS ne_ho_ac.symm nin0)
  have fx172 := (fx148).keep Kh (ninS ne_ho_ac.symm nin0)
  have fx173 := (fx149).keep Kh (ninS ne_ho_ac.symm nin0)
  have fx174 := (fx150).keep Kh (ninS ne_ho_ac.symm nin0)
  have fx175 := (Ek2).keep Kh
  have fx176 := (Fk0).keep Kh (ninS ne_ho_kn.symm nin0)
  have fx177 := (Fk1).keep Kh (ninS ne_ho_kn.symm nin0)
  refine g_astore C at_131 rfl (Ls' := #[.val (.long p0), .second, .val (.long p1), .second, .val (.long p2), .second, .val (.ref t0), .val (.ref t1), .val (.ref t2), .val (.ref t3), .val (.ref t4), .val (.ref t5), .val (.ref t6), .val (.ref t7), .val (.ref t8), .val (.ref t9), .val (.ref t10), .val (.ref ho), .unset]) rfl (pc' := 133) rfl ?_
  refine g_aload C at_133 rfl rfl (pc' := 135) rfl ?_
  refine g_virtualC C (W := 0) (argsL := []) (rest := []) (con_cells l Z a0 hw m6 ho ac kn t0 t1 t2 t3 t4 t5 t6 t7 t8 t9 t10 Eo2 fx169 fx175 Fh0 Fh1 fx170 fx171 fx172 fx173 fx174 fx176 Fh2 Fh3 Fh4 fx177 Fh5 fx151 fx152 fx153 fx154 fx155 fx156 fx157 fx158 fx159 fx160 fx161) (W87 hw) (W88 hw) (W90 hw) (nfOf (W90 hw) rfl) (W89 hw) (W37 hw) (W91 hw) (by first | decide | exact Nat.le_of_ble_eq_true rfl) (Eo2) rfl (lenOf pd9 rfl) rfl (Nat.le_of_eq rfl) at_135 (pc' := 138) rfl (by first | decide | exact Nat.le_of_ble_eq_true rfl) (by first | decide | exact Nat.le_of_ble_eq_true rfl) (fun _ q => nomatch q) (by first | decide | exact Nat.le_of_ble_eq_true rfl) (by first | decide | exact Nat.le_of_ble_eq_true rfl) ?_
  rintro _ m7 ⟨x, u, rfl, Ex, Fx, Ax⟩ Kc
  refine g_norm (cells' := 39) (slots' := 125) (st' := [(.ref x)]) (by first | decide | exact Nat.le_of_ble_eq_true rfl) (by first | decide | exact Nat.le_of_ble_eq_true rfl) rfl ?_
  have fx178 := (fx151).keep Kc
  have fx179 := (fx152).keep Kc
  have fx180 := (fx153).keep Kc
  have fx181 := (fx154).keep Kc
  have fx182 := (fx155).keep Kc
  have fx183 := (fx156).keep Kc
  have fx184 := (fx157).keep Kc
  have fx185 := (fx158).keep Kc
  have fx186 := (fx159).keep Kc
  have fx187 := (fx160).keep Kc
  have fx188 := (fx161).keep Kc
  have fx189 := (Eo2).keep Kc
  have fx190 := (fx169).keep Kc
  have fx191 := (fx170).keep Kc nin0
  have fx192 := (fx171).keep Kc nin0
  have fx193 := (fx172).keep Kc nin0
  have fx194 := (fx173).keep Kc nin0
  have fx195 := (fx174).keep Kc nin0
  have fx196 := (fx175).keep Kc
  have fx197 := (fx176).keep Kc nin0
  have fx198 := (fx177).keep Kc nin0
  have fx199 := (Fh0).keep Kc nin0
  have fx200 := (Fh1).keep Kc nin0
  have fx201 := (Fh2).keep Kc nin0
  have fx202 := (Fh3).keep Kc nin0
  have fx203 := (Fh4).keep Kc nin0
  have fx204 := (Fh5).keep Kc nin0
  refine g_astore C at_138 rfl (Ls' := #[.val (.long p0), .second, .val (.long p1), .second, .val (.long p2), .second, .val (.ref t0), .val (.ref t1), .val (.ref t2), .val (.ref t3), .val (.ref t4), .val (.ref t5), .val (.ref t6), .val (.ref t7), .val (.ref t8), .val (.ref t9), .val (.ref t10), .val (.ref ho), .val (.ref x)]) rfl (pc' := 140) rfl ?_
  refine g_aload C at_140 rfl rfl (pc' := 142) rfl ?_
  refine g_interfaceC C (W := 0) (argsL := []) (rest := []) (con_size l Z a0 hw m7 x u _ Fx Ax) (W174 hw) (W175 hw) (W176 hw) (W177 hw) (W178 hw) (W179 hw) (W180 hw) (W181 hw) (W146 hw) (W182 hw) (by first | decide | exact Nat.le_of_ble_eq_true rfl) Ex rfl (lenOf pd10 rfl) rfl (Nat.le_of_eq rfl) at_142 (pc' := 147) rfl (by first | decide | exact Nat.le_of_ble_eq_true rfl) (by first | decide | exact Nat.le_of_ble_eq_true rfl) (fun _ q => nomatch q) (by first | decide | exact Nat.le_of_ble_eq_true rfl) (by first | decide | exact Nat.le_of_ble_eq_true rfl) ?_
  rintro _ hh ⟨rfl, eh_⟩ K
  subst hh
  refine g_norm (cells' := 39) (slots' := 125) (st' := [(.int (11 : Int32))]) (by first | decide | exact Nat.le_of_ble_eq_true rfl) (by first | decide | exact Nat.le_of_ble_eq_true rfl) rfl ?_
  refine g_bipush C at_147 (x := (11 : Int32)) rfl (pc' := 149) rfl ?_
  refine g_if_icmpeq C at_149 (by first | decide | exact Nat.le_of_ble_eq_true rfl) (pcT := 154) rfl (pcF := 152) rfl (fun _ => ?_) (fun zz_ => absurd (rfl) zz_)
  refine g_aload C at_154 rfl rfl (pc' := 156) rfl ?_
  refine g_iconst C at_156 (x := (0 : Int32)) rfl (pc' := 157) rfl ?_
  refine g_interfaceC C (W := 0) (argsL := [(.int (0 : Int32))]) (rest := []) (con_lget l Z a0 hw m7 x u t0 _ (0 : Int32) 0 Fx Ax (by first | decide | exact Nat.le_of_ble_eq_true rfl) rfl (by first | decide | exact Nat.le_of_ble_eq_true rfl) rfl) (W183 hw) (W184 hw) (W185 hw) (W186 hw) (W187 hw) (W188 hw) (W189 hw) (W181 hw) (W146 hw) (W190 hw) (by first | decide | exact Nat.le_of_ble_eq_true rfl) Ex rfl (lenOf pd11 rfl) rfl (Nat.le_of_eq rfl) at_157 (pc' := 162) rfl (by first | decide | exact Nat.le_of_ble_eq_true rfl) (by first | decide | exact Nat.le_of_ble_eq_true rfl) (fun _ q => nomatch q) (by first | decide | exact Nat.le_of_ble_eq_true rfl) (by first | decide | exact Nat.le_of_ble_eq_true rfl) ?_
  rintro _ hh ⟨rfl, eh_⟩ K
  subst hh
  refine g_norm (cells' := 39) (slots' := 125) (st' := [(.ref t0)]) (by first | decide | exact Nat.le_of_ble_eq_true rfl) (by first | decide | exact Nat.le_of_ble_eq_true rfl) rfl ?_
  refine g_checkcast C (W6 hw) (Ins.self fx178) at_162 (pc' := 165) rfl ?_
  refine g_aload C at_165 rfl rfl (pc' := 167) rfl ?_
  refine g_virtualC C (W := 0) (argsL := [(.ref t0)]) (rest := []) (con_eq l Z a0 hw m7 t0) (W191 hw) (W192 hw) (W194 hw) (nfOf (W194 hw) rfl) (W193 hw) (W8 hw) (W195 hw) (by first | decide | exact Nat.le_of_ble_eq_true rfl) (fx178) rfl (lenOf pd12 rfl) rfl (Nat.le_of_eq rfl) at_167 (pc' := 170) rfl (by first | decide | exact Nat.le_of_ble_eq_true rfl) (by first | decide | exact Nat.le_of_ble_eq_true rfl) (fun _ q => nomatch q) (by first | decide | exact Nat.le_of_ble_eq_true rfl) (by first | decide | exact Nat.le_of_ble_eq_true rfl) ?_
  rintro _ hh ⟨rfl, eh_⟩ K
  subst hh
  refine g_norm (cells' := 39) (slots' := 125) (st' := [(.int (1 : Int32))]) (by first | decide | exact Nat.le_of_ble_eq_true rfl) (by first | decide | exact Nat.le_of_ble_eq_true rfl) rfl ?_
  refine g_ifeq C at_170 (by first | decide | exact Nat.le_of_ble_eq_true rfl) (pcT := 372) rfl (pcF := 173) rfl (fun zz_ => absurd zz_ (by first | decide | exact Nat.le_of_ble_eq_true rfl)) (fun _ => ?_)
  refine g_aload C at_173 rfl rfl (pc' := 175) rfl ?_
  refine g_iconst C at_175 (x := (1 : Int32)) rfl (pc' := 176) rfl ?_
  refine g_interfaceC C (W := 0) (argsL := [(.int (1 : Int32))]) (rest := []) (con_lget l Z a0 hw m7 x u t1 _ (1 : Int32) 1 Fx Ax (by first | decide | exact Nat.le_of_ble_eq_true rfl) rfl (by first | decide | exact Nat.le_of_ble_eq_true rfl) rfl) (W183 hw) (W184 hw) (W185 hw) (W186 hw) (W187 hw) (W188 hw) (W189 hw) (W181 hw) (W146 hw) (W190 hw) (by first | decide | exact Nat.le_of_ble_eq_true rfl) Ex rfl (lenOf pd11 rfl) rfl (Nat.le_of_eq rfl) at_176 (pc' := 181) rfl (by first | decide | exact Nat.le_of_ble_eq_true rfl) (by first | decide | exact Nat.le_of_ble_eq_true rfl) (fun _ q => nomatch q) (by first | decide | exact Nat.le_of_ble_eq_true rfl) (by first | decide | exact Nat.le_of_ble_eq_true rfl) ?_
  rintro _ hh ⟨rfl, eh_⟩ K
  subst hh
  refine g_norm (cells' := 39) (slots' := 125) (st' := [(.ref t1)]) (by first | decide | exact Nat.le_of_ble_eq_true rfl) (by first | decide | exact Nat.le_of_ble_eq_true rfl) rfl ?_
  refine g_checkcast C (W6 hw) (Ins.self fx179) at_181 (pc' := 184) rfl ?_
  refine g_aload C at_184 rfl rfl (pc' := 186) rfl ?_
  refine g_virtualC C (W := 0) (argsL := [(.ref t1)]) (rest := []) (con_eq l Z a0 hw m7 t1) (W191 hw) (W192 hw) (W194 hw) (nfOf (W194 hw) rfl) (W193 hw) (W8 hw) (W195 hw) (by first | decide | exact Nat.le_of_ble_eq_true rfl) (fx179) rfl (lenOf pd12 rfl) rfl (Nat.le_of_eq rfl) at_186 (pc' := 189) rfl (by first | decide | exact Nat.le_of_ble_eq_true rfl) (by first | decide | exact Nat.le_of_ble_eq_true rfl) (fun _ q => nomatch q) (by first | decide | exact Nat.le_of_ble_eq_true rfl) (by first | decide | exact Nat.le_of_ble_eq_true rfl) ?_
  rintro _ hh ⟨rfl, eh_⟩ K
  subst hh
  refine g_norm (cells' := 39) (slots' := 125) (st' := [(.int (1 : Int32))]) (by first | decide | exact Nat.le_of_ble_eq_true rfl) (by first | decide | exact Nat.le_of_ble_eq_true rfl) rfl ?_
  refine g_ifeq C at_189 (by first | decide | exact Nat.le_of_ble_eq_true rfl) (pcT := 372) rfl (pcF := 192) rfl (fun zz_ => absurd zz_ (by first | decide | exact Nat.le_of_ble_eq_true rfl)) (fun _ => ?_)
  refine g_aload C at_192 rfl rfl (pc' := 194) rfl ?_
  refine g_iconst C at_194 (x := (2 : Int32)) rfl (pc' := 195) rfl ?_
  refine g_interfaceC C (W := 0) (argsL := [(.int (2 : Int32))]) (rest := []) (con_lget l Z a0 hw m7 x u t2 _ (2 : Int32) 2 Fx Ax (by first | decide | exact Nat.le_of_ble_eq_true rfl) rfl (by first | decide | exact Nat.le_of_ble_eq_true rfl) rfl) (W183 hw) (W184 hw) (W185 hw) (W186 hw) (W187 hw) (W188 hw) (W189 hw) (W181 hw) (W146 hw) (W190 hw) (by first | decide | exact Nat.le_of_ble_eq_true rfl) Ex rfl (lenOf pd11 rfl) rfl (Nat.le_of_eq rfl) at_195 (pc' := 200) rfl (by first | decide | exact Nat.le_of_ble_eq_true rfl) (by first | decide | exact Nat.le_of_ble_eq_true rfl) (fun _ q => nomatch q) (by first | decide | exact Nat.le_of_ble_eq_true rfl) (by first | decide | exact Nat.le_of_ble_eq_true rfl) ?_
  rintro _ hh ⟨rfl, eh_⟩ K
  subst hh
  refine g_norm (cells' := 39) (slots' := 125) (st' := [(.ref t2)]) (by first | decide | exact Nat.le_of_ble_eq_true rfl) (by first | decide | exact Nat.le_of_ble_eq_true rfl) rfl ?_
  refine g_checkcast C (W6 hw) (Ins.self fx180) at_200 (pc' := 203) rfl ?_
  refine g_aload C at_203 rfl rfl (pc' := 205) rfl ?_
  refine g_virtualC C (W := 0) (argsL := [(.ref t2)]) (rest := []) (con_eq l Z a0 hw m7 t2) (W191 hw) (W192 hw) (W194 hw) (nfOf (W194 hw) rfl) (W193 hw) (W8 hw) (W195 hw) (by first | decide | exact Nat.le_of_ble_eq_true rfl) (fx180) rfl (lenOf pd12 rfl) rfl (Nat.le_of_eq rfl) at_205 (pc' := 208) rfl (by first | decide | exact Nat.le_of_ble_eq_true rfl) (by first | decide | exact Nat.le_of_ble_eq_true rfl) (fun _ q => nomatch q) (by first | decide | exact Nat.le_of_ble_eq_true rfl) (by first | decide | exact Nat.le_of_ble_eq_true rfl) ?_
  rintro _ hh ⟨rfl, eh_⟩ K
  subst hh
  refine g_norm (cells' := 39) (slots' := 125) (st' := [(.int (1 : Int32))]) (by first | decide | exact Nat.le_of_ble_eq_true rfl) (by first | decide | exact Nat.le_of_ble_eq_true rfl) rfl ?_
  refine g_ifeq C at_208 (by first | decide | exact Nat.le_of_ble_eq_true rfl) (pcT := 372) rfl (pcF := 211) rfl (fun zz_ => absurd zz_ (by first | decide | exact Nat.le_of_ble_eq_true rfl)) (fun _ => ?_)
  refine g_aload C at_211 rfl rfl (pc' := 213) rfl ?_
  refine g_iconst C at_213 (x := (3 : Int32)) rfl (pc' := 214) rfl ?_
  refine g_interfaceC C (W := 0) (argsL := [(.int (3 : Int32))]) (rest := []) (con_lget l Z a0 hw m7 x u t3 _ (3 : Int32) 3 Fx Ax (by first | decide | exact Nat.le_of_ble_eq_true rfl) rfl (by first | decide | exact Nat.le_of_ble_eq_true rfl) rfl) (W183 hw) (W184 hw) (W185 hw) (W186 hw) (W187 hw) (W188 hw) (W189 hw) (W181 hw) (W146 hw) (W190 hw) (by first | decide | exact Nat.le_of_ble_eq_true rfl) Ex rfl (lenOf pd11 rfl) rfl (Nat.le_of_eq rfl) at_214 (pc' := 219) rfl (by first | decide | exact Nat.le_of_ble_eq_true rfl) (by first | decide | exact Nat.le_of_ble_eq_true rfl) (fun _ q => nomatch q) (by first | decide | exact Nat.le_of_ble_eq_true rfl) (by first | decide | exact Nat.le_of_ble_eq_true rfl) ?_
  rintro _ hh ⟨rfl, eh_⟩ K
  subst hh
  refine g_norm (cells' := 39) (slots' := 125) (st' := [(.ref t3)]) (by first | decide | exact Nat.le_of_ble_eq_true rfl) (by first | decide | exact Nat.le_of_ble_eq_true rfl) rfl ?_
  refine g_checkcast C (W6 hw) (Ins.self fx181) at_219 (pc' := 222) rfl ?_
  refine g_aload C at_222 rfl rfl (pc' := 224) rfl ?_
  refine g_virtualC C (W := 0) (argsL := [(.ref t3)]) (rest := []) (con_eq l Z a0 hw m7 t3) (W191 hw) (W192 hw) (W194 hw) (nfOf (W194 hw) rfl) (W193 hw) (W8 hw) (W195 hw) (by first | decide | exact Nat.le_of_ble_eq_true rfl) (fx181) rfl (lenOf pd12 rfl) rfl (Nat.le_of_eq rfl) at_224 (pc' := 227) rfl (by first | decide | exact Nat.le_of_ble_eq_true rfl) (by first | decide | exact Nat.le_of_ble_eq_true rfl) (fun _ q => nomatch q) (by first | decide | exact Nat.le_of_ble_eq_true rfl) (by first | decide | exact Nat.le_of_ble_eq_true rfl) ?_
  rintro _ hh ⟨rfl, eh_⟩ K
  subst hh
  refine g_norm (cells' := 39) (slots' := 125) (st' := [(.int (1 : Int32))]) (by first | decide | exact Nat.le_of_ble_eq_true rfl) (by first | decide | exact Nat.le_of_ble_eq_true rfl) rfl ?_
  refine g_ifeq C at_227 (by first | decide | exact Nat.le_of_ble_eq_true rfl) (pcT := 372) rfl (pcF := 230) rfl (fun zz_ => absurd zz_ (by first | decide | exact Nat.le_of_ble_eq_true rfl)) (fun _ => ?_)
  refine g_aload C at_230 rfl rfl (pc' := 232) rfl ?_
  refine g_iconst C at_232 (x := (4 : Int32)) rfl (pc' := 233) rfl ?_
  refine g_interfaceC C (W := 0) (argsL := [(.int (4 : Int32))]) (rest := []) (con_lget l Z a0 hw m7 x u t4 _ (4 : Int32) 4 Fx Ax (by first | decide | exact Nat.le_of_ble_eq_true rfl) rfl (by first | decide | exact Nat.le_of_ble_eq_true rfl) rfl) (W183 hw) (W184 hw) (W185 hw) (W186 hw) (W187 hw) (W188 hw) (W189 hw) (W181 hw) (W146 hw) (W190 hw) (by first | decide | exact Nat.le_of_ble_eq_true rfl) Ex rfl (lenOf pd11 rfl) rfl (Nat.le_of_eq rfl) at_233 (pc' := 238) rfl (by first | decide | exact Nat.le_of_ble_eq_true rfl) (by first | decide | exact Nat.le_of_ble_eq_true rfl) (fun _ q => nomatch q) (by first | decide | exact Nat.le_of_ble_eq_true rfl) (by first | decide | exact Nat.le_of_ble_eq_true rfl) ?_
  rintro _ hh ⟨rfl, eh_⟩ K
  subst hh
  refine g_norm (cells' := 39) (slots' := 125) (st' := [(.ref t4)]) (by first | decide | exact Nat.le_of_ble_eq_true rfl) (by first | decide | exact Nat.le_of_ble_eq_true rfl) rfl ?_
  refine g_checkcast C (W6 hw) (Ins.self fx182) at_238 (pc' := 241) rfl ?_
  refine g_aload C at_241 rfl rfl (pc' := 243) rfl ?_
  refine g_virtualC C (W := 0) (argsL := [(.ref t4)]) (rest := []) (con_eq l Z a0 hw m7 t4) (W191 hw) (W192 hw) (W194 hw) (nfOf (W194 hw) rfl) (W193 hw) (W8 hw) (W195 hw) (by first | decide | exact Nat.le_of_ble_eq_true rfl) (fx182) rfl (lenOf pd12 rfl) rfl (Nat.le_of_eq rfl) at_243 (pc' := 246) rfl (by first | decide | exact Nat.le_of_ble_eq_true rfl) (by first | decide | exact Nat.le_of_ble_eq_true rfl) (fun _ q => nomatch q) (by first | decide | exact Nat.le_of_ble_eq_true rfl) (by first | decide | exact Nat.le_of_ble_eq_true rfl) ?_
  rintro _ hh ⟨rfl, eh_⟩ K
  subst hh
  refine g_norm (cells' := 39) (slots' := 125) (st' := [(.int (1 : Int32))]) (by first | decide | exact Nat.le_of_ble_eq_true rfl) (by first | decide | exact Nat.le_of_ble_eq_true rfl) rfl ?_
  refine g_ifeq C at_246 (by first | decide | exact Nat.le_of_ble_eq_true rfl) (pcT := 372) rfl (pcF := 249) rfl (fun zz_ => absurd zz_ (by first | decide | exact Nat.le_of_ble_eq_true rfl)) (fun _ => ?_)
  refine g_aload C at_249 rfl rfl (pc' := 251) rfl ?_
  refine g_iconst C at_251 (x := (5 : Int32)) rfl (pc' := 252) rfl ?_
  refine g_interfaceC C (W := 0) (argsL := [(.int (5 : Int32))]) (rest := []) (con_lget l Z a0 hw m7 x u t5 _ (5 : Int32) 5 Fx Ax (by first | decide | exact Nat.le_of_ble_eq_true rfl) rfl (by first | decide | exact Nat.le_of_ble_eq_true rfl) rfl) (W183 hw) (W184 hw) (W185 hw) (W186 hw) (W187 hw) (W188 hw) (W189 hw) (W181 hw) (W146 hw) (W190 hw) (by first | decide | exact Nat.le_of_ble_eq_true rfl) Ex rfl (lenOf pd11 rfl) rfl (Nat.le_of_eq rfl) at_252 (pc' := 257) rfl (by first | decide | exact Nat.le_of_ble_eq_true rfl) (by first | decide | exact Nat.le_of_ble_eq_true rfl) (fun _ q => nomatch q) (by first | decide | exact Nat.le_of_ble_eq_true rfl) (by first | decide | exact Nat.le_of_ble_eq_true rfl) ?_
  rintro _ hh ⟨rfl, eh_⟩ K
  subst hh
  refine g_norm (cells' := 39) (slots' := 125) (st' := [(.ref t5)]) (by first | decide | exact Nat.le_of_ble_eq_true rfl) (by first | decide | exact Nat.le_of_ble_eq_true rfl) rfl ?_
  refine g_checkcast C (W6 hw) (Ins.self fx183) at_257 (pc' := 260) rfl ?_
  refine g_aload C at_260 rfl rfl (pc' := 262) rfl ?_
  refine g_virtualC C (W := 0) (argsL := [(.ref t5)]) (rest := []) (con_eq l Z a0 hw m7 t5) (W191 hw) (W192 hw) (W194 hw) (nfOf (W194 hw) rfl) (W193 hw) (W8 hw) (W195 hw) (by first | decide | exact Nat.le_of_ble_eq_true rfl) (fx183) rfl (lenOf pd12 rfl) rfl (Nat.le_of_eq rfl) at_262 (pc' := 265) rfl (by first | decide | exact Nat.le_of_ble_eq_true rfl) (by first | decide | exact Nat.le_of_ble_eq_true rfl) (fun _ q => nomatch q) (by first | decide | exact Nat.le_of_ble_eq_true rfl) (by first | decide | exact Nat.le_of_ble_eq_true rfl) ?_
  rintro _ hh ⟨rfl, eh_⟩ K
  subst hh
  refine g_norm (cells' := 39) (slots' := 125) (st' := [(.int (1 : Int32))]) (by first | decide | exact Nat.le_of_ble_eq_true rfl) (by first | decide | exact Nat.le_of_ble_eq_true rfl) rfl ?_
  refine g_ifeq C at_265 (by first | decide | exact Nat.le_of_ble_eq_true rfl) (pcT := 372) rfl (pcF := 268) rfl (fun zz_ => absurd zz_ (by first | decide | exact Nat.le_of_ble_eq_true rfl)) (fun _ => ?_)
  refine g_aload C at_268 rfl rfl (pc' := 270) rfl ?_
  refine g_bipush C at_270 (x := (6 : Int32)) rfl (pc' := 272) rfl ?_
  refine g_interfaceC C (W := 0) (argsL := [(.int (6 : Int32))]) (rest := []) (con_lget l Z a0 hw m7 x u t6 _ (6 : Int32) 6 Fx Ax (by first | decide | exact Nat.le_of_ble_eq_true rfl) rfl (by first | decide | exact Nat.le_of_ble_eq_true rfl) rfl) (W183 hw) (W184 hw) (W185 hw) (W186 hw) (W187 hw) (W188 hw) (W189 hw) (W181 hw) (W146 hw) (W190 hw) (by first | decide | exact Nat.le_of_ble_eq_true rfl) Ex rfl (lenOf pd11 rfl) rfl (Nat.le_of_eq rfl) at_272 (pc' := 277) rfl (by first | decide | exact Nat.le_of_ble_eq_true rfl) (by first | decide | exact Nat.le_of_ble_eq_true rfl) (fun _ q => nomatch q) (by first | decide | exact Nat.le_of_ble_eq_true rfl) (by first | decide | exact Nat.le_of_ble_eq_true rfl) ?_
  rintro _ hh ⟨rfl, eh_⟩ K
  subst hh
  refine g_norm (cells' := 39) (slots' := 125) (st' := [(.ref t6)]) (by first | decide | exact Nat.le_of_ble_eq_true rfl) (by first | decide | exact Nat.le_of_ble_eq_true rfl) rfl ?_
  refine g_checkcast C (W6 hw) (Ins.self fx184) at_277 (pc' := 280) rfl ?_
  refine g_aload C at_280 rfl rfl (pc' := 282) rfl ?_
  refine g_virtualC C (W := 0) (argsL := [(.ref t6)]) (rest := []) (con_eq l Z a0 hw m7 t6) (W191 hw) (W192 hw) (W194 hw) (nfOf (W194 hw) rfl) (W193 hw) (W8 hw) (W195 hw) (by first | decide | exact Nat.le_of_ble_eq_true rfl) (fx184) rfl (lenOf pd12 rfl) rfl (Nat.le_of_eq rfl) at_282 (pc' := 285) rfl (by first | decide | exact Nat.le_of_ble_eq_true rfl) (by first | decide | exact Nat.le_of_ble_eq_true rfl) (fun _ q => nomatch q) (by first | decide | exact Nat.le_of_ble_eq_true rfl) (by first | decide | exact Nat.le_of_ble_eq_true rfl) ?_
  rintro _ hh ⟨rfl, eh_⟩ K
  subst hh
  refine g_norm (cells' := 39) (slots' := 125) (st' := [(.int (1 : Int32))]) (by first | decide | exact Nat.le_of_ble_eq_true rfl) (by first | decide | exact Nat.le_of_ble_eq_true rfl) rfl ?_
  refine g_ifeq C at_285 (by first | decide | exact Nat.le_of_ble_eq_true rfl) (pcT := 372) rfl (pcF := 288) rfl (fun zz_ => absurd zz_ (by first | decide | exact Nat.le_of_ble_eq_true rfl)) (fun _ => ?_)
  refine g_aload C at_288 rfl rfl (pc' := 290) rfl ?_
  refine g_bipush C at_290 (x := (7 : Int32)) rfl (pc' := 292) rfl ?_
  refine g_interfaceC C (W := 0) (argsL := [(.int (7 : Int32))]) (rest := []) (con_lget l Z a0 hw m7 x u t7 _ (7 : Int32) 7 Fx Ax (by first | decide | exact Nat.le_of_ble_eq_true rfl) rfl (by first | decide | exact Nat.le_of_ble_eq_true rfl) rfl) (W183 hw) (W184 hw) (W185 hw) (W186 hw) (W187 hw) (W188 hw) (W189 hw) (W181 hw) (W146 hw) (W190 hw) (by first | decide | exact Nat.le_of_ble_eq_true rfl) Ex rfl (lenOf pd11 rfl) rfl (Nat.le_of_eq rfl) at_292 (pc' := 297) rfl (by first | decide | exact Nat.le_of_ble_eq_true rfl) (by first | decide | exact Nat.le_of_ble_eq_true rfl) (fun _ q => nomatch q) (by first | decide | exact Nat.le_of_ble_eq_true rfl) (by first | decide | exact Nat.le_of_ble_eq_true rfl) ?_
  rintro _ hh ⟨rfl, eh_⟩ K
  subst hh
  refine g_norm (cells' := 39) (slots' := 125) (st' := [(.ref t7)]) (by first | decide | exact Nat.le_of_ble_eq_true rfl) (by first | decide | exact Nat.le_of_ble_eq_true rfl) rfl ?_
  refine g_checkcast C (W6 hw) (Ins.self fx185) at_297 (pc' := 300) rfl ?_
  refine g_aload C at_300 rfl rfl (pc' := 302) rfl ?_
  refine g_virtualC C (W := 0) (argsL := [(.ref t7)]) (rest := []) (con_eq l Z a0 hw m7 t7) (W191 hw) (W192 hw) (W194 hw) (nfOf (W194 hw) rfl) (W193 hw) (W8 hw) (W195 hw) (by first | decide | exact Nat.le_of_ble_eq_true rfl) (fx185) rfl (lenOf pd12 rfl) rfl (Nat.le_of_eq rfl) at_302 (pc' := 305) rfl (by first | decide | exact Nat.le_of_ble_eq_true rfl) (by first | decide | exact Nat.le_of_ble_eq_true rfl) (fun _ q => nomatch q) (by first | decide | exact Nat.le_of_ble_eq_true rfl) (by first | decide | exact Nat.le_of_ble_eq_true rfl) ?_
  rintro _ hh ⟨rfl, eh_⟩ K
  subst hh
  refine g_norm (cells' := 39) (slots' := 125) (st' := [(.int (1 : Int32))]) (by first | decide | exact Nat.le_of_ble_eq_true rfl) (by first | decide | exact Nat.le_of_ble_eq_true rfl) rfl ?_
  refine g_ifeq C at_305 (by first | decide | exact Nat.le_of_ble_eq_true rfl) (pcT := 372) rfl (pcF := 308) rfl (fun zz_ => absurd zz_ (by first | decide | exact Nat.le_of_ble_eq_true rfl)) (fun _ => ?_)
  refine g_aload C at_308 rfl rfl (pc' := 310) rfl ?_
  refine g_bipush C at_310 (x := (8 : Int32)) rfl (pc' := 312) rfl ?_
  refine g_interfaceC C (W := 0) (argsL := [(.int (8 : Int32))]) (rest := []) (con_lget l Z a0 hw m7 x u t8 _ (8 : Int32) 8 Fx Ax (by first | decide | exact Nat.le_of_ble_eq_true rfl) rfl (by first | decide | exact Nat.le_of_ble_eq_true rfl) rfl) (W183 hw) (W184 hw) (W185 hw) (W186 hw) (W187 hw) (W188 hw) (W189 hw) (W181 hw) (W146 hw) (W190 hw) (by first | decide | exact Nat.le_of_ble_eq_true rfl) Ex rfl (lenOf pd11 rfl) rfl (Nat.le_of_eq rfl) at_312 (pc' := 317) rfl (by first | decide | exact Nat.le_of_ble_eq_true rfl) (by first | decide | exact Nat.le_of_ble_eq_true rfl) (fun _ q => nomatch q) (by first | decide | exact Nat.le_of_ble_eq_true rfl) (by first | decide | exact Nat.le_of_ble_eq_true rfl) ?_
  rintro _ hh ⟨rfl, eh_⟩ K
  subst hh
  refine g_norm (cells' := 39) (slots' := 125) (st' := [(.ref t8)]) (by first | decide | exact Nat.le_of_ble_eq_true rfl) (by first | decide | exact Nat.le_of_ble_eq_true rfl) rfl ?_
  refine g_checkcast C (W6 hw) (Ins.self fx186) at_317 (pc' := 320) rfl ?_
  refine g_aload C at_320 rfl rfl (pc' := 322) rfl ?_
  refine g_virtualC C (W := 0) (argsL := [(.ref t8)]) (rest := []) (con_eq l Z a0 hw m7 t8) (W191 hw) (W192 hw) (W194 hw) (nfOf (W194 hw) rfl) (W193 hw) (W8 hw) (W195 hw) (by first | decide | exact Nat.le_of_ble_eq_true rfl) (fx186) rfl (lenOf pd12 rfl) rfl (Nat.le_of_eq rfl) at_322 (pc' := 325) rfl (by first | decide | exact Nat.le_of_ble_eq_true rfl) (by first | decide | exact Nat.le_of_ble_eq_true rfl) (fun _ q => nomatch q) (by first | decide | exact Nat.le_of_ble_eq_true rfl) (by first | decide | exact Nat.le_of_ble_eq_true rfl) ?_
  rintro _ hh ⟨rfl, eh_⟩ K
  subst hh
  refine g_norm (cells' := 39) (slots' := 125) (st' := [(.int (1 : Int32))]) (by first | decide | exact Nat.le_of_ble_eq_true rfl) (by first | decide | exact Nat.le_of_ble_eq_true rfl) rfl ?_
  refine g_ifeq C at_325 (by first | decide | exact Nat.le_of_ble_eq_true rfl) (pcT := 372) rfl (pcF := 328) rfl (fun zz_ => absurd zz_ (by first | decide | exact Nat.le_of_ble_eq_true rfl)) (fun _ => ?_)
  refine g_aload C at_328 rfl rfl (pc' := 330) rfl ?_
  refine g_bipush C at_330 (x := (9 : Int32)) rfl (pc' := 332) rfl ?_
  refine g_interfaceC C (W := 0) (argsL := [(.int (9 : Int32))]) (rest := []) (con_lget l Z a0 hw m7 x u t9 _ (9 : Int32) 9 Fx Ax (by first | decide | exact Nat.le_of_ble_eq_true rfl) rfl (by first | decide | exact Nat.le_of_ble_eq_true rfl) rfl) (W183 hw) (W184 hw) (W185 hw) (W186 hw) (W187 hw) (W188 hw) (W189 hw) (W181 hw) (W146 hw) (W190 hw) (by first | decide | exact Nat.le_of_ble_eq_true rfl) Ex rfl (lenOf pd11 rfl) rfl (Nat.le_of_eq rfl) at_332 (pc' := 337) rfl (by first | decide | exact Nat.le_of_ble_eq_true rfl) (by first | decide | exact Nat.le_of_ble_eq_true rfl) (fun _ q => nomatch q) (by first | decide | exact Nat.le_of_ble_eq_true rfl) (by first | decide | exact Nat.le_of_ble_eq_true rfl) ?_
  rintro _ hh ⟨rfl, eh_⟩ K
  subst hh
  refine g_norm (cells' := 39) (slots' := 125) (st' := [(.ref t9)]) (by first | decide | exact Nat.le_of_ble_eq_true rfl) (by first | decide | exact Nat.le_of_ble_eq_true rfl) rfl ?_
  refine g_checkcast C (W6 hw) (Ins.self fx187) at_337 (pc' := 340) rfl ?_
  refine g_aload C at_340 rfl rfl (pc' := 342) rfl ?_
  refine g_virtualC C (W := 0) (argsL := [(.ref t9)]) (rest := []) (con_eq l Z a0 hw m7 t9) (W191 hw) (W192 hw) (W194 hw) (nfOf (W194 hw) rfl) (W193 hw) (W8 hw) (W195 hw) (by first | decide | exact Nat.le_of_ble_eq_true rfl) (fx187) rfl (lenOf pd12 rfl) rfl (Nat.le_of_eq rfl) at_342 (pc' := 345) rfl (by first | decide | exact Nat.le_of_ble_eq_true rfl) (by first | decide | exact Nat.le_of_ble_eq_true rfl) (fun _ q => nomatch q) (by first | decide | exact Nat.le_of_ble_eq_true rfl) (by first | decide | exact Nat.le_of_ble_eq_true rfl) ?_
  rintro _ hh ⟨rfl, eh_⟩ K
  subst hh
  refine g_norm (cells' := 39) (slots' := 125) (st' := [(.int (1 : Int32))]) (by first | decide | exact Nat.le_of_ble_eq_true rfl) (by first | decide | exact Nat.le_of_ble_eq_true rfl) rfl ?_
  refine g_ifeq C at_345 (by first | decide | exact Nat.le_of_ble_eq_true rfl) (pcT := 372) rfl (pcF := 348) rfl (fun zz_ => absurd zz_ (by first | decide | exact Nat.le_of_ble_eq_true rfl)) (fun _ => ?_)
  refine g_aload C at_348 rfl rfl (pc' := 350) rfl ?_
  refine g_bipush C at_350 (x := (10 : Int32)) rfl (pc' := 352) rfl ?_
  refine g_interfaceC C (W := 0) (argsL := [(.int (10 : Int32))]) (rest := []) (con_lget l Z a0 hw m7 x u t10 _ (10 : Int32) 10 Fx Ax (by first | decide | exact Nat.le_of_ble_eq_true rfl) rfl (by first | decide | exact Nat.le_of_ble_eq_true rfl) rfl) (W183 hw) (W184 hw) (W185 hw) (W186 hw) (W187 hw) (W188 hw) (W189 hw) (W181 hw) (W146 hw) (W190 hw) (by first | decide | exact Nat.le_of_ble_eq_true rfl) Ex rfl (lenOf pd11 rfl) rfl (Nat.le_of_eq rfl) at_352 (pc' := 357) rfl (by first | decide | exact Nat.le_of_ble_eq_true rfl) (by first | decide | exact Nat.le_of_ble_eq_true rfl) (fun _ q => nomatch q) (by first | decide | exact Nat.le_of_ble_eq_true rfl) (by first | decide | exact Nat.le_of_ble_eq_true rfl) ?_
  rintro _ hh ⟨rfl, eh_⟩ K
  subst hh
  refine g_norm (cells' := 39) (slots' := 125) (st' := [(.ref t10)]) (by first | decide | exact Nat.le_of_ble_eq_true rfl) (by first | decide | exact Nat.le_of_ble_eq_true rfl) rfl ?_
  refine g_checkcast C (W6 hw) (Ins.self fx188) at_357 (pc' := 360) rfl ?_
  refine g_aload C at_360 rfl rfl (pc' := 362) rfl ?_
  refine g_virtualC C (W := 0) (argsL := [(.ref t10)]) (rest := []) (con_eq l Z a0 hw m7 t10) (W191 hw) (W192 hw) (W194 hw) (nfOf (W194 hw) rfl) (W193 hw) (W8 hw) (W195 hw) (by first | decide | exact Nat.le_of_ble_eq_true rfl) (fx188) rfl (lenOf pd12 rfl) rfl (Nat.le_of_eq rfl) at_362 (pc' := 365) rfl (by first | decide | exact Nat.le_of_ble_eq_true rfl) (by first | decide | exact Nat.le_of_ble_eq_true rfl) (fun _ q => nomatch q) (by first | decide | exact Nat.le_of_ble_eq_true rfl) (by first | decide | exact Nat.le_of_ble_eq_true rfl) ?_
  rintro _ hh ⟨rfl, eh_⟩ K
  subst hh
  refine g_norm (cells' := 39) (slots' := 125) (st' := [(.int (1 : Int32))]) (by first | decide | exact Nat.le_of_ble_eq_true rfl) (by first | decide | exact Nat.le_of_ble_eq_true rfl) rfl ?_
  refine g_ifeq C at_365 (by first | decide | exact Nat.le_of_ble_eq_true rfl) (pcT := 372) rfl (pcF := 368) rfl (fun zz_ => absurd zz_ (by first | decide | exact Nat.le_of_ble_eq_true rfl)) (fun _ => ?_)
  refine g_iconst C at_368 (x := (1 : Int32)) rfl (pc' := 369) rfl ?_
  refine g_goto C at_369 (by first | decide | exact Nat.le_of_ble_eq_true rfl) (pc' := 373) rfl ?_
  exact g_ireturnN C (by simp) at_373 (rfl) (by first | decide | exact Nat.le_of_ble_eq_true rfl) (by first | decide | exact Nat.le_of_ble_eq_true rfl)
set_option maxRecDepth 65536 in
set_option maxHeartbeats 40000000 in
theorem comes_1 {Post : Tables → Env → Array Value → State → Outcome → State → Prop} (hpost : ∀ tb e args s v u, (limb_1_1.after args s (.returned v) u = true ∧ limb_1_2.after args s (.returned v) u = true ∧ True) → FrameEnd s (.returned v) u (Jvm.fieldLocs frame_1_writes args s ++ Jvm.arrayLocs frame_1_arrays args s ++ Jvm.staticLocs frame_1_statics s) 88 320 → Post tb e args s (.returned v) u) :
    ArmFor flags0 classFile x code maxLocals ret World_1 tables_1 room_1 Calls_1 rest_1 Pre_1 Post := by
  intro l hfl _ _ p e ha hc hk s m args below hf hA hF happ hP
  obtain ⟨hcalls, hrest, hpre⟩ := hP
  obtain ⟨-, -, -, hnamed, -, -, -, hat⟩ := (Spec.applies_iff hf).mp happ
  obtain ⟨hg, hn⟩ := and_e (Cond.before_iff.mp (show (Jvm.Cond.and given_1 narrow_1).before args s = true from hpre))
  obtain ⟨hcount, g0⟩ := and_e hg
  obtain ⟨k0, g1⟩ := and_e g0
  obtain ⟨k1, g2⟩ := and_e g1
  have k2 := g2
  obtain ⟨w0, w1, w2, rfl⟩ : ∃ w0 w1 w2 : Value, args = #[w0, w1, w2] := by
    have hs : args.size = 3 := by simpa [Cond.value, given_1] using hcount
    obtain ⟨L⟩ := args
    match L, hs with
    | [w0, w1, w2], _ => exact ⟨w0, w1, w2, rfl⟩
  have hw := fun d (hd : d ∈ tables_1) => atoms_spec (ws := Jvm.Cond.code x code maxLocals ret :: tables_1) hat d (List.mem_cons_of_mem _ hd)
  obtain ⟨i0, e0⟩ := isL_v k0
  obtain rfl : w0 = (.long i0) := Option.some.inj e0
  obtain ⟨i1, e1⟩ := isL_v k1
  obtain rfl : w1 = (.long i1) := Option.some.inj e1
  obtain ⟨i2, e2⟩ := isL_v k2
  obtain rfl : w2 = (.long i2) := Option.some.inj e2
  obtain ⟨hsets, hown0⟩ := atoms_of _ (rest_1_c_eq ▸ (show rest_1_c.before _ s = true from hrest))
  have hSS : SS s := by
    have n5 := not_v (Cond.before_iff.mp (hsets _ (List.mem_of_getElem? (i := 2) rfl)))
    obtain ⟨z, e10⟩ := is_v (Cond.before_iff.mp (hsets _ (List.mem_of_getElem? (i := 1) rfl)))
    obtain ⟨fm, e14, r15⟩ := isR_v (Cond.before_iff.mp (hsets _ (List.mem_of_getElem? (i := 8) rfl)))
    exact ⟨z, fm, Sta.start e10 (Or.inl (hsets _ (List.mem_of_getElem? (i := 0) rfl))), gotF (Cond.eq_ints e10 (Term.int_eval (0))) n5, Sta.start e14 (Or.inl (hsets _ (List.mem_of_getElem? (i := 7) rfl))), r15⟩
  obtain ⟨n, o, h1, h2, h3, _, L, rfl, ⟨rfl, K, N⟩, hq⟩ := con_law l s _ hw s.heap hSS i0 i1 i2 ⟨Nat.le_refl _, fun _ _ q => q⟩ (fun _ q => nomatch q) p e ha hc hk s m _ below hf ((Spec.applies_iff_loose hf).mp happ).1 ⟨rfl, State.Warmed39.refl s, rfl⟩ trivial
  exact ⟨n, _, h1, h2, h3, hpost _ _ _ _ _ _ ⟨Cond.after_iff.mpr rfl, Cond.after_iff.mpr (eq_i res_at (Term.int_eval (1)) rfl), trivial⟩ ⟨hq.1, hq.2.1, (hq.2.2.sift fun y hy => Or.inr ((N y hy).elim (fun q => nomatch q) id)).mono (by decide) (by decide)⟩⟩
theorem main_1_1 : Claimed_1_1 := comes_1 fun _ _ _ _ _ _ h hF => ⟨h.1, hF⟩
theorem main_1_2 : Claimed_1_2 := comes_1 fun _ _ _ _ _ _ h hF => ⟨h.2.1, hF⟩
end Jvm.Pilot.@@N@@
namespace Jvm.Pilot.@@N@@
open Jvm Jvm.ClassFile Sem Op Lib Jvm.Free Jvm.Stand Jvm.Pilot.@@N@@.Jvm.D
/-! MADE BY PROGRAM (witnessworld.py) out of the Statement's table words and the real class files: 36 classes; the members and pool entries that the words name. The judged class is class 1, her method 1. -/
namespace start1
open Jvm.ClassFile
def u (s : String) : CpInfo := .utf8 (stringToUtf16 s)
/-- a pool by its gaps: so many unusable entries, then the entry; so many at the end -/
def gap : Nat → List CpInfo → List CpInfo
  | 0, r => r
  | n + 1, r => .unusable :: gap n r
def poolList (es : List (Nat × CpInfo)) (last : Nat) : List CpInfo := es.foldr (fun e r => gap e.1 (e.2 :: r)) (gap last [])
def pool (es : List (Nat × CpInfo)) (last : Nat) : Array CpInfo := ⟨poolList es last⟩
def fileOf (pool : Array CpInfo) (this : Nat) (attrs : Array Attribute := #[]) (ms : Array MethodInfo := #[]) (fl : Nat := 33) (sup : Nat := 0) (ifs : Array Nat := #[]) (fds : Array FieldInfo := #[]) : ClassFile where
  minorVersion := 0
  majorVersion := 65
  constantPool := pool
  accessFlags := fl
  thisClass := this
  superClass := sup
  interfaces := ifs
  fields := fds
  methods := ms
  attributes := attrs
def plain (name : String) (sup : Option ClassId) : Class where
  name := name
  kind := .ordinary
  loader := none
  accessFlags := 33
  super := sup
  interfaces := #[]
  cf := none
  fields := #[]
  methods := #[]
  instanceTypes := #[]
  staticTypes := #[]
  resolved := #[]
  callSites := []
  init := .initialized
  statics := none
  mirror := none

def pool0 : Array CpInfo := pool [(5, u "<init>"), (0, u "()V"), (1, .class_ 10), (1, u "java/lang/Object")] 113

def k0c0 : Code := { maxStack := 0, maxLocals := 1, code := object_method_1_code, exceptionTable := #[], attributes := #[] }
def k0m0 : Method := { name := "<init>", desc := "()V", sig := { parameters := [], returnType := none }, accessFlags := 1, code := some k0c0 }
/-- java/lang/Object -/
def k0 : Class := { plain "java/lang/Object" none with
  accessFlags := 33
  interfaces := #[]
  cf := some (fileOf pool0 8 #[] #[{ accessFlags := 1, nameIndex := 5, descriptorIndex := 6, attributes := #[] }] 33 0 #[] #[])
  fields := #[]
  methods := #[k0m0]
  instanceTypes := #[]
  staticTypes := #[]
  resolved := Array.replicate 124 none
  statics := none }

def pool1 : Array CpInfo := pool [(2, .class_ 4), (1, u "java/lang/Object"), (0, u "<init>"), (0, u "()V"), (0, .methodref 8 9), (0, .class_ 10), (0, .nameAndType 11 12), (0, u "com/example/pledgewire/pledgewire/HoldingCellsPinLaw"), (0, u "s"), (0, u "(JI)Ljava/lang/String;"), (0, .class_ 14), (0, u "com/example/pledgewire/pledgewire/Holding"), (0, .class_ 16), (0, u "com/example/pledgewire/pledgewire/Reference$AssetAccount"), (0, .methodref 15 18), (0, .nameAndType 5 19), (0, u "(Ljava/lang/String;Ljava/lang/String;Ljava/lang/String;Ljava/lang/String;Ljava/lang/String;)V"), (0, .class_ 21), (0, u "com/example/pledgewire/pledgewire/AssetKind"), (0, .methodref 20 23), (0, .nameAndType 5 24), (0, u "(Ljava/lang/String;Ljava/lang/String;)V"), (0, .methodref 13 26), (0, .nameAndType 5 27), (0, u "(Lcom/example/pledgewire/pledgewire/Reference$AssetAccount;Lcom/example/pledgewire/pledgewire/AssetKind;Ljava/lang/String;Ljava/lang/String;Ljava/lang/String;Ljava/lang/String;)V"), (0, .methodref 13 29), (0, .nameAndType 30 31), (0, u "cells"), (0, u "()Ljava/util/List;"), (0, .interfaceMethodref 33 34), (0, .class_ 35), (0, .nameAndType 36 37), (0, u "java/util/List"), (0, u "size"), (0, u "()I"), (0, .interfaceMethodref 33 39), (0, .nameAndType 40 41), (0, u "get"), (0, u "(I)Ljava/lang/Object;"), (0, .class_ 43), (0, u "java/lang/String"), (0, .methodref 42 45), (0, .nameAndType 46 47), (0, u "equals"), (0, u "(Ljava/lang/Object;)Z"), (0, .long 255), (1, .methodref 42 51), (0, .nameAndType 5 52), (0, u "([C)V"), (2, u "law"), (0, u "(JJJ)Z")] 7

def k1m0 : Method := { name := "<init>", desc := "()V", sig := { parameters := [], returnType := none }, accessFlags := 1, code := none }
def k1c1 : Code := { maxStack := 9, maxLocals := 19, code := code, exceptionTable := #[], attributes := #[] }
def k1m1 : Method := { name := "law", desc := "(JJJ)Z", sig := { parameters := [.long, .long, .long], returnType := some .boolean }, accessFlags := 9, code := some k1c1 }
def k1c2 : Code := { maxStack := 6, maxLocals := 4, code := method_3_code, exceptionTable := #[], attributes := #[] }
def k1m2 : Method := { name := "s", desc := "(JI)Ljava/lang/String;", sig := { parameters := [.long, .int], returnType := some (.object "java/lang/String") }, accessFlags := 10, code := some k1c2 }
/-- com/example/pledgewire/pledgewire/HoldingCellsPinLaw -/
def k1 : Class := { plain "com/example/pledgewire/pledgewire/HoldingCellsPinLaw" (some 0) with
  accessFlags := 49
  interfaces := #[]
  cf := some (fileOf pool1 8 #[] #[{ accessFlags := 1, nameIndex := 5, descriptorIndex := 6, attributes := #[] }, { accessFlags := 9, nameIndex := 55, descriptorIndex := 56, attributes := #[] }, { accessFlags := 10, nameIndex := 11, descriptorIndex := 12, attributes := #[] }] 49 2 #[] #[])
  fields := #[]
  methods := #[k1m0, k1m1, k1m2]
  instanceTypes := #[]
  staticTypes := #[]
  resolved := Array.replicate 64 none
  statics := none }

def pool2 : Array CpInfo := pool [(1, .class_ 2), (0, u "java/io/Serializable"), (0, .class_ 4), (0, u "java/lang/Object")] 2

/-- java/io/Serializable -/
def k2 : Class := { plain "java/io/Serializable" (some 0) with
  accessFlags := 1537
  interfaces := #[]
  cf := some (fileOf pool2 1 #[] #[] 1537 3 #[] #[])
  fields := #[]
  methods := #[]
  instanceTypes := #[]
  staticTypes := #[]
  resolved := Array.replicate 7 none
  statics := none }

def pool3 : Array CpInfo := pool [(1, .class_ 2), (0, u "java/lang/Comparable"), (0, .class_ 4), (0, u "java/lang/Object")] 7

/-- java/lang/Comparable -/
def k3 : Class := { plain "java/lang/Comparable" (some 0) with
  accessFlags := 1537
  interfaces := #[]
  cf := some (fileOf pool3 1 #[] #[] 1537 3 #[] #[])
  fields := #[]
  methods := #[]
  instanceTypes := #[]
  staticTypes := #[]
  resolved := Array.replicate 12 none
  statics := none }

def pool4 : Array CpInfo := pool [(2, .class_ 4), (1, u "java/lang/CharSequence"), (42, .class_ 48), (0, u "java/lang/CharSequence$1CodePointIterator"), (10, .class_ 60), (0, u "java/lang/CharSequence$1CharIterator"), (5, .class_ 67), (0, u "java/lang/Object")] 63

/-- java/lang/CharSequence -/
def k4 : Class := { plain "java/lang/CharSequence" (some 0) with
  accessFlags := 1537
  interfaces := #[]
  cf := some (fileOf pool4 2 #[.nestMembers #[47, 59]] #[] 1537 66 #[] #[])
  fields := #[]
  methods := #[]
  instanceTypes := #[]
  staticTypes := #[]
  resolved := Array.replicate 131 none
  statics := none }

def pool5 : Array CpInfo := pool [(1, .class_ 2), (0, u "java/lang/constant/Constable"), (0, .class_ 4), (0, u "java/lang/Object")] 6

/-- java/lang/constant/Constable -/
def k5 : Class := { plain "java/lang/constant/Constable" (some 0) with
  accessFlags := 1537
  interfaces := #[]
  cf := some (fileOf pool5 1 #[] #[] 1537 3 #[] #[])
  fields := #[]
  methods := #[]
  instanceTypes := #[]
  staticTypes := #[]
  resolved := Array.replicate 11 none
  statics := none }

def pool6 : Array CpInfo := pool [(1, .class_ 2), (0, u "java/lang/constant/ConstantDesc"), (0, .class_ 4), (0, u "java/lang/Object")] 32

/-- java/lang/constant/ConstantDesc -/
def k6 : Class := { plain "java/lang/constant/ConstantDesc" (some 0) with
  accessFlags := 1537
  interfaces := #[]
  cf := some (fileOf pool6 1 #[] #[] 1537 3 #[] #[])
  fields := #[]
  methods := #[]
  instanceTypes := #[]
  staticTypes := #[]
  resolved := Array.replicate 37 none
  statics := none }

def pool7 : Array CpInfo := pool [(1, .methodref 2 3), (0, .class_ 4), (0, .nameAndType 5 6), (0, u "java/lang/Object"), (0, u "<init>"), (0, u "()V"), (2, .fieldref 10 11), (0, .class_ 12), (0, .nameAndType 13 14), (0, u "java/lang/String"), (0, u "value"), (0, u "[B"), (0, .fieldref 10 16), (0, .nameAndType 17 18), (0, u "coder"), (0, u "B"), (2, u "hash"), (0, u "I"), (2, u "hashIsZero"), (0, u "Z"), (0, .methodref 10 28), (0, .nameAndType 5 29), (0, u "([CIILjava/lang/Void;)V"), (8, .fieldref 10 39), (0, .nameAndType 40 26), (0, u "COMPACT_STRINGS"), (1, .class_ 44), (1, u "java/lang/StringUTF16"), (0, u "compress"), (1, .methodref 42 48), (0, .nameAndType 49 50), (0, u "coderFromArrayLen"), (0, u "([BI)B"), (126, .methodref 42 178), (0, .nameAndType 45 179), (0, u "([CII)[B"), (363, u "equals"), (29, u "(Ljava/lang/Object;)Z"), (1, .class_ 576), (0, u "java/lang/CharSequence"), (22, u "CASE_INSENSITIVE_ORDER"), (0, u "Ljava/util/Comparator;"), (409, u "([C)V"), (90, u "serialPersistentFields"), (0, u "[Ljava/io/ObjectStreamField;"), (0, .class_ 1104), (0, u "java/lang/String$CaseInsensitiveComparator"), (1, .class_ 1107), (0, u "java/io/Serializable"), (0, .class_ 1109), (0, u "java/lang/Comparable"), (0, .class_ 1111), (0, u "java/lang/constant/Constable"), (0, .class_ 1113), (0, u "java/lang/constant/ConstantDesc"), (2, u "serialVersionUID"), (0, u "J"), (3, u "REPL"), (0, u "C"), (2, u "LATIN1"), (1, u "UTF16")] 323

def k7m0 : Method := { name := "<init>", desc := "()V", sig := { parameters := [], returnType := none }, accessFlags := 1, code := none }
def k7c1 : Code := { maxStack := 5, maxLocals := 2, code := jdk_42_method_3_code, exceptionTable := #[], attributes := #[] }
def k7m1 : Method := { name := "<init>", desc := "([C)V", sig := { parameters := [(.array .char)], returnType := none }, accessFlags := 1, code := some k7c1 }
def k7c2 : Code := { maxStack := 2, maxLocals := 3, code := jdk_42_method_66_code, exceptionTable := #[], attributes := #[] }
def k7m2 : Method := { name := "equals", desc := "(Ljava/lang/Object;)Z", sig := { parameters := [(.object "java/lang/Object")], returnType := some .boolean }, accessFlags := 1, code := some k7c2 }
def k7c3 : Code := { maxStack := 4, maxLocals := 6, code := jdk_42_method_149_code, exceptionTable := #[], attributes := #[] }
def k7m3 : Method := { name := "<init>", desc := "([CIILjava/lang/Void;)V", sig := { parameters := [(.array .char), .int, .int, (.object "java/lang/Void")], returnType := none }, accessFlags := 2, code := some k7c3 }
/-- java/lang/String -/
def k7 : Class := { plain "java/lang/String" (some 0) with
  accessFlags := 49
  interfaces := #[2, 3, 4, 5, 6]
  cf := some (fileOf pool7 10 #[.nestMembers #[1103]] #[{ accessFlags := 1, nameIndex := 5, descriptorIndex := 6, attributes := #[] }, { accessFlags := 1, nameIndex := 5, descriptorIndex := 1010, attributes := #[] }, { accessFlags := 1, nameIndex := 543, descriptorIndex := 573, attributes := #[] }, { accessFlags := 2, nameIndex := 5, descriptorIndex := 29, attributes := #[] }] 49 2 #[1106, 1108, 575, 1110, 1112] #[{ accessFlags := 18, nameIndex := 13, descriptorIndex := 14, attributes := #[] }, { accessFlags := 18, nameIndex := 17, descriptorIndex := 18, attributes := #[] }, { accessFlags := 2, nameIndex := 21, descriptorIndex := 22, attributes := #[] }, { accessFlags := 2, nameIndex := 25, descriptorIndex := 26, attributes := #[] }, { accessFlags := 26, nameIndex := 1116, descriptorIndex := 1117, attributes := #[] }, { accessFlags := 24, nameIndex := 40, descriptorIndex := 26, attributes := #[] }, { accessFlags := 26, nameIndex := 1101, descriptorIndex := 1102, attributes := #[] }, { accessFlags := 26, nameIndex := 1121, descriptorIndex := 1122, attributes := #[] }, { accessFlags := 25, nameIndex := 599, descriptorIndex := 600, attributes := #[] }, { accessFlags := 24, nameIndex := 1125, descriptorIndex := 18, attributes := #[] }, { accessFlags := 24, nameIndex := 1127, descriptorIndex := 18, attributes := #[] }])
  fields := #[{ name := "value", type := (.array .byte), accessFlags := 18, slot := 0, constantValue := 0 }, { name := "coder", type := .byte, accessFlags := 18, slot := 1, constantValue := 0 }, { name := "hash", type := .int, accessFlags := 2, slot := 2, constantValue := 0 }, { name := "hashIsZero", type := .boolean, accessFlags := 2, slot := 3, constantValue := 0 }, { name := "serialVersionUID", type := .long, accessFlags := 26, slot := 0, constantValue := 0 }, { name := "COMPACT_STRINGS", type := .boolean, accessFlags := 24, slot := 1, constantValue := 0 }, { name := "serialPersistentFields", type := (.array (.object "java/io/ObjectStreamField")), accessFlags := 26, slot := 2, constantValue := 0 }, { name := "REPL", type := .char, accessFlags := 26, slot := 3, constantValue := 0 }, { name := "CASE_INSENSITIVE_ORDER", type := (.object "java/util/Comparator"), accessFlags := 25, slot := 4, constantValue := 0 }, { name := "LATIN1", type := .byte, accessFlags := 24, slot := 5, constantValue := 0 }, { name := "UTF16", type := .byte, accessFlags := 24, slot := 6, constantValue := 0 }]
  methods := #[k7m0, k7m1, k7m2, k7m3]
  instanceTypes := #[(.array .byte), .byte, .int, .boolean]
  staticTypes := #[.long, .boolean, (.array (.object "java/io/ObjectStreamField")), .char, (.object "java/util/Comparator"), .byte, .byte]
  resolved := Array.replicate 1451 none
  statics := some 0 }

def pool8 : Array CpInfo := pool [(6, .class_ 8), (1, u "java/lang/Object"), (0, u "<init>"), (0, u "()V"), (1, .class_ 14), (1, u "java/lang/StringUTF16"), (31, u "$assertionsDisabled"), (0, u "Z"), (13, u "HI_BYTE_SHIFT"), (0, u "I"), (2, u "LO_BYTE_SHIFT"), (49, .methodref 12 116), (0, .nameAndType 117 118), (0, u "compress"), (0, u "([CI[BII)I"), (3, u "([CII)[B"), (138, u "coderFromArrayLen"), (0, u "([BI)B"), (106, .class_ 371), (1, u "java/lang/StringUTF16$LinesSpliterator"), (58, u "MAX_LENGTH"), (196, .class_ 628), (0, u "java/lang/StringUTF16$CodePointsSpliterator"), (0, .class_ 630), (0, u "java/lang/StringUTF16$CharsSpliterator")] 4

def k8m0 : Method := { name := "<init>", desc := "()V", sig := { parameters := [], returnType := none }, accessFlags := 0, code := none }
def k8c1 : Code := { maxStack := 2, maxLocals := 2, code := jdk_52_method_15_code, exceptionTable := #[], attributes := #[] }
def k8m1 : Method := { name := "coderFromArrayLen", desc := "([BI)B", sig := { parameters := [(.array .byte), .int], returnType := some .byte }, accessFlags := 8, code := some k8c1 }
def k8c2 : Code := { maxStack := 5, maxLocals := 6, code := jdk_52_method_16_code, exceptionTable := #[], attributes := #[] }
def k8m2 : Method := { name := "compress", desc := "([CII)[B", sig := { parameters := [(.array .char), .int, .int], returnType := some (.array .byte) }, accessFlags := 9, code := some k8c2 }
def k8c3 : Code := { maxStack := 3, maxLocals := 7, code := jdk_52_method_21_code, exceptionTable := #[], attributes := #[] }
def k8m3 : Method := { name := "compress", desc := "([CI[BII)I", sig := { parameters := [(.array .char), .int, (.array .byte), .int, .int], returnType := some .int }, accessFlags := 9, code := some k8c3 }
/-- java/lang/StringUTF16 -/
def k8 : Class := { plain "java/lang/StringUTF16" (some 0) with
  accessFlags := 48
  interfaces := #[]
  cf := some (fileOf pool8 12 #[.nestMembers #[627, 629, 369]] #[{ accessFlags := 0, nameIndex := 9, descriptorIndex := 10, attributes := #[] }, { accessFlags := 8, nameIndex := 261, descriptorIndex := 262, attributes := #[] }, { accessFlags := 9, nameIndex := 117, descriptorIndex := 122, attributes := #[] }, { accessFlags := 9, nameIndex := 117, descriptorIndex := 118, attributes := #[] }] 48 6 #[] #[{ accessFlags := 26, nameIndex := 61, descriptorIndex := 62, attributes := #[] }, { accessFlags := 26, nameIndex := 65, descriptorIndex := 62, attributes := #[] }, { accessFlags := 24, nameIndex := 430, descriptorIndex := 62, attributes := #[] }, { accessFlags := 4120, nameIndex := 46, descriptorIndex := 47, attributes := #[] }])
  fields := #[{ name := "HI_BYTE_SHIFT", type := .int, accessFlags := 26, slot := 0, constantValue := 0 }, { name := "LO_BYTE_SHIFT", type := .int, accessFlags := 26, slot := 1, constantValue := 0 }, { name := "MAX_LENGTH", type := .int, accessFlags := 24, slot := 2, constantValue := 0 }, { name := "$assertionsDisabled", type := .boolean, accessFlags := 4120, slot := 3, constantValue := 0 }]
  methods := #[k8m0, k8m1, k8m2, k8m3]
  instanceTypes := #[]
  staticTypes := #[.int, .int, .int, .boolean]
  resolved := Array.replicate 635 none
  statics := none }

def pool9 : Array CpInfo := pool [(1, .methodref 2 3), (0, .class_ 4), (0, .nameAndType 5 6), (0, u "java/lang/Object"), (0, u "<init>"), (0, u "()V"), (0, .class_ 8), (0, u "java/lang/Record")] 13

def k9c0 : Code := { maxStack := 1, maxLocals := 1, code := jdk_30_method_1_code, exceptionTable := #[], attributes := #[] }
def k9m0 : Method := { name := "<init>", desc := "()V", sig := { parameters := [], returnType := none }, accessFlags := 4, code := some k9c0 }
/-- java/lang/Record -/
def k9 : Class := { plain "java/lang/Record" (some 0) with
  accessFlags := 1057
  interfaces := #[]
  cf := some (fileOf pool9 7 #[] #[{ accessFlags := 4, nameIndex := 5, descriptorIndex := 6, attributes := #[] }] 1057 2 #[] #[])
  fields := #[]
  methods := #[k9m0]
  instanceTypes := #[]
  staticTypes := #[]
  resolved := Array.replicate 22 none
  statics := none }

def pool10 : Array CpInfo := pool [(1, .methodref 2 3), (0, .class_ 4), (0, .nameAndType 5 6), (0, u "java/lang/Record"), (0, u "<init>"), (0, u "()V"), (0, .fieldref 8 9), (0, .class_ 10), (0, .nameAndType 11 12), (0, u "com/example/pledgewire/pledgewire/Holding"), (0, u "account"), (0, u "Lcom/example/pledgewire/pledgewire/Reference$AssetAccount;"), (0, .fieldref 8 14), (0, .nameAndType 15 16), (0, u "kind"), (0, u "Lcom/example/pledgewire/pledgewire/AssetKind;"), (0, .fieldref 8 18), (0, .nameAndType 19 20), (0, u "cusip"), (0, u "Ljava/lang/String;"), (0, .fieldref 8 22), (0, .nameAndType 23 20), (0, u "isin"), (0, .fieldref 8 25), (0, .nameAndType 26 20), (0, u "ticker"), (0, .fieldref 8 28), (0, .nameAndType 29 20), (0, u "custodian"), (1, .class_ 33), (1, u "com/example/pledgewire/pledgewire/AssetKind"), (6, u "(Lcom/example/pledgewire/pledgewire/Reference$AssetAccount;Lcom/example/pledgewire/pledgewire/AssetKind;Ljava/lang/String;Ljava/lang/String;Ljava/lang/String;Ljava/lang/String;)V"), (7, u "()Ljava/lang/String;"), (4, .class_ 54), (0, u "com/example/pledgewire/pledgewire/Reference$AssetAccount"), (1, .class_ 58), (1, u "java/util/List"), (2, .class_ 62), (0, u "java/lang/String"), (6, .methodref 53 70), (0, .nameAndType 71 48), (0, u "cmf"), (0, .methodref 53 73), (0, .nameAndType 74 48), (0, u "aa"), (0, .methodref 53 76), (0, .nameAndType 77 48), (0, u "fseg"), (0, .methodref 53 79), (0, .nameAndType 80 48), (0, u "acctType"), (0, .methodref 53 82), (0, .nameAndType 83 48), (0, u "busFunc"), (0, .methodref 31 85), (0, .nameAndType 86 48), (0, u "type"), (0, .methodref 31 88), (0, .nameAndType 89 48), (0, u "ccy"), (0, .interfaceMethodref 56 91), (0, .nameAndType 92 93), (0, u "of"), (0, u "([Ljava/lang/Object;)Ljava/util/List;"), (75, .class_ 171), (1, u "com/example/pledgewire/pledgewire/Holding$1"), (39, u "cells"), (0, u "()Ljava/util/List;"), (41, u "HEADINGS"), (0, u "Ljava/util/List;"), (6, u "IN_HEADING_ORDER"), (0, u "Ljava/util/Comparator;")] 81

def k10c0 : Code := { maxStack := 2, maxLocals := 7, code := prog_33_method_1_code, exceptionTable := #[], attributes := #[] }
def k10m0 : Method := { name := "<init>", desc := "(Lcom/example/pledgewire/pledgewire/Reference$AssetAccount;Lcom/example/pledgewire/pledgewire/AssetKind;Ljava/lang/String;Ljava/lang/String;Ljava/lang/String;Ljava/lang/String;)V", sig := { parameters := [(.object "com/example/pledgewire/pledgewire/Reference$AssetAccount"), (.object "com/example/pledgewire/pledgewire/AssetKind"), (.object "java/lang/String"), (.object "java/lang/String"), (.object "java/lang/String"), (.object "java/lang/String")], returnType := none }, accessFlags := 0, code := some k10c0 }
def k10c1 : Code := { maxStack := 4, maxLocals := 1, code := prog_33_method_5_code, exceptionTable := #[], attributes := #[] }
def k10m1 : Method := { name := "cells", desc := "()Ljava/util/List;", sig := { parameters := [], returnType := some (.object "java/util/List") }, accessFlags := 0, code := some k10c1 }
/-- com/example/pledgewire/pledgewire/Holding -/
def k10 : Class := { plain "com/example/pledgewire/pledgewire/Holding" (some 9) with
  accessFlags := 48
  interfaces := #[]
  cf := some (fileOf pool10 8 #[.nestMembers #[169]] #[{ accessFlags := 0, nameIndex := 5, descriptorIndex := 40, attributes := #[] }, { accessFlags := 0, nameIndex := 211, descriptorIndex := 212, attributes := #[] }] 48 2 #[] #[{ accessFlags := 18, nameIndex := 11, descriptorIndex := 12, attributes := #[] }, { accessFlags := 18, nameIndex := 15, descriptorIndex := 16, attributes := #[] }, { accessFlags := 18, nameIndex := 19, descriptorIndex := 20, attributes := #[] }, { accessFlags := 18, nameIndex := 23, descriptorIndex := 20, attributes := #[] }, { accessFlags := 18, nameIndex := 26, descriptorIndex := 20, attributes := #[] }, { accessFlags := 18, nameIndex := 29, descriptorIndex := 20, attributes := #[] }, { accessFlags := 24, nameIndex := 254, descriptorIndex := 255, attributes := #[] }, { accessFlags := 24, nameIndex := 262, descriptorIndex := 263, attributes := #[] }])
  fields := #[{ name := "account", type := (.object "com/example/pledgewire/pledgewire/Reference$AssetAccount"), accessFlags := 18, slot := 0, constantValue := 0 }, { name := "kind", type := (.object "com/example/pledgewire/pledgewire/AssetKind"), accessFlags := 18, slot := 1, constantValue := 0 }, { name := "cusip", type := (.object "java/lang/String"), accessFlags := 18, slot := 2, constantValue := 0 }, { name := "isin", type := (.object "java/lang/String"), accessFlags := 18, slot := 3, constantValue := 0 }, { name := "ticker", type := (.object "java/lang/String"), accessFlags := 18, slot := 4, constantValue := 0 }, { name := "custodian", type := (.object "java/lang/String"), accessFlags := 18, slot := 5, constantValue := 0 }, { name := "HEADINGS", type := (.object "java/util/List"), accessFlags := 24, slot := 0, constantValue := 0 }, { name := "IN_HEADING_ORDER", type := (.object "java/util/Comparator"), accessFlags := 24, slot := 1, constantValue := 0 }]
  methods := #[k10m0, k10m1]
  instanceTypes := #[(.object "com/example/pledgewire/pledgewire/Reference$AssetAccount"), (.object "com/example/pledgewire/pledgewire/AssetKind"), (.object "java/lang/String"), (.object "java/lang/String"), (.object "java/lang/String"), (.object "java/lang/String")]
  staticTypes := #[(.object "java/util/List"), (.object "java/util/Comparator")]
  resolved := Array.replicate 345 none
  statics := none }

def pool11 : Array CpInfo := pool [(1, .methodref 2 3), (0, .class_ 4), (0, .nameAndType 5 6), (0, u "java/lang/Record"), (0, u "<init>"), (0, u "()V"), (0, .fieldref 8 9), (0, .class_ 10), (0, .nameAndType 11 12), (0, u "com/example/pledgewire/pledgewire/Reference$AssetAccount"), (0, u "cmf"), (0, u "Ljava/lang/String;"), (0, .fieldref 8 14), (0, .nameAndType 15 12), (0, u "aa"), (0, .fieldref 8 17), (0, .nameAndType 18 12), (0, u "fseg"), (0, .fieldref 8 20), (0, .nameAndType 21 12), (0, u "acctType"), (0, .fieldref 8 23), (0, .nameAndType 24 12), (0, u "busFunc"), (12, u "(Ljava/lang/String;Ljava/lang/String;Ljava/lang/String;Ljava/lang/String;Ljava/lang/String;)V"), (3, u "()Ljava/lang/String;"), (5, .class_ 48), (0, u "com/example/pledgewire/pledgewire/Reference")] 23

def k11c0 : Code := { maxStack := 2, maxLocals := 6, code := prog_55_method_1_code, exceptionTable := #[], attributes := #[] }
def k11m0 : Method := { name := "<init>", desc := "(Ljava/lang/String;Ljava/lang/String;Ljava/lang/String;Ljava/lang/String;Ljava/lang/String;)V", sig := { parameters := [(.object "java/lang/String"), (.object "java/lang/String"), (.object "java/lang/String"), (.object "java/lang/String"), (.object "java/lang/String")], returnType := none }, accessFlags := 0, code := some k11c0 }
def k11c1 : Code := { maxStack := 1, maxLocals := 1, code := prog_55_method_5_code, exceptionTable := #[], attributes := #[] }
def k11m1 : Method := { name := "cmf", desc := "()Ljava/lang/String;", sig := { parameters := [], returnType := some (.object "java/lang/String") }, accessFlags := 1, code := some k11c1 }
def k11c2 : Code := { maxStack := 1, maxLocals := 1, code := prog_55_method_6_code, exceptionTable := #[], attributes := #[] }
def k11m2 : Method := { name := "aa", desc := "()Ljava/lang/String;", sig := { parameters := [], returnType := some (.object "java/lang/String") }, accessFlags := 1, code := some k11c2 }
def k11c3 : Code := { maxStack := 1, maxLocals := 1, code := prog_55_method_7_code, exceptionTable := #[], attributes := #[] }
def k11m3 : Method := { name := "fseg", desc := "()Ljava/lang/String;", sig := { parameters := [], returnType := some (.object "java/lang/String") }, accessFlags := 1, code := some k11c3 }
def k11c4 : Code := { maxStack := 1, maxLocals := 1, code := prog_55_method_8_code, exceptionTable := #[], attributes := #[] }
def k11m4 : Method := { name := "acctType", desc := "()Ljava/lang/String;", sig := { parameters := [], returnType := some (.object "java/lang/String") }, accessFlags := 1, code := some k11c4 }
def k11c5 : Code := { maxStack := 1, maxLocals := 1, code := prog_55_method_9_code, exceptionTable := #[], attributes := #[] }
def k11m5 : Method := { name := "busFunc", desc := "()Ljava/lang/String;", sig := { parameters := [], returnType := some (.object "java/lang/String") }, accessFlags := 1, code := some k11c5 }
/-- com/example/pledgewire/pledgewire/Reference$AssetAccount -/
def k11 : Class := { plain "com/example/pledgewire/pledgewire/Reference$AssetAccount" (some 9) with
  accessFlags := 48
  interfaces := #[]
  cf := some (fileOf pool11 8 #[.nestHost 47] #[{ accessFlags := 0, nameIndex := 5, descriptorIndex := 37, attributes := #[] }, { accessFlags := 1, nameIndex := 11, descriptorIndex := 41, attributes := #[] }, { accessFlags := 1, nameIndex := 15, descriptorIndex := 41, attributes := #[] }, { accessFlags := 1, nameIndex := 18, descriptorIndex := 41, attributes := #[] }, { accessFlags := 1, nameIndex := 21, descriptorIndex := 41, attributes := #[] }, { accessFlags := 1, nameIndex := 24, descriptorIndex := 41, attributes := #[] }] 48 2 #[] #[{ accessFlags := 18, nameIndex := 11, descriptorIndex := 12, attributes := #[] }, { accessFlags := 18, nameIndex := 15, descriptorIndex := 12, attributes := #[] }, { accessFlags := 18, nameIndex := 18, descriptorIndex := 12, attributes := #[] }, { accessFlags := 18, nameIndex := 21, descriptorIndex := 12, attributes := #[] }, { accessFlags := 18, nameIndex := 24, descriptorIndex := 12, attributes := #[] }])
  fields := #[{ name := "cmf", type := (.object "java/lang/String"), accessFlags := 18, slot := 0, constantValue := 0 }, { name := "aa", type := (.object "java/lang/String"), accessFlags := 18, slot := 1, constantValue := 0 }, { name := "fseg", type := (.object "java/lang/String"), accessFlags := 18, slot := 2, constantValue := 0 }, { name := "acctType", type := (.object "java/lang/String"), accessFlags := 18, slot := 3, constantValue := 0 }, { name := "busFunc", type := (.object "java/lang/String"), accessFlags := 18, slot := 4, constantValue := 0 }]
  methods := #[k11m0, k11m1, k11m2, k11m3, k11m4, k11m5]
  instanceTypes := #[(.object "java/lang/String"), (.object "java/lang/String"), (.object "java/lang/String"), (.object "java/lang/String"), (.object "java/lang/String")]
  staticTypes := #[]
  resolved := Array.replicate 72 none
  statics := none }

def pool12 : Array CpInfo := pool [(1, .methodref 2 3), (0, .class_ 4), (0, .nameAndType 5 6), (0, u "java/lang/Record"), (0, u "<init>"), (0, u "()V"), (0, .fieldref 8 9), (0, .class_ 10), (0, .nameAndType 11 12), (0, u "com/example/pledgewire/pledgewire/AssetKind"), (0, u "type"), (0, u "Ljava/lang/String;"), (0, .fieldref 8 14), (0, .nameAndType 15 12), (0, u "ccy"), (1, u "CASH"), (2, u "(Ljava/lang/String;Ljava/lang/String;)V"), (32, u "()Ljava/lang/String;")] 31

def k12c0 : Code := { maxStack := 2, maxLocals := 3, code := prog_3_method_1_code, exceptionTable := #[], attributes := #[] }
def k12m0 : Method := { name := "<init>", desc := "(Ljava/lang/String;Ljava/lang/String;)V", sig := { parameters := [(.object "java/lang/String"), (.object "java/lang/String")], returnType := none }, accessFlags := 0, code := some k12c0 }
def k12c1 : Code := { maxStack := 1, maxLocals := 1, code := prog_3_method_8_code, exceptionTable := #[], attributes := #[] }
def k12m1 : Method := { name := "type", desc := "()Ljava/lang/String;", sig := { parameters := [], returnType := some (.object "java/lang/String") }, accessFlags := 1, code := some k12c1 }
def k12c2 : Code := { maxStack := 1, maxLocals := 1, code := prog_3_method_9_code, exceptionTable := #[], attributes := #[] }
def k12m2 : Method := { name := "ccy", desc := "()Ljava/lang/String;", sig := { parameters := [], returnType := some (.object "java/lang/String") }, accessFlags := 1, code := some k12c2 }
/-- com/example/pledgewire/pledgewire/AssetKind -/
def k12 : Class := { plain "com/example/pledgewire/pledgewire/AssetKind" (some 9) with
  accessFlags := 48
  interfaces := #[]
  cf := some (fileOf pool12 8 #[] #[{ accessFlags := 0, nameIndex := 5, descriptorIndex := 20, attributes := #[] }, { accessFlags := 1, nameIndex := 11, descriptorIndex := 53, attributes := #[] }, { accessFlags := 1, nameIndex := 15, descriptorIndex := 53, attributes := #[] }] 48 2 #[] #[{ accessFlags := 18, nameIndex := 11, descriptorIndex := 12, attributes := #[] }, { accessFlags := 18, nameIndex := 15, descriptorIndex := 12, attributes := #[] }, { accessFlags := 24, nameIndex := 17, descriptorIndex := 12, attributes := #[] }])
  fields := #[{ name := "type", type := (.object "java/lang/String"), accessFlags := 18, slot := 0, constantValue := 0 }, { name := "ccy", type := (.object "java/lang/String"), accessFlags := 18, slot := 1, constantValue := 0 }, { name := "CASH", type := (.object "java/lang/String"), accessFlags := 24, slot := 0, constantValue := 0 }]
  methods := #[k12m0, k12m1, k12m2]
  instanceTypes := #[(.object "java/lang/String"), (.object "java/lang/String")]
  staticTypes := #[(.object "java/lang/String")]
  resolved := Array.replicate 85 none
  statics := none }

def pool13 : Array CpInfo := pool [(8, .class_ 10), (1, u "java/lang/Iterable"), (24, .class_ 36), (0, u "java/lang/Object")] 25

/-- java/lang/Iterable -/
def k13 : Class := { plain "java/lang/Iterable" (some 0) with
  accessFlags := 1537
  interfaces := #[]
  cf := some (fileOf pool13 8 #[] #[] 1537 35 #[] #[])
  fields := #[]
  methods := #[]
  instanceTypes := #[]
  staticTypes := #[]
  resolved := Array.replicate 62 none
  statics := none }

def pool14 : Array CpInfo := pool [(10, .class_ 12), (1, u "java/util/Collection"), (47, .class_ 61), (0, u "java/lang/Object"), (0, .class_ 63), (0, u "java/lang/Iterable")] 51

/-- java/util/Collection -/
def k14 : Class := { plain "java/util/Collection" (some 0) with
  accessFlags := 1537
  interfaces := #[13]
  cf := some (fileOf pool14 10 #[] #[] 1537 60 #[62] #[])
  fields := #[]
  methods := #[]
  instanceTypes := #[]
  staticTypes := #[]
  resolved := Array.replicate 115 none
  statics := none }

def pool15 : Array CpInfo := pool [(8, .class_ 10), (1, u "java/util/SequencedCollection"), (15, .class_ 27), (0, u "java/lang/Object"), (0, .class_ 29), (0, u "java/util/Collection")] 27

/-- java/util/SequencedCollection -/
def k15 : Class := { plain "java/util/SequencedCollection" (some 0) with
  accessFlags := 1537
  interfaces := #[14]
  cf := some (fileOf pool15 8 #[] #[] 1537 26 #[28] #[])
  fields := #[]
  methods := #[]
  instanceTypes := #[]
  staticTypes := #[]
  resolved := Array.replicate 57 none
  statics := none }

def pool16 : Array CpInfo := pool [(8, .class_ 10), (1, u "java/util/List"), (64, u "get"), (0, u "(I)Ljava/lang/Object;"), (2, u "size"), (0, u "()I"), (7, u "of"), (2, .class_ 93), (1, u "java/util/ImmutableCollections"), (9, .class_ 104), (0, u "java/lang/Object"), (3, u "([Ljava/lang/Object;)Ljava/util/List;"), (0, .methodref 91 110), (0, .nameAndType 111 108), (0, u "listFromArray"), (8, .class_ 121), (0, u "java/util/SequencedCollection")] 129

def k16m0 : Method := { name := "size", desc := "()I", sig := { parameters := [], returnType := some .int }, accessFlags := 1025, code := none }
def k16m1 : Method := { name := "get", desc := "(I)Ljava/lang/Object;", sig := { parameters := [.int], returnType := some (.object "java/lang/Object") }, accessFlags := 1025, code := none }
def k16c2 : Code := { maxStack := 5, maxLocals := 2, code := jdk_40_method_47_code, exceptionTable := #[], attributes := #[] }
def k16m2 : Method := { name := "of", desc := "([Ljava/lang/Object;)Ljava/util/List;", sig := { parameters := [(.array (.object "java/lang/Object"))], returnType := some (.object "java/util/List") }, accessFlags := 137, code := some k16c2 }
/-- java/util/List -/
def k16 : Class := { plain "java/util/List" (some 0) with
  accessFlags := 1537
  interfaces := #[15]
  cf := some (fileOf pool16 8 #[] #[{ accessFlags := 1025, nameIndex := 79, descriptorIndex := 80, attributes := #[] }, { accessFlags := 1025, nameIndex := 75, descriptorIndex := 76, attributes := #[] }, { accessFlags := 137, nameIndex := 88, descriptorIndex := 108, attributes := #[] }] 1537 103 #[120] #[])
  fields := #[]
  methods := #[k16m0, k16m1, k16m2]
  instanceTypes := #[]
  staticTypes := #[]
  resolved := Array.replicate 251 none
  statics := none }

def pool17 : Array CpInfo := pool [(2, .class_ 4), (1, u "java/lang/Object"), (0, u "<init>"), (0, u "()V"), (3, .class_ 11), (0, u "java/util/ImmutableCollections$List12"), (0, .class_ 13), (0, u "java/util/ImmutableCollections$ListN"), (3, u "Z"), (18, u "([Ljava/lang/Object;)Ljava/util/List;"), (0, .methodref 38 39), (0, .class_ 40), (0, .nameAndType 41 42), (0, u "java/util/Objects"), (0, u "requireNonNull"), (0, u "(Ljava/lang/Object;)Ljava/lang/Object;"), (0, .methodref 12 44), (0, .nameAndType 5 45), (0, u "([Ljava/lang/Object;Z)V"), (1, .class_ 49), (1, u "java/util/ImmutableCollections"), (0, u "$assertionsDisabled"), (5, u "[Ljava/lang/Object;"), (5, u "EMPTY_LIST"), (0, u "Ljava/util/ImmutableCollections$ListN;"), (8, u "EMPTY_LIST_NULLS"), (22, u "SALT32L"), (0, u "J"), (2, u "REVERSE"), (6, u "archivedObjects"), (2, u "EMPTY"), (0, u "Ljava/lang/Object;"), (0, .class_ 112), (0, u "java/util/ImmutableCollections$SetN"), (5, u "EMPTY_SET"), (0, u "Ljava/util/ImmutableCollections$SetN;"), (0, .class_ 121), (0, u "java/util/ImmutableCollections$MapN"), (3, u "EMPTY_MAP"), (0, u "Ljava/util/ImmutableCollections$MapN;"), (4, u "EXPAND_FACTOR"), (0, u "I"), (18, u "listFromArray"), (17, .class_ 170), (0, u "java/util/ImmutableCollections$MapN$MapNIterator"), (0, .class_ 172), (0, u "java/util/ImmutableCollections$MapN$1"), (0, .class_ 174), (0, u "java/util/ImmutableCollections$Map1"), (0, .class_ 176), (0, u "java/util/ImmutableCollections$AbstractImmutableMap"), (0, .class_ 178), (0, u "java/util/ImmutableCollections$SetN$SetNIterator"), (0, .class_ 180), (0, u "java/util/ImmutableCollections$Set12"), (0, .class_ 182), (0, u "java/util/ImmutableCollections$Set12$1"), (0, .class_ 184), (0, u "java/util/ImmutableCollections$AbstractImmutableSet"), (0, .class_ 186), (0, u "java/util/ImmutableCollections$SubList"), (0, .class_ 188), (0, u "java/util/ImmutableCollections$ListItr"), (0, .class_ 190), (0, u "java/util/ImmutableCollections$AbstractImmutableList"), (0, .class_ 192), (0, u "java/util/ImmutableCollections$AbstractImmutableCollection"), (0, .class_ 194), (0, u "java/util/ImmutableCollections$Access"), (0, .class_ 196), (0, u "java/util/ImmutableCollections$Access$1")] 16

def k17m0 : Method := { name := "<init>", desc := "()V", sig := { parameters := [], returnType := none }, accessFlags := 2, code := none }
def k17c1 : Code := { maxStack := 4, maxLocals := 3, code := jdk_56_method_4_code, exceptionTable := #[], attributes := #[] }
def k17m1 : Method := { name := "listFromArray", desc := "([Ljava/lang/Object;)Ljava/util/List;", sig := { parameters := [(.array (.object "java/lang/Object"))], returnType := some (.object "java/util/List") }, accessFlags := 136, code := some k17c1 }
/-- java/util/ImmutableCollections -/
def k17 : Class := { plain "java/util/ImmutableCollections" (some 0) with
  accessFlags := 32
  interfaces := #[]
  cf := some (fileOf pool17 47 #[.nestMembers #[120, 169, 171, 173, 175, 111, 177, 179, 181, 183, 12, 10, 185, 187, 189, 191, 193, 195]] #[{ accessFlags := 2, nameIndex := 5, descriptorIndex := 6, attributes := #[] }, { accessFlags := 136, nameIndex := 151, descriptorIndex := 36, attributes := #[] }] 32 2 #[] #[{ accessFlags := 26, nameIndex := 95, descriptorIndex := 96, attributes := #[] }, { accessFlags := 26, nameIndex := 99, descriptorIndex := 17, attributes := #[] }, { accessFlags := 10, nameIndex := 106, descriptorIndex := 56, attributes := #[] }, { accessFlags := 26, nameIndex := 109, descriptorIndex := 110, attributes := #[] }, { accessFlags := 24, nameIndex := 62, descriptorIndex := 63, attributes := #[] }, { accessFlags := 24, nameIndex := 72, descriptorIndex := 63, attributes := #[] }, { accessFlags := 24, nameIndex := 118, descriptorIndex := 119, attributes := #[] }, { accessFlags := 24, nameIndex := 125, descriptorIndex := 126, attributes := #[] }, { accessFlags := 24, nameIndex := 131, descriptorIndex := 132, attributes := #[] }, { accessFlags := 4120, nameIndex := 50, descriptorIndex := 17, attributes := #[] }])
  fields := #[{ name := "SALT32L", type := .long, accessFlags := 26, slot := 0, constantValue := 0 }, { name := "REVERSE", type := .boolean, accessFlags := 26, slot := 1, constantValue := 0 }, { name := "archivedObjects", type := (.array (.object "java/lang/Object")), accessFlags := 10, slot := 2, constantValue := 0 }, { name := "EMPTY", type := (.object "java/lang/Object"), accessFlags := 26, slot := 3, constantValue := 0 }, { name := "EMPTY_LIST", type := (.object "java/util/ImmutableCollections$ListN"), accessFlags := 24, slot := 4, constantValue := 0 }, { name := "EMPTY_LIST_NULLS", type := (.object "java/util/ImmutableCollections$ListN"), accessFlags := 24, slot := 5, constantValue := 0 }, { name := "EMPTY_SET", type := (.object "java/util/ImmutableCollections$SetN"), accessFlags := 24, slot := 6, constantValue := 0 }, { name := "EMPTY_MAP", type := (.object "java/util/ImmutableCollections$MapN"), accessFlags := 24, slot := 7, constantValue := 0 }, { name := "EXPAND_FACTOR", type := .int, accessFlags := 24, slot := 8, constantValue := 0 }, { name := "$assertionsDisabled", type := .boolean, accessFlags := 4120, slot := 9, constantValue := 0 }]
  methods := #[k17m0, k17m1]
  instanceTypes := #[]
  staticTypes := #[.long, .boolean, (.array (.object "java/lang/Object")), (.object "java/lang/Object"), (.object "java/util/ImmutableCollections$ListN"), (.object "java/util/ImmutableCollections$ListN"), (.object "java/util/ImmutableCollections$SetN"), (.object "java/util/ImmutableCollections$MapN"), .int, .boolean]
  resolved := Array.replicate 213 none
  statics := none }

def pool18 : Array CpInfo := pool [(2, .class_ 4), (1, u "java/lang/Object"), (0, u "<init>"), (0, u "()V"), (35, .class_ 44), (1, u "java/util/Objects"), (0, u "requireNonNull"), (0, u "(Ljava/lang/Object;)Ljava/lang/Object;")] 137

def k18m0 : Method := { name := "<init>", desc := "()V", sig := { parameters := [], returnType := none }, accessFlags := 2, code := none }
def k18c1 : Code := { maxStack := 2, maxLocals := 1, code := jdk_31_method_10_code, exceptionTable := #[], attributes := #[] }
def k18m1 : Method := { name := "requireNonNull", desc := "(Ljava/lang/Object;)Ljava/lang/Object;", sig := { parameters := [(.object "java/lang/Object")], returnType := some (.object "java/lang/Object") }, accessFlags := 9, code := some k18c1 }
/-- java/util/Objects -/
def k18 : Class := { plain "java/util/Objects" (some 0) with
  accessFlags := 49
  interfaces := #[]
  cf := some (fileOf pool18 42 #[] #[{ accessFlags := 2, nameIndex := 5, descriptorIndex := 6, attributes := #[] }, { accessFlags := 9, nameIndex := 45, descriptorIndex := 46, attributes := #[] }] 49 2 #[] #[])
  fields := #[]
  methods := #[k18m0, k18m1]
  instanceTypes := #[]
  staticTypes := #[]
  resolved := Array.replicate 184 none
  statics := none }

def pool19 : Array CpInfo := pool [(1, .methodref 2 3), (0, .class_ 4), (0, .nameAndType 5 6), (0, u "java/lang/Object"), (0, u "<init>"), (0, u "()V"), (1, .class_ 10), (1, u "java/util/AbstractCollection"), (66, .class_ 78), (0, u "java/util/Collection")] 81

def k19c0 : Code := { maxStack := 1, maxLocals := 1, code := jdk_22_method_1_code, exceptionTable := #[], attributes := #[] }
def k19m0 : Method := { name := "<init>", desc := "()V", sig := { parameters := [], returnType := none }, accessFlags := 4, code := some k19c0 }
/-- java/util/AbstractCollection -/
def k19 : Class := { plain "java/util/AbstractCollection" (some 0) with
  accessFlags := 1057
  interfaces := #[14]
  cf := some (fileOf pool19 8 #[] #[{ accessFlags := 4, nameIndex := 5, descriptorIndex := 6, attributes := #[] }] 1057 2 #[77] #[])
  fields := #[]
  methods := #[k19m0]
  instanceTypes := #[]
  staticTypes := #[]
  resolved := Array.replicate 160 none
  statics := none }

def pool20 : Array CpInfo := pool [(1, .methodref 2 3), (0, .class_ 4), (0, .nameAndType 5 6), (0, u "java/util/AbstractCollection"), (0, u "<init>"), (0, u "()V"), (1, .class_ 10), (1, u "java/util/ImmutableCollections"), (2, .class_ 14), (0, u "java/util/ImmutableCollections$AbstractImmutableCollection")] 41

def k20c0 : Code := { maxStack := 1, maxLocals := 1, code := jdk_47_method_1_code, exceptionTable := #[], attributes := #[] }
def k20m0 : Method := { name := "<init>", desc := "()V", sig := { parameters := [], returnType := none }, accessFlags := 0, code := some k20c0 }
/-- java/util/ImmutableCollections$AbstractImmutableCollection -/
def k20 : Class := { plain "java/util/ImmutableCollections$AbstractImmutableCollection" (some 19) with
  accessFlags := 1056
  interfaces := #[]
  cf := some (fileOf pool20 13 #[.nestHost 8] #[{ accessFlags := 0, nameIndex := 5, descriptorIndex := 6, attributes := #[] }] 1056 2 #[] #[])
  fields := #[]
  methods := #[k20m0]
  instanceTypes := #[]
  staticTypes := #[]
  resolved := Array.replicate 56 none
  statics := none }

def pool21 : Array CpInfo := pool [(1, .class_ 2), (0, u "java/util/RandomAccess"), (0, .class_ 4), (0, u "java/lang/Object")] 2

/-- java/util/RandomAccess -/
def k21 : Class := { plain "java/util/RandomAccess" (some 0) with
  accessFlags := 1537
  interfaces := #[]
  cf := some (fileOf pool21 1 #[] #[] 1537 3 #[] #[])
  fields := #[]
  methods := #[]
  instanceTypes := #[]
  staticTypes := #[]
  resolved := Array.replicate 7 none
  statics := none }

def pool22 : Array CpInfo := pool [(1, .methodref 2 3), (0, .class_ 4), (0, .nameAndType 5 6), (0, u "java/util/ImmutableCollections$AbstractImmutableCollection"), (0, u "<init>"), (0, u "()V"), (1, .class_ 10), (1, u "java/util/ImmutableCollections"), (3, .class_ 16), (1, u "java/util/ImmutableCollections$AbstractImmutableList"), (60, .class_ 78), (0, u "java/util/List"), (45, .class_ 125), (0, u "java/util/RandomAccess")] 70

def k22c0 : Code := { maxStack := 1, maxLocals := 1, code := jdk_46_method_1_code, exceptionTable := #[], attributes := #[] }
def k22m0 : Method := { name := "<init>", desc := "()V", sig := { parameters := [], returnType := none }, accessFlags := 0, code := some k22c0 }
/-- java/util/ImmutableCollections$AbstractImmutableList -/
def k22 : Class := { plain "java/util/ImmutableCollections$AbstractImmutableList" (some 20) with
  accessFlags := 1056
  interfaces := #[16, 21]
  cf := some (fileOf pool22 14 #[.nestHost 8] #[{ accessFlags := 0, nameIndex := 5, descriptorIndex := 6, attributes := #[] }] 1056 2 #[77, 124] #[])
  fields := #[]
  methods := #[k22m0]
  instanceTypes := #[]
  staticTypes := #[]
  resolved := Array.replicate 196 none
  statics := none }

def pool23 : Array CpInfo := pool [(1, .methodref 2 3), (0, .class_ 4), (0, .nameAndType 5 6), (0, u "java/util/ImmutableCollections$AbstractImmutableList"), (0, u "<init>"), (0, u "()V"), (0, .fieldref 8 9), (0, .class_ 10), (0, .nameAndType 11 12), (0, u "java/util/ImmutableCollections$ListN"), (0, u "elements"), (0, u "[Ljava/lang/Object;"), (0, .fieldref 8 14), (0, .nameAndType 15 16), (0, u "allowNulls"), (0, u "Z"), (42, .class_ 60), (0, u "java/io/Serializable"), (4, u "([Ljava/lang/Object;Z)V"), (11, u "size"), (0, u "()I"), (0, u "get"), (0, u "(I)Ljava/lang/Object;"), (33, .class_ 115), (0, u "java/util/ImmutableCollections")] 3

def k23c0 : Code := { maxStack := 2, maxLocals := 3, code := jdk_45_method_1_code, exceptionTable := #[], attributes := #[] }
def k23m0 : Method := { name := "<init>", desc := "([Ljava/lang/Object;Z)V", sig := { parameters := [(.array (.object "java/lang/Object")), .boolean], returnType := none }, accessFlags := 2, code := some k23c0 }
def k23c1 : Code := { maxStack := 1, maxLocals := 1, code := jdk_45_method_3_code, exceptionTable := #[], attributes := #[] }
def k23m1 : Method := { name := "size", desc := "()I", sig := { parameters := [], returnType := some .int }, accessFlags := 1, code := some k23c1 }
def k23c2 : Code := { maxStack := 2, maxLocals := 2, code := jdk_45_method_4_code, exceptionTable := #[], attributes := #[] }
def k23m2 : Method := { name := "get", desc := "(I)Ljava/lang/Object;", sig := { parameters := [.int], returnType := some (.object "java/lang/Object") }, accessFlags := 1, code := some k23c2 }
/-- java/util/ImmutableCollections$ListN -/
def k23 : Class := { plain "java/util/ImmutableCollections$ListN" (some 22) with
  accessFlags := 48
  interfaces := #[2]
  cf := some (fileOf pool23 8 #[.nestHost 114] #[{ accessFlags := 2, nameIndex := 5, descriptorIndex := 65, attributes := #[] }, { accessFlags := 1, nameIndex := 77, descriptorIndex := 78, attributes := #[] }, { accessFlags := 1, nameIndex := 79, descriptorIndex := 80, attributes := #[] }] 48 2 #[59] #[{ accessFlags := 18, nameIndex := 11, descriptorIndex := 12, attributes := #[] }, { accessFlags := 18, nameIndex := 15, descriptorIndex := 16, attributes := #[] }])
  fields := #[{ name := "elements", type := (.array (.object "java/lang/Object")), accessFlags := 18, slot := 0, constantValue := 0 }, { name := "allowNulls", type := .boolean, accessFlags := 18, slot := 1, constantValue := 0 }]
  methods := #[k23m0, k23m1, k23m2]
  instanceTypes := #[(.array (.object "java/lang/Object")), .boolean]
  staticTypes := #[]
  resolved := Array.replicate 119 none
  statics := none }

def pool24 : Array CpInfo := pool [(4, .class_ 6), (1, u "java/lang/Object"), (0, u "<init>"), (0, u "()V"), (5, .class_ 16), (1, u "java/lang/StringLatin1"), (104, u "$assertionsDisabled"), (0, u "Z"), (98, .class_ 223), (1, u "java/lang/StringLatin1$LinesSpliterator"), (166, .class_ 391), (0, u "java/lang/StringLatin1$CharsSpliterator")] 3

def k24m0 : Method := { name := "<init>", desc := "()V", sig := { parameters := [], returnType := none }, accessFlags := 0, code := none }
/-- java/lang/StringLatin1 -/
def k24 : Class := { plain "java/lang/StringLatin1" (some 0) with
  accessFlags := 48
  interfaces := #[]
  cf := some (fileOf pool24 14 #[.nestMembers #[390, 221]] #[{ accessFlags := 0, nameIndex := 7, descriptorIndex := 8, attributes := #[] }] 48 4 #[] #[{ accessFlags := 4120, nameIndex := 121, descriptorIndex := 122, attributes := #[] }])
  fields := #[{ name := "$assertionsDisabled", type := .boolean, accessFlags := 4120, slot := 0, constantValue := 0 }]
  methods := #[k24m0]
  instanceTypes := #[]
  staticTypes := #[.boolean]
  resolved := Array.replicate 395 none
  statics := none }

def pool25 : Array CpInfo := pool [(2, .class_ 4), (1, u "java/lang/Object"), (0, u "<init>"), (0, u "()V"), (17, .class_ 26), (1, u "jdk/internal/util/Preconditions"), (28, .class_ 56), (0, u "jdk/internal/util/Preconditions$4"), (57, .class_ 115), (0, u "jdk/internal/util/Preconditions$1"), (7, u "SIOOBE_FORMATTER"), (0, u "Ljava/util/function/BiFunction;"), (0, .class_ 126), (0, u "jdk/internal/util/Preconditions$2"), (3, u "AIOOBE_FORMATTER"), (0, .class_ 132), (0, u "jdk/internal/util/Preconditions$3"), (3, u "IOOBE_FORMATTER")] 57

def k25m0 : Method := { name := "<init>", desc := "()V", sig := { parameters := [], returnType := none }, accessFlags := 1, code := none }
/-- jdk/internal/util/Preconditions -/
def k25 : Class := { plain "jdk/internal/util/Preconditions" (some 0) with
  accessFlags := 33
  interfaces := #[]
  cf := some (fileOf pool25 24 #[.nestMembers #[55, 131, 125, 114]] #[{ accessFlags := 1, nameIndex := 5, descriptorIndex := 6, attributes := #[] }] 33 2 #[] #[{ accessFlags := 25, nameIndex := 123, descriptorIndex := 124, attributes := #[] }, { accessFlags := 25, nameIndex := 130, descriptorIndex := 124, attributes := #[] }, { accessFlags := 25, nameIndex := 136, descriptorIndex := 124, attributes := #[] }])
  fields := #[{ name := "SIOOBE_FORMATTER", type := (.object "java/util/function/BiFunction"), accessFlags := 25, slot := 0, constantValue := 0 }, { name := "AIOOBE_FORMATTER", type := (.object "java/util/function/BiFunction"), accessFlags := 25, slot := 1, constantValue := 0 }, { name := "IOOBE_FORMATTER", type := (.object "java/util/function/BiFunction"), accessFlags := 25, slot := 2, constantValue := 0 }]
  methods := #[k25m0]
  instanceTypes := #[]
  staticTypes := #[(.object "java/util/function/BiFunction"), (.object "java/util/function/BiFunction"), (.object "java/util/function/BiFunction")]
  resolved := Array.replicate 194 none
  statics := some 1 }

def pool26 : Array CpInfo := pool [(9, u "<init>"), (6, .class_ 18), (1, u "java/lang/Object"), (0, u "()V"), (1, .class_ 23), (1, u "jdk/internal/util/ArraysSupport"), (0, u "LOG2_ARRAY_LONG_INDEX_SCALE"), (0, u "I"), (2, u "U"), (0, u "Ljdk/internal/misc/Unsafe;"), (8, u "BIG_ENDIAN"), (0, u "Z"), (8, u "LOG2_BYTE_BIT_SIZE"), (4, u "LOG2_ARRAY_INT_INDEX_SCALE"), (54, u "JLA"), (0, u "Ljdk/internal/access/JavaLangAccess;"), (11, u "LOG2_ARRAY_BOOLEAN_INDEX_SCALE"), (9, u "LOG2_ARRAY_BYTE_INDEX_SCALE"), (5, u "LOG2_ARRAY_CHAR_INDEX_SCALE"), (5, u "LOG2_ARRAY_SHORT_INDEX_SCALE"), (18, u "LOG2_ARRAY_FLOAT_INDEX_SCALE"), (24, u "LOG2_ARRAY_DOUBLE_INDEX_SCALE"), (89, u "T_BOOLEAN"), (2, u "T_CHAR"), (1, u "T_FLOAT"), (1, u "T_DOUBLE"), (1, u "T_BYTE"), (1, u "T_SHORT"), (1, u "T_INT"), (1, u "T_LONG"), (1, u "SOFT_MAX_ARRAY_LENGTH")] 83

def k26m0 : Method := { name := "<init>", desc := "()V", sig := { parameters := [], returnType := none }, accessFlags := 2, code := none }
/-- jdk/internal/util/ArraysSupport -/
def k26 : Class := { plain "jdk/internal/util/ArraysSupport" (some 0) with
  accessFlags := 33
  interfaces := #[]
  cf := some (fileOf pool26 21 #[] #[{ accessFlags := 2, nameIndex := 9, descriptorIndex := 19, attributes := #[] }] 33 16 #[] #[{ accessFlags := 24, nameIndex := 28, descriptorIndex := 29, attributes := #[] }, { accessFlags := 26, nameIndex := 38, descriptorIndex := 39, attributes := #[] }, { accessFlags := 25, nameIndex := 121, descriptorIndex := 25, attributes := #[] }, { accessFlags := 25, nameIndex := 131, descriptorIndex := 25, attributes := #[] }, { accessFlags := 25, nameIndex := 137, descriptorIndex := 25, attributes := #[] }, { accessFlags := 25, nameIndex := 143, descriptorIndex := 25, attributes := #[] }, { accessFlags := 25, nameIndex := 53, descriptorIndex := 25, attributes := #[] }, { accessFlags := 25, nameIndex := 24, descriptorIndex := 25, attributes := #[] }, { accessFlags := 25, nameIndex := 162, descriptorIndex := 25, attributes := #[] }, { accessFlags := 25, nameIndex := 187, descriptorIndex := 25, attributes := #[] }, { accessFlags := 26, nameIndex := 48, descriptorIndex := 25, attributes := #[] }, { accessFlags := 25, nameIndex := 277, descriptorIndex := 25, attributes := #[] }, { accessFlags := 25, nameIndex := 280, descriptorIndex := 25, attributes := #[] }, { accessFlags := 25, nameIndex := 282, descriptorIndex := 25, attributes := #[] }, { accessFlags := 25, nameIndex := 284, descriptorIndex := 25, attributes := #[] }, { accessFlags := 25, nameIndex := 286, descriptorIndex := 25, attributes := #[] }, { accessFlags := 25, nameIndex := 288, descriptorIndex := 25, attributes := #[] }, { accessFlags := 25, nameIndex := 290, descriptorIndex := 25, attributes := #[] }, { accessFlags := 25, nameIndex := 292, descriptorIndex := 25, attributes := #[] }, { accessFlags := 26, nameIndex := 108, descriptorIndex := 109, attributes := #[] }, { accessFlags := 25, nameIndex := 294, descriptorIndex := 25, attributes := #[] }])
  fields := #[{ name := "U", type := (.object "jdk/internal/misc/Unsafe"), accessFlags := 24, slot := 0, constantValue := 0 }, { name := "BIG_ENDIAN", type := .boolean, accessFlags := 26, slot := 1, constantValue := 0 }, { name := "LOG2_ARRAY_BOOLEAN_INDEX_SCALE", type := .int, accessFlags := 25, slot := 2, constantValue := 0 }, { name := "LOG2_ARRAY_BYTE_INDEX_SCALE", type := .int, accessFlags := 25, slot := 3, constantValue := 0 }, { name := "LOG2_ARRAY_CHAR_INDEX_SCALE", type := .int, accessFlags := 25, slot := 4, constantValue := 0 }, { name := "LOG2_ARRAY_SHORT_INDEX_SCALE", type := .int, accessFlags := 25, slot := 5, constantValue := 0 }, { name := "LOG2_ARRAY_INT_INDEX_SCALE", type := .int, accessFlags := 25, slot := 6, constantValue := 0 }, { name := "LOG2_ARRAY_LONG_INDEX_SCALE", type := .int, accessFlags := 25, slot := 7, constantValue := 0 }, { name := "LOG2_ARRAY_FLOAT_INDEX_SCALE", type := .int, accessFlags := 25, slot := 8, constantValue := 0 }, { name := "LOG2_ARRAY_DOUBLE_INDEX_SCALE", type := .int, accessFlags := 25, slot := 9, constantValue := 0 }, { name := "LOG2_BYTE_BIT_SIZE", type := .int, accessFlags := 26, slot := 10, constantValue := 0 }, { name := "T_BOOLEAN", type := .int, accessFlags := 25, slot := 11, constantValue := 0 }, { name := "T_CHAR", type := .int, accessFlags := 25, slot := 12, constantValue := 0 }, { name := "T_FLOAT", type := .int, accessFlags := 25, slot := 13, constantValue := 0 }, { name := "T_DOUBLE", type := .int, accessFlags := 25, slot := 14, constantValue := 0 }, { name := "T_BYTE", type := .int, accessFlags := 25, slot := 15, constantValue := 0 }, { name := "T_SHORT", type := .int, accessFlags := 25, slot := 16, constantValue := 0 }, { name := "T_INT", type := .int, accessFlags := 25, slot := 17, constantValue := 0 }, { name := "T_LONG", type := .int, accessFlags := 25, slot := 18, constantValue := 0 }, { name := "JLA", type := (.object "jdk/internal/access/JavaLangAccess"), accessFlags := 26, slot := 19, constantValue := 0 }, { name := "SOFT_MAX_ARRAY_LENGTH", type := .int, accessFlags := 25, slot := 20, constantValue := 0 }]
  methods := #[k26m0]
  instanceTypes := #[]
  staticTypes := #[(.object "jdk/internal/misc/Unsafe"), .boolean, .int, .int, .int, .int, .int, .int, .int, .int, .int, .int, .int, .int, .int, .int, .int, .int, .int, (.object "jdk/internal/access/JavaLangAccess"), .int]
  resolved := Array.replicate 378 none
  statics := none }

def pool27 : Array CpInfo := pool [(1, u "java/lang/Cloneable"), (0, .class_ 1), (0, u "java/lang/Object"), (0, .class_ 3)] 3

/-- java/lang/Cloneable -/
def k27 : Class := { plain "java/lang/Cloneable" (some 0) with
  accessFlags := 1537
  interfaces := #[]
  cf := some (fileOf pool27 2 #[] #[] 1537 4 #[] #[])
  fields := #[]
  methods := #[]
  instanceTypes := #[]
  staticTypes := #[]
  resolved := Array.replicate 8 none
  statics := none }

/-- the primitive byte -/
def k28 : Class := { plain "byte" none with kind := .primitive 'B', accessFlags := 0x411 }
/-- [B -/
def k29 : Class := { plain "[B" (some 0) with kind := .array 28 .byte, interfaces := #[27, 2], accessFlags := 1041 }

/-- the primitive char -/
def k30 : Class := { plain "char" none with kind := .primitive 'C', accessFlags := 0x411 }
/-- [C -/
def k31 : Class := { plain "[C" (some 0) with kind := .array 30 .char, interfaces := #[27, 2], accessFlags := 1041 }

/-- the primitive int -/
def k32 : Class := { plain "int" none with kind := .primitive 'I', accessFlags := 0x411 }
/-- [I -/
def k33 : Class := { plain "[I" (some 0) with kind := .array 32 .int, interfaces := #[27, 2], accessFlags := 1041 }

/-- [Ljava/lang/Object; -/
def k34 : Class := { plain "[Ljava/lang/Object;" (some 0) with kind := .array 0 (.object "java/lang/Object"), interfaces := #[27, 2], accessFlags := 1041 }

/-- [Ljava/lang/String; -/
def k35 : Class := { plain "[Ljava/lang/String;" (some 0) with kind := .array 7 (.object "java/lang/String"), interfaces := #[27, 2], accessFlags := 1041 }

def heap : Heap := #[{ cls := 7, slots := #[.long 0, .int 1, .null, .int 0, .null, .int 0, .int 0], vm := .statics 7 },
  { cls := 25, slots := #[.null, .null, .null], vm := .statics 25 }]
def classes : Array Class := #[k0, k1, k2, k3, k4, k5, k6, k7, k8, k9, k10, k11, k12, k13, k14, k15, k16, k17, k18, k19, k20, k21, k22, k23, k24, k25, k26, k27, k28, k29, k30, k31, k32, k33, k34, k35]
def interned : List (Array UInt16 × Addr) := []
def slotsUsed : Nat := 10
def theMethod : MethodId := ⟨1, 1⟩
def args0 : Array Value := #[.long 5, .long 5, .long 5]
def aboutOver (below : List Frame) : State where
  vm := { classes := classes, interned := interned.toArray }
  heap := heap
  slotsUsed := slotsUsed
  threads := #[{ frames := .invoking theMethod args0 :: below }]
def below0 : List Frame := [.native { method := ⟨0, 0⟩, args := #[] }]
def about1 : State := aboutOver below0
def p0 : Program := .bare "" "" ""
def e0 : Env := launch0.env 0 0 0
theorem w_frames : about1.frames = Frame.invoking theMethod args0 :: below0 := rfl
set_option maxRecDepth 65536 in
theorem w_args : argsFit about1.vm theMethod args0 = true := by decide +kernel
set_option maxRecDepth 65536 in
theorem w_heap : heapFits about1 = true := by decide +kernel
set_option maxRecDepth 65536 in
theorem w_runnable : about1.curStatus? = some .runnable := by decide +kernel
set_option maxRecDepth 65536 in
theorem w_alone : about1.alone = true := by decide +kernel
set_option maxRecDepth 65536 in
theorem w_named : about1.methodNamed? x = some theMethod := by decide +kernel
set_option maxRecDepth 65536 in
theorem w_hears : about1.hears theMethod below0 = true := by decide +kernel
set_option maxRecDepth 65536 in
theorem w_ripe : about1.ripe theMethod args0 below0 = true := by decide +kernel
theorem w_running : about1.status = .running := rfl
set_option maxRecDepth 65536 in
theorem w_room : about1.hasRoom e0.platform room_1 = true :=
  launch0.hasRoom_least _ room_1 (by decide +kernel) (by decide +kernel) (by decide +kernel) (by decide +kernel) (by decide +kernel) (by decide +kernel)
theorem allAtoms_all (ts : List Jvm.Cond) (a : Array Jvm.Value) (st : Jvm.State) : (allAtoms ts).before a st = ts.all (fun c => c.before a st) := by
  induction ts with
  | nil => rfl
  | cons c t ih =>
    show (Jvm.Cond.and c (allAtoms t)).before a st = _
    rw [Jvm.Cond.before_and, ih, List.all_cons]
def words1 : List Jvm.Cond := Jvm.Cond.code x code maxLocals ret :: tables_1
/-- a 'code' word, met by the world's own term for the bytes: nothing is compared byte by byte -/
theorem code_word {y : MethodName} {bytes : ByteArray} {mx : Nat} {rt : Option FieldType} {a : Array Value} {s : State} {m : MethodId} {meth : Method} {c : Code} (h1 : s.methodNamed? y = some m) (h2 : s.vm.method? m = some meth) (h3 : meth.code = some c) (h4 : c.code = bytes)
    (h5 : (c.maxLocals == mx && c.exceptionTable.isEmpty && decide (c.maxStack ≤ mostOperands) && decide (meth.sig.returnType = rt) && !meth.locks && decide (parseMethodDescriptor y.desc = some meth.sig)) = true) : (Jvm.Cond.code y bytes mx rt).before a s = true := by
  simp only [Bool.and_eq_true, beq_iff_eq, Bool.not_eq_true', decide_eq_true_eq] at h5
  obtain ⟨⟨⟨⟨⟨g1, g2⟩, g3⟩, g4⟩, g5⟩, g6⟩ := h5
  simp [Cond.before, Cond.holds, Cond.value, h1, h2, h3, h4, g1, g2, g3, g4, g5, g6]
def isCode : Jvm.Cond → Bool
  | .code _ _ _ _ => true
  | _ => false
theorem all_split {L : List Jvm.Cond} {P : Jvm.Cond → Bool} (h1 : L.all (fun c => isCode c || P c) = true) (h2 : ∀ c ∈ L.filter isCode, P c = true) : L.all P = true := by
  refine List.all_eq_true.mpr fun c hc => ?_
  have h := List.all_eq_true.mp h1 c hc
  rcases Bool.eq_false_or_eq_true (isCode c) with hi | hi
  · exact h2 c (List.mem_filter.mpr ⟨hc, hi⟩)
  · simpa [hi] using h
set_option maxRecDepth 65536 in
theorem w_c0 : (Jvm.Cond.code x code maxLocals ret).before args0 about1 = true := code_word (m := ⟨1, 1⟩) (meth := k1m1) (c := k1c1) (by decide +kernel) rfl rfl rfl (by decide +kernel)
set_option maxRecDepth 65536 in
theorem w_c1 : (Jvm.Cond.code ({ cls := "com/example/pledgewire/pledgewire/HoldingCellsPinLaw", name := "s", desc := "(JI)Ljava/lang/String;" } : Jvm.MethodName) method_3_code (4 : Nat) (Option.some (Jvm.ClassFile.FieldType.object "java/lang/String"))).before args0 about1 = true := code_word (m := ⟨1, 2⟩) (meth := k1m2) (c := k1c2) (by decide +kernel) rfl rfl rfl (by decide +kernel)
set_option maxRecDepth 65536 in
theorem w_c2 : (Jvm.Cond.code ({ cls := "java/lang/String", name := "<init>", desc := "([C)V" } : Jvm.MethodName) jdk_42_method_3_code (2 : Nat) (Option.none : Option Jvm.ClassFile.FieldType)).before args0 about1 = true := code_word (m := ⟨7, 1⟩) (meth := k7m1) (c := k7c1) (by decide +kernel) rfl rfl rfl (by decide +kernel)
set_option maxRecDepth 65536 in
theorem w_c3 : (Jvm.Cond.code ({ cls := "java/lang/String", name := "<init>", desc := "([CIILjava/lang/Void;)V" } : Jvm.MethodName) jdk_42_method_149_code (6 : Nat) (Option.none : Option Jvm.ClassFile.FieldType)).before args0 about1 = true := code_word (m := ⟨7, 3⟩) (meth := k7m3) (c := k7c3) (by decide +kernel) rfl rfl rfl (by decide +kernel)
set_option maxRecDepth 65536 in
theorem w_c4 : (Jvm.Cond.code ({ cls := "java/lang/Object", name := "<init>", desc := "()V" } : Jvm.MethodName) object_method_1_code (1 : Nat) (Option.none : Option Jvm.ClassFile.FieldType)).before args0 about1 = true := code_word (m := ⟨0, 0⟩) (meth := k0m0) (c := k0c0) (by decide +kernel) rfl rfl rfl (by decide +kernel)
set_option maxRecDepth 65536 in
theorem w_c5 : (Jvm.Cond.code ({ cls := "java/lang/StringUTF16", name := "compress", desc := "([CII)[B" } : Jvm.MethodName) jdk_52_method_16_code (6 : Nat) (Option.some (Jvm.ClassFile.FieldType.array Jvm.ClassFile.FieldType.byte))).before args0 about1 = true := code_word (m := ⟨8, 2⟩) (meth := k8m2) (c := k8c2) (by decide +kernel) rfl rfl rfl (by decide +kernel)
set_option maxRecDepth 65536 in
theorem w_c6 : (Jvm.Cond.code ({ cls := "java/lang/StringUTF16", name := "compress", desc := "([CI[BII)I" } : Jvm.MethodName) jdk_52_method_21_code (7 : Nat) (Option.some Jvm.ClassFile.FieldType.int)).before args0 about1 = true := code_word (m := ⟨8, 3⟩) (meth := k8m3) (c := k8c3) (by decide +kernel) rfl rfl rfl (by decide +kernel)
set_option maxRecDepth 65536 in
theorem w_c7 : (Jvm.Cond.code ({ cls := "java/lang/StringUTF16", name := "coderFromArrayLen", desc := "([BI)B" } : Jvm.MethodName) jdk_52_method_15_code (2 : Nat) (Option.some Jvm.ClassFile.FieldType.byte)).before args0 about1 = true := code_word (m := ⟨8, 1⟩) (meth := k8m1) (c := k8c1) (by decide +kernel) rfl rfl rfl (by decide +kernel)
set_option maxRecDepth 65536 in
theorem w_c8 : (Jvm.Cond.code ({ cls := "com/example/pledgewire/pledgewire/Reference$AssetAccount", name := "<init>", desc := "(Ljava/lang/String;Ljava/lang/String;Ljava/lang/String;Ljava/lang/String;Ljava/lang/String;)V" } : Jvm.MethodName) prog_55_method_1_code (6 : Nat) (Option.none : Option Jvm.ClassFile.FieldType)).before args0 about1 = true := code_word (m := ⟨11, 0⟩) (meth := k11m0) (c := k11c0) (by decide +kernel) rfl rfl rfl (by decide +kernel)
set_option maxRecDepth 65536 in
theorem w_c9 : (Jvm.Cond.code ({ cls := "java/lang/Record", name := "<init>", desc := "()V" } : Jvm.MethodName) jdk_30_method_1_code (1 : Nat) (Option.none : Option Jvm.ClassFile.FieldType)).before args0 about1 = true := code_word (m := ⟨9, 0⟩) (meth := k9m0) (c := k9c0) (by decide +kernel) rfl rfl rfl (by decide +kernel)
set_option maxRecDepth 65536 in
theorem w_c10 : (Jvm.Cond.code ({ cls := "com/example/pledgewire/pledgewire/AssetKind", name := "<init>", desc := "(Ljava/lang/String;Ljava/lang/String;)V" } : Jvm.MethodName) prog_3_method_1_code (3 : Nat) (Option.none : Option Jvm.ClassFile.FieldType)).before args0 about1 = true := code_word (m := ⟨12, 0⟩) (meth := k12m0) (c := k12c0) (by decide +kernel) rfl rfl rfl (by decide +kernel)
set_option maxRecDepth 65536 in
theorem w_c11 : (Jvm.Cond.code ({ cls := "com/example/pledgewire/pledgewire/Holding", name := "<init>", desc := "(Lcom/example/pledgewire/pledgewire/Reference$AssetAccount;Lcom/example/pledgewire/pledgewire/AssetKind;Ljava/lang/String;Ljava/lang/String;Ljava/lang/String;Ljava/lang/String;)V" } : Jvm.MethodName) prog_33_method_1_code (7 : Nat) (Option.none : Option Jvm.ClassFile.FieldType)).before args0 about1 = true := code_word (m := ⟨10, 0⟩) (meth := k10m0) (c := k10c0) (by decide +kernel) rfl rfl rfl (by decide +kernel)
set_option maxRecDepth 65536 in
theorem w_c12 : (Jvm.Cond.code ({ cls := "com/example/pledgewire/pledgewire/Holding", name := "cells", desc := "()Ljava/util/List;" } : Jvm.MethodName) prog_33_method_5_code (1 : Nat) (Option.some (Jvm.ClassFile.FieldType.object "java/util/List"))).before args0 about1 = true := code_word (m := ⟨10, 1⟩) (meth := k10m1) (c := k10c1) (by decide +kernel) rfl rfl rfl (by decide +kernel)
set_option maxRecDepth 65536 in
theorem w_c13 : (Jvm.Cond.code ({ cls := "com/example/pledgewire/pledgewire/Reference$AssetAccount", name := "cmf", desc := "()Ljava/lang/String;" } : Jvm.MethodName) prog_55_method_5_code (1 : Nat) (Option.some (Jvm.ClassFile.FieldType.object "java/lang/String"))).before args0 about1 = true := code_word (m := ⟨11, 1⟩) (meth := k11m1) (c := k11c1) (by decide +kernel) rfl rfl rfl (by decide +kernel)
set_option maxRecDepth 65536 in
theorem w_c14 : (Jvm.Cond.code ({ cls := "com/example/pledgewire/pledgewire/Reference$AssetAccount", name := "aa", desc := "()Ljava/lang/String;" } : Jvm.MethodName) prog_55_method_6_code (1 : Nat) (Option.some (Jvm.ClassFile.FieldType.object "java/lang/String"))).before args0 about1 = true := code_word (m := ⟨11, 2⟩) (meth := k11m2) (c := k11c2) (by decide +kernel) rfl rfl rfl (by decide +kernel)
set_option maxRecDepth 65536 in
theorem w_c15 : (Jvm.Cond.code ({ cls := "com/example/pledgewire/pledgewire/Reference$AssetAccount", name := "fseg", desc := "()Ljava/lang/String;" } : Jvm.MethodName) prog_55_method_7_code (1 : Nat) (Option.some (Jvm.ClassFile.FieldType.object "java/lang/String"))).before args0 about1 = true := code_word (m := ⟨11, 3⟩) (meth := k11m3) (c := k11c3) (by decide +kernel) rfl rfl rfl (by decide +kernel)
set_option maxRecDepth 65536 in
theorem w_c16 : (Jvm.Cond.code ({ cls := "com/example/pledgewire/pledgewire/Reference$AssetAccount", name := "acctType", desc := "()Ljava/lang/String;" } : Jvm.MethodName) prog_55_method_8_code (1 : Nat) (Option.some (Jvm.ClassFile.FieldType.object "java/lang/String"))).before args0 about1 = true := code_word (m := ⟨11, 4⟩) (meth := k11m4) (c := k11c4) (by decide +kernel) rfl rfl rfl (by decide +kernel)
set_option maxRecDepth 65536 in
theorem w_c17 : (Jvm.Cond.code ({ cls := "com/example/pledgewire/pledgewire/Reference$AssetAccount", name := "busFunc", desc := "()Ljava/lang/String;" } : Jvm.MethodName) prog_55_method_9_code (1 : Nat) (Option.some (Jvm.ClassFile.FieldType.object "java/lang/String"))).before args0 about1 = true := code_word (m := ⟨11, 5⟩) (meth := k11m5) (c := k11c5) (by decide +kernel) rfl rfl rfl (by decide +kernel)
set_option maxRecDepth 65536 in
theorem w_c18 : (Jvm.Cond.code ({ cls := "com/example/pledgewire/pledgewire/AssetKind", name := "type", desc := "()Ljava/lang/String;" } : Jvm.MethodName) prog_3_method_8_code (1 : Nat) (Option.some (Jvm.ClassFile.FieldType.object "java/lang/String"))).before args0 about1 = true := code_word (m := ⟨12, 1⟩) (meth := k12m1) (c := k12c1) (by decide +kernel) rfl rfl rfl (by decide +kernel)
set_option maxRecDepth 65536 in
theorem w_c19 : (Jvm.Cond.code ({ cls := "com/example/pledgewire/pledgewire/AssetKind", name := "ccy", desc := "()Ljava/lang/String;" } : Jvm.MethodName) prog_3_method_9_code (1 : Nat) (Option.some (Jvm.ClassFile.FieldType.object "java/lang/String"))).before args0 about1 = true := code_word (m := ⟨12, 2⟩) (meth := k12m2) (c := k12c2) (by decide +kernel) rfl rfl rfl (by decide +kernel)
set_option maxRecDepth 65536 in
theorem w_c20 : (Jvm.Cond.code ({ cls := "java/util/List", name := "of", desc := "([Ljava/lang/Object;)Ljava/util/List;" } : Jvm.MethodName) jdk_40_method_47_code (2 : Nat) (Option.some (Jvm.ClassFile.FieldType.object "java/util/List"))).before args0 about1 = true := code_word (m := ⟨16, 2⟩) (meth := k16m2) (c := k16c2) (by decide +kernel) rfl rfl rfl (by decide +kernel)
set_option maxRecDepth 65536 in
theorem w_c21 : (Jvm.Cond.code ({ cls := "java/util/ImmutableCollections", name := "listFromArray", desc := "([Ljava/lang/Object;)Ljava/util/List;" } : Jvm.MethodName) jdk_56_method_4_code (3 : Nat) (Option.some (Jvm.ClassFile.FieldType.object "java/util/List"))).before args0 about1 = true := code_word (m := ⟨17, 1⟩) (meth := k17m1) (c := k17c1) (by decide +kernel) rfl rfl rfl (by decide +kernel)
set_option maxRecDepth 65536 in
theorem w_c22 : (Jvm.Cond.code ({ cls := "java/util/Objects", name := "requireNonNull", desc := "(Ljava/lang/Object;)Ljava/lang/Object;" } : Jvm.MethodName) jdk_31_method_10_code (1 : Nat) (Option.some (Jvm.ClassFile.FieldType.object "java/lang/Object"))).before args0 about1 = true := code_word (m := ⟨18, 1⟩) (meth := k18m1) (c := k18c1) (by decide +kernel) rfl rfl rfl (by decide +kernel)
set_option maxRecDepth 65536 in
theorem w_c23 : (Jvm.Cond.code ({ cls := "java/util/ImmutableCollections$ListN", name := "<init>", desc := "([Ljava/lang/Object;Z)V" } : Jvm.MethodName) jdk_45_method_1_code (3 : Nat) (Option.none : Option Jvm.ClassFile.FieldType)).before args0 about1 = true := code_word (m := ⟨23, 0⟩) (meth := k23m0) (c := k23c0) (by decide +kernel) rfl rfl rfl (by decide +kernel)
set_option maxRecDepth 65536 in
theorem w_c24 : (Jvm.Cond.code ({ cls := "java/util/ImmutableCollections$AbstractImmutableList", name := "<init>", desc := "()V" } : Jvm.MethodName) jdk_46_method_1_code (1 : Nat) (Option.none : Option Jvm.ClassFile.FieldType)).before args0 about1 = true := code_word (m := ⟨22, 0⟩) (meth := k22m0) (c := k22c0) (by decide +kernel) rfl rfl rfl (by decide +kernel)
set_option maxRecDepth 65536 in
theorem w_c25 : (Jvm.Cond.code ({ cls := "java/util/ImmutableCollections$AbstractImmutableCollection", name := "<init>", desc := "()V" } : Jvm.MethodName) jdk_47_method_1_code (1 : Nat) (Option.none : Option Jvm.ClassFile.FieldType)).before args0 about1 = true := code_word (m := ⟨20, 0⟩) (meth := k20m0) (c := k20c0) (by decide +kernel) rfl rfl rfl (by decide +kernel)
set_option maxRecDepth 65536 in
theorem w_c26 : (Jvm.Cond.code ({ cls := "java/util/AbstractCollection", name := "<init>", desc := "()V" } : Jvm.MethodName) jdk_22_method_1_code (1 : Nat) (Option.none : Option Jvm.ClassFile.FieldType)).before args0 about1 = true := code_word (m := ⟨19, 0⟩) (meth := k19m0) (c := k19c0) (by decide +kernel) rfl rfl rfl (by decide +kernel)
set_option maxRecDepth 65536 in
theorem w_c27 : (Jvm.Cond.code ({ cls := "java/util/ImmutableCollections$ListN", name := "size", desc := "()I" } : Jvm.MethodName) jdk_45_method_3_code (1 : Nat) (Option.some Jvm.ClassFile.FieldType.int)).before args0 about1 = true := code_word (m := ⟨23, 1⟩) (meth := k23m1) (c := k23c1) (by decide +kernel) rfl rfl rfl (by decide +kernel)
set_option maxRecDepth 65536 in
theorem w_c28 : (Jvm.Cond.code ({ cls := "java/util/ImmutableCollections$ListN", name := "get", desc := "(I)Ljava/lang/Object;" } : Jvm.MethodName) jdk_45_method_4_code (2 : Nat) (Option.some (Jvm.ClassFile.FieldType.object "java/lang/Object"))).before args0 about1 = true := code_word (m := ⟨23, 2⟩) (meth := k23m2) (c := k23c2) (by decide +kernel) rfl rfl rfl (by decide +kernel)
set_option maxRecDepth 65536 in
theorem w_c29 : (Jvm.Cond.code ({ cls := "java/lang/String", name := "equals", desc := "(Ljava/lang/Object;)Z" } : Jvm.MethodName) jdk_42_method_66_code (3 : Nat) (Option.some Jvm.ClassFile.FieldType.boolean)).before args0 about1 = true := code_word (m := ⟨7, 2⟩) (meth := k7m2) (c := k7c2) (by decide +kernel) rfl rfl rfl (by decide +kernel)
def codes1 : List Jvm.Cond := [Jvm.Cond.code x code maxLocals ret, Jvm.Cond.code ({ cls := "com/example/pledgewire/pledgewire/HoldingCellsPinLaw", name := "s", desc := "(JI)Ljava/lang/String;" } : Jvm.MethodName) method_3_code (4 : Nat) (Option.some (Jvm.ClassFile.FieldType.object "java/lang/String")), Jvm.Cond.code ({ cls := "java/lang/String", name := "<init>", desc := "([C)V" } : Jvm.MethodName) jdk_42_method_3_code (2 : Nat) (Option.none : Option Jvm.ClassFile.FieldType), Jvm.Cond.code ({ cls := "java/lang/String", name := "<init>", desc := "([CIILjava/lang/Void;)V" } : Jvm.MethodName) jdk_42_method_149_code (6 : Nat) (Option.none : Option Jvm.ClassFile.FieldType), Jvm.Cond.code ({ cls := "java/lang/Object", name := "<init>", desc := "()V" } : Jvm.MethodName) object_method_1_code (1 : Nat) (Option.none : Option Jvm.ClassFile.FieldType), Jvm.Cond.code ({ cls := "java/lang/StringUTF16", name := "compress", desc := "([CII)[B" } : Jvm.MethodName) jdk_52_method_16_code (6 : Nat) (Option.some (Jvm.ClassFile.FieldType.array Jvm.ClassFile.FieldType.byte)), Jvm.Cond.code ({ cls := "java/lang/StringUTF16", name := "compress", desc := "([CI[BII)I" } : Jvm.MethodName) jdk_52_method_21_code (7 : Nat) (Option.some Jvm.ClassFile.FieldType.int), Jvm.Cond.code ({ cls := "java/lang/StringUTF16", name := "coderFromArrayLen", desc := "([BI)B" } : Jvm.MethodName) jdk_52_method_15_code (2 : Nat) (Option.some Jvm.ClassFile.FieldType.byte), Jvm.Cond.code ({ cls := "com/example/pledgewire/pledgewire/Reference$AssetAccount", name := "<init>", desc := "(Ljava/lang/String;Ljava/lang/String;Ljava/lang/String;Ljava/lang/String;Ljava/lang/String;)V" } : Jvm.MethodName) prog_55_method_1_code (6 : Nat) (Option.none : Option Jvm.ClassFile.FieldType), Jvm.Cond.code ({ cls := "java/lang/Record", name := "<init>", desc := "()V" } : Jvm.MethodName) jdk_30_method_1_code (1 : Nat) (Option.none : Option Jvm.ClassFile.FieldType), Jvm.Cond.code ({ cls := "com/example/pledgewire/pledgewire/AssetKind", name := "<init>", desc := "(Ljava/lang/String;Ljava/lang/String;)V" } : Jvm.MethodName) prog_3_method_1_code (3 : Nat) (Option.none : Option Jvm.ClassFile.FieldType), Jvm.Cond.code ({ cls := "com/example/pledgewire/pledgewire/Holding", name := "<init>", desc := "(Lcom/example/pledgewire/pledgewire/Reference$AssetAccount;Lcom/example/pledgewire/pledgewire/AssetKind;Ljava/lang/String;Ljava/lang/String;Ljava/lang/String;Ljava/lang/String;)V" } : Jvm.MethodName) prog_33_method_1_code (7 : Nat) (Option.none : Option Jvm.ClassFile.FieldType), Jvm.Cond.code ({ cls := "com/example/pledgewire/pledgewire/Holding", name := "cells", desc := "()Ljava/util/List;" } : Jvm.MethodName) prog_33_method_5_code (1 : Nat) (Option.some (Jvm.ClassFile.FieldType.object "java/util/List")), Jvm.Cond.code ({ cls := "com/example/pledgewire/pledgewire/Reference$AssetAccount", name := "cmf", desc := "()Ljava/lang/String;" } : Jvm.MethodName) prog_55_method_5_code (1 : Nat) (Option.some (Jvm.ClassFile.FieldType.object "java/lang/String")), Jvm.Cond.code ({ cls := "com/example/pledgewire/pledgewire/Reference$AssetAccount", name := "aa", desc := "()Ljava/lang/String;" } : Jvm.MethodName) prog_55_method_6_code (1 : Nat) (Option.some (Jvm.ClassFile.FieldType.object "java/lang/String")), Jvm.Cond.code ({ cls := "com/example/pledgewire/pledgewire/Reference$AssetAccount", name := "fseg", desc := "()Ljava/lang/String;" } : Jvm.MethodName) prog_55_method_7_code (1 : Nat) (Option.some (Jvm.ClassFile.FieldType.object "java/lang/String")), Jvm.Cond.code ({ cls := "com/example/pledgewire/pledgewire/Reference$AssetAccount", name := "acctType", desc := "()Ljava/lang/String;" } : Jvm.MethodName) prog_55_method_8_code (1 : Nat) (Option.some (Jvm.ClassFile.FieldType.object "java/lang/String")), Jvm.Cond.code ({ cls := "com/example/pledgewire/pledgewire/Reference$AssetAccount", name := "busFunc", desc := "()Ljava/lang/String;" } : Jvm.MethodName) prog_55_method_9_code (1 : Nat) (Option.some (Jvm.ClassFile.FieldType.object "java/lang/String")), Jvm.Cond.code ({ cls := "com/example/pledgewire/pledgewire/AssetKind", name := "type", desc := "()Ljava/lang/String;" } : Jvm.MethodName) prog_3_method_8_code (1 : Nat) (Option.some (Jvm.ClassFile.FieldType.object "java/lang/String")), Jvm.Cond.code ({ cls := "com/example/pledgewire/pledgewire/AssetKind", name := "ccy", desc := "()Ljava/lang/String;" } : Jvm.MethodName) prog_3_method_9_code (1 : Nat) (Option.some (Jvm.ClassFile.FieldType.object "java/lang/String")), Jvm.Cond.code ({ cls := "java/util/List", name := "of", desc := "([Ljava/lang/Object;)Ljava/util/List;" } : Jvm.MethodName) jdk_40_method_47_code (2 : Nat) (Option.some (Jvm.ClassFile.FieldType.object "java/util/List")), Jvm.Cond.code ({ cls := "java/util/ImmutableCollections", name := "listFromArray", desc := "([Ljava/lang/Object;)Ljava/util/List;" } : Jvm.MethodName) jdk_56_method_4_code (3 : Nat) (Option.some (Jvm.ClassFile.FieldType.object "java/util/List")), Jvm.Cond.code ({ cls := "java/util/Objects", name := "requireNonNull", desc := "(Ljava/lang/Object;)Ljava/lang/Object;" } : Jvm.MethodName) jdk_31_method_10_code (1 : Nat) (Option.some (Jvm.ClassFile.FieldType.object "java/lang/Object")), Jvm.Cond.code ({ cls := "java/util/ImmutableCollections$ListN", name := "<init>", desc := "([Ljava/lang/Object;Z)V" } : Jvm.MethodName) jdk_45_method_1_code (3 : Nat) (Option.none : Option Jvm.ClassFile.FieldType), Jvm.Cond.code ({ cls := "java/util/ImmutableCollections$AbstractImmutableList", name := "<init>", desc := "()V" } : Jvm.MethodName) jdk_46_method_1_code (1 : Nat) (Option.none : Option Jvm.ClassFile.FieldType), Jvm.Cond.code ({ cls := "java/util/ImmutableCollections$AbstractImmutableCollection", name := "<init>", desc := "()V" } : Jvm.MethodName) jdk_47_method_1_code (1 : Nat) (Option.none : Option Jvm.ClassFile.FieldType), Jvm.Cond.code ({ cls := "java/util/AbstractCollection", name := "<init>", desc := "()V" } : Jvm.MethodName) jdk_22_method_1_code (1 : Nat) (Option.none : Option Jvm.ClassFile.FieldType), Jvm.Cond.code ({ cls := "java/util/ImmutableCollections$ListN", name := "size", desc := "()I" } : Jvm.MethodName) jdk_45_method_3_code (1 : Nat) (Option.some Jvm.ClassFile.FieldType.int), Jvm.Cond.code ({ cls := "java/util/ImmutableCollections$ListN", name := "get", desc := "(I)Ljava/lang/Object;" } : Jvm.MethodName) jdk_45_method_4_code (2 : Nat) (Option.some (Jvm.ClassFile.FieldType.object "java/lang/Object")), Jvm.Cond.code ({ cls := "java/lang/String", name := "equals", desc := "(Ljava/lang/Object;)Z" } : Jvm.MethodName) jdk_42_method_66_code (3 : Nat) (Option.some Jvm.ClassFile.FieldType.boolean)]
set_option maxRecDepth 65536 in
theorem codes_eq : words1.filter isCode = codes1 := rfl
theorem w_codes : ∀ c ∈ words1.filter isCode, c.before args0 about1 = true := by
  rw [codes_eq]
  intro c hc
  simp only [codes1, List.mem_cons, List.not_mem_nil, or_false] at hc
  rcases hc with rfl | rfl | rfl | rfl | rfl | rfl | rfl | rfl | rfl | rfl | rfl | rfl | rfl | rfl | rfl | rfl | rfl | rfl | rfl | rfl | rfl | rfl | rfl | rfl | rfl | rfl | rfl | rfl | rfl | rfl
  · exact w_c0
  · exact w_c1
  · exact w_c2
  · exact w_c3
  · exact w_c4
  · exact w_c5
  · exact w_c6
  · exact w_c7
  · exact w_c8
  · exact w_c9
  · exact w_c10
  · exact w_c11
  · exact w_c12
  · exact w_c13
  · exact w_c14
  · exact w_c15
  · exact w_c16
  · exact w_c17
  · exact w_c18
  · exact w_c19
  · exact w_c20
  · exact w_c21
  · exact w_c22
  · exact w_c23
  · exact w_c24
  · exact w_c25
  · exact w_c26
  · exact w_c27
  · exact w_c28
  · exact w_c29
set_option maxRecDepth 65536 in
theorem w_t1 : (words1.take 24).all (fun c => isCode c || c.before args0 about1) = true := by decide +kernel
set_option maxRecDepth 65536 in
theorem w_t2 : ((words1.drop 24).take 24).all (fun c => isCode c || c.before args0 about1) = true := by decide +kernel
set_option maxRecDepth 65536 in
theorem w_t3 : (((words1.drop 24).drop 24).take 24).all (fun c => isCode c || c.before args0 about1) = true := by decide +kernel
set_option maxRecDepth 65536 in
theorem w_t4 : ((((words1.drop 24).drop 24).drop 24).take 24).all (fun c => isCode c || c.before args0 about1) = true := by decide +kernel
set_option maxRecDepth 65536 in
theorem w_t5 : (((((words1.drop 24).drop 24).drop 24).drop 24).take 24).all (fun c => isCode c || c.before args0 about1) = true := by decide +kernel
set_option maxRecDepth 65536 in
theorem w_t6 : ((((((words1.drop 24).drop 24).drop 24).drop 24).drop 24).take 24).all (fun c => isCode c || c.before args0 about1) = true := by decide +kernel
set_option maxRecDepth 65536 in
theorem w_t7 : (((((((words1.drop 24).drop 24).drop 24).drop 24).drop 24).drop 24).take 24).all (fun c => isCode c || c.before args0 about1) = true := by decide +kernel
set_option maxRecDepth 65536 in
theorem w_t8 : ((((((((words1.drop 24).drop 24).drop 24).drop 24).drop 24).drop 24).drop 24).take 24).all (fun c => isCode c || c.before args0 about1) = true := by decide +kernel
set_option maxRecDepth 65536 in
theorem w_t9 : ((((((((words1.drop 24).drop 24).drop 24).drop 24).drop 24).drop 24).drop 24).drop 24).all (fun c => isCode c || c.before args0 about1) = true := by decide +kernel
theorem w_tables : (allAtoms (Jvm.Cond.code x code maxLocals ret :: tables_1)).before args0 about1 = true := by
  rw [allAtoms_all]
  show words1.all (fun c => c.before args0 about1) = true
  refine all_split ?_ w_codes
  rw [← List.take_append_drop 24 words1, List.all_append, w_t1, ← List.take_append_drop 24 (words1.drop 24), List.all_append, w_t2, ← List.take_append_drop 24 ((words1.drop 24).drop 24), List.all_append, w_t3, ← List.take_append_drop 24 (((words1.drop 24).drop 24).drop 24), List.all_append, w_t4, ← List.take_append_drop 24 ((((words1.drop 24).drop 24).drop 24).drop 24), List.all_append, w_t5, ← List.take_append_drop 24 (((((words1.drop 24).drop 24).drop 24).drop 24).drop 24), List.all_append, w_t6, ← List.take_append_drop 24 ((((((words1.drop 24).drop 24).drop 24).drop 24).drop 24).drop 24), List.all_append, w_t7, ← List.take_append_drop 24 (((((((words1.drop 24).drop 24).drop 24).drop 24).drop 24).drop 24).drop 24), List.all_append, w_t8, w_t9]
  rfl
set_option maxRecDepth 65536 in
theorem w_rest : rest_1_c.before args0 about1 = true := by decide +kernel
set_option maxRecDepth 65536 in
theorem w_case : (Jvm.Cond.and given_1 narrow_1).before args0 about1 = true := by decide +kernel
theorem w_applies : (headSpec (Jvm.Cond.code x code maxLocals ret :: tables_1) room_1).applies x e0.platform about1 = true :=
  (Spec.applies_iff w_frames).mpr ⟨w_running, w_runnable, w_alone, w_named, w_hears, w_ripe, w_room, w_tables⟩
theorem atStart : AtStart classFile x code maxLocals ret World_1 tables_1 room_1 Calls_1 rest_1 Pre_1 launch0 p0 e0 about1 theMethod args0 below0 :=
  ⟨lists_1, trivial, launch0.admits_env _ _ _, launch0.least_env, fairChoices_fair.cas, fairChoices_fair.clock, w_frames, w_args, w_heap, w_applies, trivial, w_rest, w_case⟩
end start1
theorem witness_1 : WitnessClaimed_1 := ⟨start1.p0, start1.e0, start1.about1, start1.theMethod, start1.args0, start1.below0, start1.atStart⟩
end Jvm.Pilot.@@N@@
