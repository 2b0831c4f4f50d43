import JvmDerived
import JvmDerived.Pilot.@@N@@Statement
import JvmDerived.Pilot.@@N@@Code
set_option linter.unusedVariables false
set_option linter.unusedSimpArgs false
/- laws to paste: Road.backV, Road.lenW, Road.chN, Road.codOf (cut by pick.py; bodies as the Statement names them) -/
namespace Jvm.Pilot.@@N@@
namespace StrChars
open Jvm Sem ClassFile Op Lib Jvm.Stand Jvm.Free.XT Jvm.Free.ALB Jvm.Free.JM Jvm.Free
open Jvm.Lib.Cold (StaticIs)
/-- a char array whose places are chars -/
def Ch (a : Addr) (A : Cell) (U : State) : Prop := Arr .char a A U ∧ Typed .char A
theorem Ch.mv {a : Addr} {A : Cell} {U U' : State} (h : Ch a A U) (hal : U.vm.Alike U'.vm) (hh : U'.heap = U.heap) : Ch a A U' := ⟨h.1.mv hal hh, h.2⟩
theorem Ch.keep {a : Addr} {A : Cell} {U U' : State} (h : Ch a A U) (hal : U.vm.Alike U'.vm) (hk : U'.heap[a]? = some A) : Ch a A U' := ⟨h.1.keep hal hk, h.2⟩
/-- what place i of a char[]'s cell holds -/
def cv (A : Cell) (i : Nat) : Int32 := match A.slots[i]? with | some (.int x) => x | _ => 0
theorem Ch.get {a : Addr} {A : Cell} {U : State} (h : Ch a A U) {i : Nat} (hi : i < A.slots.size) : A.slots[i]? = some (.int (cv A i)) := by
  have e := Array.getElem?_eq_getElem hi
  have f := h.2 i _ e
  unfold cv; rw [e]
  generalize A.slots[i] = v at f
  cases v <;> simp [fits] at f ⊢
/-- the byte that i2b leaves of a char -/
def lo8 (x : Int32) : Int32 := x.toInt8.toInt32
theorem fits_lo8 (y : Int32) : fits .byte (.int (lo8 y)) = true := by
  have h1 := y.toInt8.le_toInt
  have h2 := y.toInt8.toInt_lt
  simp only [lo8, fits, Bool.and_eq_true, decide_eq_true_eq, Int32.le_iff_toInt_le, Int8.toInt_toInt32, show (-128 : Int32).toInt = -128 from by decide, show (127 : Int32).toInt = 127 from by decide]
  omega
/-- A' is A but that each place j of lo .. hi - 1 holds f j -/
def Laid (A A' : Cell) (lo hi : Nat) (f : Nat → Value) : Prop := A'.cls = A.cls ∧ A'.vm = A.vm ∧ A'.slots.size = A.slots.size ∧ ∀ i, A'.slots[i]? = if lo ≤ i ∧ i < hi then some (f i) else A.slots[i]?
theorem Laid.zero (A : Cell) (lo : Nat) (f : Nat → Value) : Laid A A lo (lo + 0) f := ⟨rfl, rfl, rfl, fun i => by rw [if_neg (by omega)]⟩
theorem Laid.step {A Ak : Cell} {lo k : Nat} {f : Nat → Value} {v : Value} (h : Laid A Ak lo k f) (hlo : lo ≤ k) (hk : k < Ak.slots.size) (hv : v = f k) : Laid A (Ak.setSlot k v) lo (k + 1) f := by
  refine ⟨h.1, h.2.1, by simpa [Cell.setSlot] using h.2.2.1, fun i => ?_⟩
  by_cases e : k = i
  · subst e; rw [Cell.slots_setSlot_self v hk, if_pos (by omega), hv]
  · rw [Cell.slots_setSlot_ne v e, h.2.2.2 i]
    by_cases q : lo ≤ i ∧ i < k
    · rw [if_pos q, if_pos (by omega)]
    · rw [if_neg q, if_neg (by omega)]
def U16 : String := "java/lang/StringUTF16"
namespace Cmp5
def yN : MethodName := ⟨"java/lang/StringUTF16", "compress", "([CI[BII)I"⟩
abbrev yB : ByteArray := jdk_52_method_21_code
theorem d0 : decode yB 0 = .ok (.iconst 0, 1) := by decide +kernel
theorem d1 : decode yB 1 = .ok (.istore 5, 2) := by decide +kernel
theorem d3 : decode yB 3 = .ok (.iload 5, 2) := by decide +kernel
theorem d5 : decode yB 5 = .ok (.iload 4, 2) := by decide +kernel
theorem d7 : decode yB 7 = .ok (.if_icmp (.ge) 37, 3) := by decide +kernel
theorem d10 : decode yB 10 = .ok (.aload_n 0, 1) := by decide +kernel
theorem d11 : decode yB 11 = .ok (.iload_n 1, 1) := by decide +kernel
theorem d12 : decode yB 12 = .ok (.caload, 1) := by decide +kernel
theorem d13 : decode yB 13 = .ok (.istore 6, 2) := by decide +kernel
theorem d15 : decode yB 15 = .ok (.iload 6, 2) := by decide +kernel
theorem d17 : decode yB 17 = .ok (.sipush 255, 3) := by decide +kernel
theorem d20 : decode yB 20 = .ok (.if_icmp (.le) 6, 3) := by decide +kernel
theorem d26 : decode yB 26 = .ok (.aload_n 2, 1) := by decide +kernel
theorem d27 : decode yB 27 = .ok (.iload_n 3, 1) := by decide +kernel
theorem d28 : decode yB 28 = .ok (.iload 6, 2) := by decide +kernel
theorem d30 : decode yB 30 = .ok (.i2b, 1) := by decide +kernel
theorem d31 : decode yB 31 = .ok (.bastore, 1) := by decide +kernel
theorem d32 : decode yB 32 = .ok (.iinc 1 1, 3) := by decide +kernel
theorem d35 : decode yB 35 = .ok (.iinc 3 1, 3) := by decide +kernel
theorem d38 : decode yB 38 = .ok (.iinc 5 1, 3) := by decide +kernel
theorem d41 : decode yB 41 = .ok (.goto (-38), 3) := by decide +kernel
theorem d44 : decode yB 44 = .ok (.iload 4, 2) := by decide +kernel
theorem d46 : decode yB 46 = .ok (.ireturn, 1) := by decide +kernel
def site : List Cond := []
def tab : Cond := tabOf yN yB 7 (some .int) site
def P (b : Addr) (A : Cell) (d : Addr) (B : Cell) (o q len : Nat) (args : Array Value) (s : State) : Prop := args = #[.ref b, .int (Int32.ofNat o), .ref d, .int (Int32.ofNat q), .int (Int32.ofNat len)] ∧ Ch b A s ∧ Arr .byte d B s ∧ b ≠ d ∧ o + len ≤ A.slots.size ∧ q + len ≤ B.slots.size ∧ ∀ i, i < len → ¬ 255 < cv A (o + i)
def E (b : Addr) (A : Cell) (d : Addr) (B : Cell) (o q len : Nat) (r : Option Value) (s u : State) : Prop := r = some (.int (Int32.ofNat len)) ∧ ∃ B', Put d B' s u ∧ Laid B B' q (q + len) (fun j => Value.int (lo8 (cv A (o + (j - q)))))
/-- no char of the range above 255: len; the places written hold each char's low byte -/
theorem law (l : Launch) (b : Addr) (A : Cell) (d : Addr) (B : Cell) (o q len : Nat) : Law l yN 5 5 0 0 yB 7 (some .int) site (P b A d B o q len) (E b A d B o q len) (copyLocs d q len) 0 0 := by
  refine Law.of_walk (plainFor_of_name (by decide +kernel)) (by decide +kernel) (by decide +kernel) (by decide) (fun _ _ h => by rw [h.1]; rfl) (fun _ U U' hal hh h => ⟨h.1, h.2.1.mv hal hh, h.2.2.1.mv hal hh, h.2.2.2⟩) (fun r U U' V V' h1 hal h2 h => ⟨h.1, h.2.elim fun B' q => ⟨B', q.1.mv h1 h2, q.2⟩⟩) ?_
  intro p e s m args below meth c s₁ X0 hexec hbytes hml hret hlk hnm hown hh0 W hP
  obtain ⟨rfl, hA, hB, hne, l1, l2, hp⟩ := hP
  have c1 : Steps p.tables e below (s₁.setTop (entryFrame m #[.ref b, .int (Int32.ofNat o), .ref d, .int (Int32.ofNat q), .int (Int32.ofNat len)] 7)) (s₁.setTop (mkF m 0 #[.val (.ref b), .val (.int (Int32.ofNat o)), .val (.ref d), .val (.int (Int32.ofNat q)), .val (.int (Int32.ofNat len)), .unset, .unset] [])) := entry rfl
  have hA0 := hA.1.mv X0.warmed.alike hh0
  have hB0 := hB.mv X0.warmed.alike hh0
  have a31 := hA.1.2.2.2
  have c2 : Steps p.tables e below (s₁.setTop (entryFrame m #[.ref b, .int (Int32.ofNat o), .ref d, .int (Int32.ofNat q), .int (Int32.ofNat len)] 7)) (s₁.setTop (mkF m 3 #[.val (.ref b), .val (.int (Int32.ofNat o)), .val (.ref d), .val (.int (Int32.ofNat q)), .val (.int (Int32.ofNat len)), .val (.int 0), .unset] [])) := c1.trans (by
    refine iconstV X0.here hexec rfl 0 (hb hbytes d0) (by decide) ?_
    refine XS.istore X0.here hexec rfl (hb hbytes d1) rfl rfl ?_
    exact Steps.refl _)
  have loop : ∀ (r i : Nat), i + r = len → ∀ (z : Slot), (z = .unset ∨ ∃ w, z = .val w ∧ w.category = 1) → ∀ (Tl : State) (Bk : Cell), Stand p l e { frames := 0, locals := 0, cells := 0, slots := 0 } s m #[.ref b, .int (Int32.ofNat o), .ref d, .int (Int32.ofNat q), .int (Int32.ofNat len)] below meth c Tl ([] ++ copyLocs d q i) 0 0 → Put d Bk s₁ Tl → Laid B Bk q (q + i) (fun j => Value.int (lo8 (cv A (o + (j - q))))) →
      Steps p.tables e below (s₁.setTop (entryFrame m #[.ref b, .int (Int32.ofNat o), .ref d, .int (Int32.ofNat q), .int (Int32.ofNat len)] 7)) (Tl.setTop (mkF m 3 #[.val (.ref b), .val (.int (Int32.ofNat (o + i))), .val (.ref d), .val (.int (Int32.ofNat (q + i))), .val (.int (Int32.ofNat len)), .val (.int (Int32.ofNat i)), z] [])) → ∃ (T' : State) (B' : Cell) (z' : Slot), Stand p l e { frames := 0, locals := 0, cells := 0, slots := 0 } s m #[.ref b, .int (Int32.ofNat o), .ref d, .int (Int32.ofNat q), .int (Int32.ofNat len)] below meth c T' ([] ++ copyLocs d q len) 0 0 ∧ Put d B' s₁ T' ∧ Laid B B' q (q + len) (fun j => Value.int (lo8 (cv A (o + (j - q))))) ∧
      Steps p.tables e below (s₁.setTop (entryFrame m #[.ref b, .int (Int32.ofNat o), .ref d, .int (Int32.ofNat q), .int (Int32.ofNat len)] 7)) (T'.setTop (mkF m 3 #[.val (.ref b), .val (.int (Int32.ofNat (o + len))), .val (.ref d), .val (.int (Int32.ofNat (q + len))), .val (.int (Int32.ofNat len)), .val (.int (Int32.ofNat len)), z'] [])) := by
    intro r
    induction r with
    | zero =>
      intro i hi z hz Tl Bk Xl pl fl cl
      have hil : i = len := by omega
      rw [hil] at Xl fl cl
      exact ⟨Tl, Bk, z, Xl, pl, fl, cl⟩
    | succ r ih =>
      intro i hi z hz Tl Bk Xl pl fl cl
      have all := X0.warmed.alike.symm.trans Xl.warmed.alike
      have hAl := hA0.keep all (pl.other hne hA0.1)
      have hBk := hB0.like all pl.1 fl.1 fl.2.1 fl.2.2.1
      have hlt : q + i < Bk.slots.size := by rw [fl.2.2.1]; omega
      have c3 : Steps p.tables e below (s₁.setTop (entryFrame m #[.ref b, .int (Int32.ofNat o), .ref d, .int (Int32.ofNat q), .int (Int32.ofNat len)] 7)) (Tl.setTop (mkF m 12 #[.val (.ref b), .val (.int (Int32.ofNat (o + i))), .val (.ref d), .val (.int (Int32.ofNat (q + i))), .val (.int (Int32.ofNat len)), .val (.int (Int32.ofNat i)), z] [.int (Int32.ofNat (o + i)), .ref b])) := cl.trans (by
        refine XS.iload Xl.here hexec rfl (hb hbytes d3) rfl ?_
        refine XS.iload Xl.here hexec rfl (hb hbytes d5) rfl ?_
        refine XS.icmpNo Xl.here hexec rfl (hb hbytes d7) rfl (ii_ge_f (lt32 (by omega) (by omega))) ?_
        refine XS.aloadN Xl.here hexec rfl (hb hbytes d10) rfl rfl ?_
        refine XS.iloadN Xl.here hexec rfl (hb hbytes d11) rfl ?_
        exact Steps.refl _)
      have c4 : Steps p.tables e below (s₁.setTop (entryFrame m #[.ref b, .int (Int32.ofNat o), .ref d, .int (Int32.ofNat q), .int (Int32.ofNat len)] 7)) (Tl.setTop (mkF m 13 #[.val (.ref b), .val (.int (Int32.ofNat (o + i))), .val (.ref d), .val (.int (Int32.ofNat (q + i))), .val (.int (Int32.ofNat len)), .val (.int (Int32.ofNat i)), z] [.int (cv A (o + i))])) := c3.trans (by
        refine Xl.aget hexec hAl rfl (hA.get (i := o + i) (by omega)) rfl rfl (hb hbytes d12) ?_
        exact Steps.refl _)
      have c5 : Steps p.tables e below (s₁.setTop (entryFrame m #[.ref b, .int (Int32.ofNat o), .ref d, .int (Int32.ofNat q), .int (Int32.ofNat len)] 7)) (Tl.setTop (mkF m 15 #[.val (.ref b), .val (.int (Int32.ofNat (o + i))), .val (.ref d), .val (.int (Int32.ofNat (q + i))), .val (.int (Int32.ofNat len)), .val (.int (Int32.ofNat i)), .val (.int (cv A (o + i)))] [])) := c4.trans (by
        refine XS.istoreS Xl.here hexec rfl (hb hbytes d13) rfl rfl hz ?_
        exact Steps.refl _)
      have c6 : Steps p.tables e below (s₁.setTop (entryFrame m #[.ref b, .int (Int32.ofNat o), .ref d, .int (Int32.ofNat q), .int (Int32.ofNat len)] 7)) (Tl.setTop (mkF m 31 #[.val (.ref b), .val (.int (Int32.ofNat (o + i))), .val (.ref d), .val (.int (Int32.ofNat (q + i))), .val (.int (Int32.ofNat len)), .val (.int (Int32.ofNat i)), .val (.int (cv A (o + i)))] [.int (lo8 (cv A (o + i))), .int (Int32.ofNat (q + i)), .ref d])) := c5.trans (by
        refine XS.iload Xl.here hexec rfl (hb hbytes d15) rfl ?_
        refine sipushV Xl.here hexec rfl 255 (hb hbytes d17) (by decide) ?_
        refine XS.icmpYes Xl.here hexec rfl (pc0 := 20) rfl (hb hbytes d20) rfl (ii_le_t (hp i (by omega))) (by decide) rfl ?_
        refine XS.aloadN Xl.here hexec rfl (hb hbytes d26) rfl rfl ?_
        refine XS.iloadN Xl.here hexec rfl (hb hbytes d27) rfl ?_
        refine XS.iload Xl.here hexec rfl (hb hbytes d28) rfl ?_
        refine i2b Xl.here hexec rfl (hb hbytes d30) rfl ?_
        exact Steps.refl _)
      obtain ⟨T7, X7, p7, st7⟩ := Xl.aput hexec hBk rfl hlt rfl (fits_lo8 (cv A (o + i))) (g := (mkF m 31 #[.val (.ref b), .val (.int (Int32.ofNat (o + i))), .val (.ref d), .val (.int (Int32.ofNat (q + i))), .val (.int (Int32.ofNat len)), .val (.int (Int32.ofNat i)), .val (.int (cv A (o + i)))] [.int (lo8 (cv A (o + i))), .int (Int32.ofNat (q + i)), .ref d])) rfl (rest := []) rfl (hb hbytes d31)
      have c8 : Steps p.tables e below (s₁.setTop (entryFrame m #[.ref b, .int (Int32.ofNat o), .ref d, .int (Int32.ofNat q), .int (Int32.ofNat len)] 7)) (T7.setTop (mkF m 32 #[.val (.ref b), .val (.int (Int32.ofNat (o + i))), .val (.ref d), .val (.int (Int32.ofNat (q + i))), .val (.int (Int32.ofNat len)), .val (.int (Int32.ofNat i)), .val (.int (cv A (o + i)))] [])) := c6.trans (st7 _ (Steps.refl _))
      have c9 : Steps p.tables e below (s₁.setTop (entryFrame m #[.ref b, .int (Int32.ofNat o), .ref d, .int (Int32.ofNat q), .int (Int32.ofNat len)] 7)) (T7.setTop (mkF m 3 #[.val (.ref b), .val (.int (Int32.ofNat (o + i) + 1)), .val (.ref d), .val (.int (Int32.ofNat (q + i) + 1)), .val (.int (Int32.ofNat len)), .val (.int (Int32.ofNat i + 1)), .val (.int (cv A (o + i)))] [])) := c8.trans (by
        refine iincV X7.here hexec rfl 1 (hb hbytes d32) (by decide) rfl rfl ?_
        refine iincV X7.here hexec rfl 1 (hb hbytes d35) (by decide) rfl rfl ?_
        refine iincV X7.here hexec rfl 1 (hb hbytes d38) (by decide) rfl rfl ?_
        refine XS.goto X7.here hexec rfl (pc0 := 41) rfl (hb hbytes d41) (by decide) rfl ?_
        exact Steps.refl _)
      have c10 : Steps p.tables e below (s₁.setTop (entryFrame m #[.ref b, .int (Int32.ofNat o), .ref d, .int (Int32.ofNat q), .int (Int32.ofNat len)] 7)) (T7.setTop (mkF m 3 #[.val (.ref b), .val (.int (Int32.ofNat (o + (i + 1)))), .val (.ref d), .val (.int (Int32.ofNat (q + (i + 1)))), .val (.int (Int32.ofNat len)), .val (.int (Int32.ofNat (i + 1))), .val (.int (cv A (o + i)))] [])) := by
        have := c9
        rw [succ32, succ32, succ32] at this
        exact this
      exact ih (i + 1) (by omega) _ (Or.inr ⟨_, rfl, rfl⟩) T7 _ (by rw [copyLocs_step, ← List.append_assoc]; exact X7) (pl.trans p7) (fl.step (by omega) hlt (by simp)) c10
  obtain ⟨T9, B9, z9, X9, p9, f9, g9⟩ := loop len 0 (by omega) .unset (Or.inl rfl) s₁ B (by simpa [copyLocs] using X0) ⟨hB0.1, fun _ _ => rfl, rfl⟩ (Laid.zero _ _ _) c2
  have c11 : Steps p.tables e below (s₁.setTop (entryFrame m #[.ref b, .int (Int32.ofNat o), .ref d, .int (Int32.ofNat q), .int (Int32.ofNat len)] 7)) (T9.setTop (mkF m 46 #[.val (.ref b), .val (.int (Int32.ofNat (o + len))), .val (.ref d), .val (.int (Int32.ofNat (q + len))), .val (.int (Int32.ofNat len)), .val (.int (Int32.ofNat len)), z9] [.int (Int32.ofNat len)])) := g9.trans (by
    refine XS.iload X9.here hexec rfl (hb hbytes d3) rfl ?_
    refine XS.iload X9.here hexec rfl (hb hbytes d5) rfl ?_
    refine XS.icmpYes X9.here hexec rfl (pc0 := 7) rfl (hb hbytes d7) rfl (ii_ge_t (nlt32 (by omega) (Nat.le_refl _))) (by decide) rfl ?_
    refine XS.iload X9.here hexec rfl (hb hbytes d44) rfl ?_
    exact Steps.refl _)
  exact ⟨T9, some (.int (Int32.ofNat len)), _, _, _, X9, by simp, rfl, rfl, (fun h => by cases h), ⟨rfl, B9, p9.from hh0, f9⟩, fun fs hl => c11.trans (X9.ireturnOut hexec hret rfl (Or.inl rfl) (hb hbytes d46) hl)⟩
end Cmp5
namespace Cmp3
def yN : MethodName := ⟨"java/lang/StringUTF16", "compress", "([CII)[B"⟩
abbrev yB : ByteArray := jdk_52_method_16_code
theorem d0 : decode yB 0 = .ok (.iload_n 2, 1) := by decide +kernel
theorem d1 : decode yB 1 = .ok (.newarray .byte, 2) := by decide +kernel
theorem d3 : decode yB 3 = .ok (.astore_n 3, 1) := by decide +kernel
theorem d4 : decode yB 4 = .ok (.aload_n 0, 1) := by decide +kernel
theorem d5 : decode yB 5 = .ok (.iload_n 1, 1) := by decide +kernel
theorem d6 : decode yB 6 = .ok (.aload_n 3, 1) := by decide +kernel
theorem d7 : decode yB 7 = .ok (.iconst 0, 1) := by decide +kernel
theorem d8 : decode yB 8 = .ok (.iload_n 2, 1) := by decide +kernel
theorem d9 : decode yB 9 = .ok (.invokestatic 115, 3) := by decide +kernel
theorem d12 : decode yB 12 = .ok (.istore 4, 2) := by decide +kernel
theorem d14 : decode yB 14 = .ok (.iload 4, 2) := by decide +kernel
theorem d16 : decode yB 16 = .ok (.iload_n 2, 1) := by decide +kernel
theorem d17 : decode yB 17 = .ok (.if_icmp (.eq) 40, 3) := by decide +kernel
theorem d57 : decode yB 57 = .ok (.aload_n 3, 1) := by decide +kernel
theorem d58 : decode yB 58 = .ok (.areturn, 1) := by decide +kernel
def site : List Cond := [.arrayClass .byte, Cmp5.tab] ++ staticW U16 115 Cmp5.yN
def tab : Cond := tabOf yN yB 6 (some (.array .byte)) site
def P (b : Addr) (A : Cell) (o len : Nat) (args : Array Value) (s : State) : Prop := args = #[.ref b, .int (Int32.ofNat o), .int (Int32.ofNat len)] ∧ Ch b A s ∧ o + len ≤ A.slots.size ∧ len ≤ 536870912 ∧ ∀ i, i < len → ¬ 255 < cv A (o + i)
def E (b : Addr) (A : Cell) (o len : Nat) (r : Option Value) (s u : State) : Prop := NewArr .byte "[B" len (fun j => .int (lo8 (cv A (o + j)))) r s u ∧ u.heap.size = s.heap.size + 1
/-- no char of the range above 255: a new byte[] of their low bytes -/
theorem law (l : Launch) (b : Addr) (A : Cell) (o len : Nat) : Law l yN 3 3 1 18 yB 6 (some (.array .byte)) site (P b A o len) (E b A o len) [] 1 len := by
  refine Law.of_walk (plainFor_of_name (by decide +kernel)) (by decide +kernel) (by decide +kernel) (by decide) (fun _ _ h => by rw [h.1]; rfl) (fun _ U U' hal hh h => ⟨h.1, h.2.1.mv hal hh, h.2.2⟩) (fun r U U' V V' h1 hal h2 h => ⟨NewArr.mv r U U' V V' h1 hal h2 h.1, by rw [h1, h2]; exact h.2⟩) ?_
  intro p e s m args below meth c s₁ X0 hexec hbytes hml hret hlk hnm hown hh0 W hP
  obtain ⟨rfl, hA, l1, l2, hp⟩ := hP
  have a31 := hA.1.2.2.2
  have c1 : Steps p.tables e below (s₁.setTop (entryFrame m #[.ref b, .int (Int32.ofNat o), .int (Int32.ofNat len)] 6)) (s₁.setTop (mkF m 0 #[.val (.ref b), .val (.int (Int32.ofNat o)), .val (.int (Int32.ofNat len)), .unset, .unset, .unset] [])) := entry rfl
  have c2 : Steps p.tables e below (s₁.setTop (entryFrame m #[.ref b, .int (Int32.ofNat o), .int (Int32.ofNat len)] 6)) (s₁.setTop (mkF m 1 #[.val (.ref b), .val (.int (Int32.ofNat o)), .val (.int (Int32.ofNat len)), .unset, .unset, .unset] [.int (Int32.ofNat len)])) := c1.trans (by
    refine XS.iloadN X0.here hexec rfl (hb hbytes d0) rfl ?_
    exact Steps.refl _)
  obtain ⟨T3, B3, X3, ba3, bs3, bv3, bh3, bf3, st3⟩ := X0.anew hexec (atype := .byte) (wk W (.arrayClass .byte)) rfl (by show len * 1 ≤ _; omega) (by omega) (g := (mkF m 1 #[.val (.ref b), .val (.int (Int32.ofNat o)), .val (.int (Int32.ofNat len)), .unset, .unset, .unset] [.int (Int32.ofNat len)])) rfl (hb hbytes d1) (rest := []) rfl (Nat.le_refl _) (by show 0 + len ≤ len; omega)
  rw [hh0] at ba3 st3
  have kp3 : XT.Kept s T3 := (XT.Kept.of_eq hh0).push bh3
  have hA3 := hA.keep X3.warmed.alike (kp3 _ _ hA.1.1)
  have hne : b ≠ s.heap.size := hA.1.ne
  have c4 : Steps p.tables e below (s₁.setTop (entryFrame m #[.ref b, .int (Int32.ofNat o), .int (Int32.ofNat len)] 6)) (T3.setTop (mkF m 3 #[.val (.ref b), .val (.int (Int32.ofNat o)), .val (.int (Int32.ofNat len)), .unset, .unset, .unset] [.ref s.heap.size])) := c2.trans (st3 _ (Steps.refl _))
  have c5 : Steps p.tables e below (s₁.setTop (entryFrame m #[.ref b, .int (Int32.ofNat o), .int (Int32.ofNat len)] 6)) (T3.setTop (mkF m 9 #[.val (.ref b), .val (.int (Int32.ofNat o)), .val (.int (Int32.ofNat len)), .val (.ref s.heap.size), .unset, .unset] [.int (Int32.ofNat len), .int 0, .ref s.heap.size, .int (Int32.ofNat o), .ref b])) := c4.trans (by
    refine XS.astoreN X3.here hexec rfl (hb hbytes d3) rfl rfl rfl ?_
    refine XS.aloadN X3.here hexec rfl (hb hbytes d4) rfl rfl ?_
    refine XS.iloadN X3.here hexec rfl (hb hbytes d5) rfl ?_
    refine XS.aloadN X3.here hexec rfl (hb hbytes d6) rfl rfl ?_
    refine iconstV X3.here hexec rfl 0 (hb hbytes d7) (by decide) ?_
    refine XS.iloadN X3.here hexec rfl (hb hbytes d8) rfl ?_
    exact Steps.refl _)
  obtain ⟨v6, T6, X6, E6, g6⟩ := X3.callS hexec (Cmp5.law l b A s.heap.size B3 o 0 len) hown (wks W (staticW U16 115 Cmp5.yN)) (wk W Cmp5.tab) (W := 0) (Nat.le_of_ble_eq_true rfl) (Nat.le_of_ble_eq_true rfl) (Nat.le_refl _) (by show 0 + len + 0 ≤ len; omega) (g := (mkF m 9 #[.val (.ref b), .val (.int (Int32.ofNat o)), .val (.int (Int32.ofNat len)), .val (.ref s.heap.size), .unset, .unset] [.int (Int32.ofNat len), .int (Int32.ofNat 0), .ref s.heap.size, .int (Int32.ofNat o), .ref b])) rfl (by rw [hml]; rfl) c5 (argsL := [.ref b, .int (Int32.ofNat o), .ref s.heap.size, .int (Int32.ofNat 0), .int (Int32.ofNat len)]) (rest := []) rfl rfl (by show 2 * 0 + 0 ≤ _; decide) (hb hbytes d9) (⟨rfl, hA3, ba3, hne, l1, by rw [bs3]; simp, hp⟩)
  obtain ⟨rfl, B6, p6, f6⟩ := E6
  have c7 : Steps p.tables e below (s₁.setTop (entryFrame m #[.ref b, .int (Int32.ofNat o), .int (Int32.ofNat len)] 6)) (T6.setTop (mkF m 12 #[.val (.ref b), .val (.int (Int32.ofNat o)), .val (.int (Int32.ofNat len)), .val (.ref s.heap.size), .unset, .unset] [.int (Int32.ofNat len)])) := g6
  have c8 : Steps p.tables e below (s₁.setTop (entryFrame m #[.ref b, .int (Int32.ofNat o), .int (Int32.ofNat len)] 6)) (T6.setTop (mkF m 58 #[.val (.ref b), .val (.int (Int32.ofNat o)), .val (.int (Int32.ofNat len)), .val (.ref s.heap.size), .val (.int (Int32.ofNat len)), .unset] [.ref s.heap.size])) := c7.trans (by
    refine XS.istore X6.here hexec rfl (hb hbytes d12) rfl rfl ?_
    refine XS.iload X6.here hexec rfl (hb hbytes d14) rfl ?_
    refine XS.iloadN X6.here hexec rfl (hb hbytes d16) rfl ?_
    refine XS.icmpYes X6.here hexec rfl (pc0 := 17) rfl (hb hbytes d17) rfl (ii_eq_t rfl) (by decide) rfl ?_
    refine XS.aloadN X6.here hexec rfl (hb hbytes d57) rfl rfl ?_
    exact Steps.refl _)
  have X8 := X6.wide (L' := []) (cells' := 1) (slots' := len) (fun x hx hlt => by
    simp only [List.nil_append, copyLocs, List.mem_map, List.mem_range] at hx
    obtain ⟨i, -, rfl⟩ := hx
    exact absurd hlt (Nat.lt_irrefl _)) (Nat.le_refl _) (by omega)
  exact ⟨T6, some (.ref s.heap.size), _, _, _, X8, rfl, rfl, rfl, (fun h => by cases h), ⟨⟨rfl, B6, ba3.like (X3.warmed.alike.symm.trans X6.warmed.alike) p6.1 f6.1 f6.2.1 f6.2.2.1, f6.2.1.trans bv3, by rw [X6.warmed.alike.findClass, f6.1]; exact bf3, by rw [f6.2.2.1, bs3]; simp, fun j hj => by rw [f6.2.2.2 j, if_pos (by omega)]; rfl, kp3.put p6 (Nat.le_refl _)⟩, by rw [p6.2.2, bh3, hh0]; simp⟩, fun fs hl => c8.trans (X8.areturnOut hexec rfl hret rfl (hb hbytes d58) hl)⟩
end Cmp3
namespace CodL
def yN : MethodName := ⟨"java/lang/StringUTF16", "coderFromArrayLen", "([BI)B"⟩
abbrev yB : ByteArray := jdk_52_method_15_code
theorem d0 : decode yB 0 = .ok (.iload_n 1, 1) := by decide +kernel
theorem d1 : decode yB 1 = .ok (.aload_n 0, 1) := by decide +kernel
theorem d2 : decode yB 2 = .ok (.arraylength, 1) := by decide +kernel
theorem d3 : decode yB 3 = .ok (.isub, 1) := by decide +kernel
theorem d4 : decode yB 4 = .ok (.bipush 31, 2) := by decide +kernel
theorem d6 : decode yB 6 = .ok (.iushr, 1) := by decide +kernel
theorem d7 : decode yB 7 = .ok (.i2b, 1) := by decide +kernel
theorem d8 : decode yB 8 = .ok (.ireturn, 1) := by decide +kernel
def site : List Cond := []
def tab : Cond := tabOf yN yB 2 (some .byte) site
def P (d : Addr) (B : Cell) (args : Array Value) (s : State) : Prop := args = #[.ref d, .int (Int32.ofNat B.slots.size)] ∧ Arr .byte d B s
def E (r : Option Value) (s u : State) : Prop := XT.PureE (some (.int 0)) r s u
/-- an array as long as the number of chars: LATIN1 -/
theorem law (l : Launch) (d : Addr) (B : Cell) : Law l yN 2 2 0 0 yB 2 (some .byte) site (P d B) E [] 0 0 := by
  refine Law.of_walk (plainFor_of_name (by decide +kernel)) (by decide +kernel) (by decide +kernel) (by decide) (fun _ _ h => by rw [h.1]; rfl) (fun _ U U' hal hh h => ⟨h.1, h.2.mv hal hh⟩) (fun r U U' V V' h1 hal h2 h => XT.PureE.mv r U U' V V' h1 hal h2 h) ?_
  intro p e s m args below meth c s₁ X0 hexec hbytes hml hret hlk hnm hown hh0 W hP
  obtain ⟨rfl, hB⟩ := hP
  have hB0 := hB.mv X0.warmed.alike hh0
  have c1 : Steps p.tables e below (s₁.setTop (entryFrame m #[.ref d, .int (Int32.ofNat B.slots.size)] 2)) (s₁.setTop (mkF m 0 #[.val (.ref d), .val (.int (Int32.ofNat B.slots.size))] [])) := entry rfl
  have c2 : Steps p.tables e below (s₁.setTop (entryFrame m #[.ref d, .int (Int32.ofNat B.slots.size)] 2)) (s₁.setTop (mkF m 2 #[.val (.ref d), .val (.int (Int32.ofNat B.slots.size))] [.ref d, .int (Int32.ofNat B.slots.size)])) := c1.trans (by
    refine XS.iloadN X0.here hexec rfl (hb hbytes d0) rfl ?_
    refine XS.aloadN X0.here hexec rfl (hb hbytes d1) rfl rfl ?_
    exact Steps.refl _)
  have c3 : Steps p.tables e below (s₁.setTop (entryFrame m #[.ref d, .int (Int32.ofNat B.slots.size)] 2)) (s₁.setTop (mkF m 8 #[.val (.ref d), .val (.int (Int32.ofNat B.slots.size))] [.int (lo8 (ushr (Int32.ofNat B.slots.size - Int32.ofNat B.slots.size) 31))])) := c2.trans (by
    refine X0.alen hexec hB0 rfl rfl (hb hbytes d2) ?_
    refine XS.isub X0.here hexec rfl (hb hbytes d3) rfl ?_
    refine bipushV X0.here hexec rfl 31 (hb hbytes d4) (by decide) ?_
    refine iushr X0.here hexec rfl (hb hbytes d6) rfl ?_
    refine i2b X0.here hexec rfl (hb hbytes d7) rfl ?_
    exact Steps.refl _)
  have e0 : lo8 (ushr (Int32.ofNat B.slots.size - Int32.ofNat B.slots.size) 31) = 0 := by rw [Int32.sub_self]; decide
  rw [e0] at c3
  exact ⟨s₁, some (.int 0), _, _, _, X0, rfl, rfl, rfl, (fun h => by cases h), ⟨rfl, hh0⟩, fun fs hl => c3.trans (X0.ireturnOut hexec hret rfl (Or.inr (Or.inr (Or.inl rfl))) (hb hbytes d8) hl)⟩
end CodL
/-- the String at a is Latin-1 over a new byte[] (the heap's one new cell): the low bytes of the len chars of A from o on; every cell but a is kept -/
def Got (a : Addr) (D : Cell) (fV fC : Field) (A : Cell) (o len : Nat) (r : Option Value) (s u : State) : Prop := r = none ∧ ∃ D' V : Cell, Blank "java/lang/String" a D' u ∧ Same D D' [fV.slot, fC.slot] ∧ D'.slots[fV.slot]? = some (.ref s.heap.size) ∧ D'.slots[fC.slot]? = some (.int 0) ∧ Arr .byte s.heap.size V u ∧ V.vm = .none ∧ u.vm.findClass "[B" = some V.cls ∧ V.slots.size = len ∧ (∀ j, j < len → V.slots[j]? = some (.int (lo8 (cv A (o + j))))) ∧ (∀ (y : Addr) (c : Cell), y ≠ a → s.heap[y]? = some c → u.heap[y]? = some c) ∧ u.heap.size = s.heap.size + 1
theorem Got.mv {a : Addr} {D A : Cell} {fV fC : Field} {o len : Nat} : ∀ r (U U' V V' : State), U'.heap = U.heap → V.vm.Alike V'.vm → V'.heap = V.heap → Got a D fV fC A o len r U V → Got a D fV fC A o len r U' V' :=
  fun r U U' V V' h1 hal h2 ⟨e0, D', X, a1, a2, a3, a4, a5, a6, a7, a8, a9, a10, a11⟩ => ⟨e0, D', X, a1.mv hal h2, a2, by rw [h1]; exact a3, a4, by rw [h1]; exact a5.mv hal h2, a6, by rw [hal.findClass]; exact a7, a8, a9, by rw [h1, h2]; exact a10, by rw [h1, h2]; exact a11⟩
namespace New4
def yN : MethodName := ⟨"java/lang/String", "<init>", "([CIILjava/lang/Void;)V"⟩
abbrev yB : ByteArray := jdk_42_method_149_code
theorem d0 : decode yB 0 = .ok (.aload_n 0, 1) := by decide +kernel
theorem d1 : decode yB 1 = .ok (.invokespecial 1, 3) := by decide +kernel
theorem d4 : decode yB 4 = .ok (.iload_n 3, 1) := by decide +kernel
theorem d5 : decode yB 5 = .ok (.ifCond (.ne) 22, 3) := by decide +kernel
theorem d27 : decode yB 27 = .ok (.getstatic 38, 3) := by decide +kernel
theorem d30 : decode yB 30 = .ok (.ifCond (.eq) 28, 3) := by decide +kernel
theorem d33 : decode yB 33 = .ok (.aload_n 1, 1) := by decide +kernel
theorem d34 : decode yB 34 = .ok (.iload_n 2, 1) := by decide +kernel
theorem d35 : decode yB 35 = .ok (.iload_n 3, 1) := by decide +kernel
theorem d36 : decode yB 36 = .ok (.invokestatic 177, 3) := by decide +kernel
theorem d39 : decode yB 39 = .ok (.astore 5, 2) := by decide +kernel
theorem d41 : decode yB 41 = .ok (.aload_n 0, 1) := by decide +kernel
theorem d42 : decode yB 42 = .ok (.aload 5, 2) := by decide +kernel
theorem d44 : decode yB 44 = .ok (.iload_n 3, 1) := by decide +kernel
theorem d45 : decode yB 45 = .ok (.invokestatic 47, 3) := by decide +kernel
theorem d48 : decode yB 48 = .ok (.putfield 15, 3) := by decide +kernel
theorem d51 : decode yB 51 = .ok (.aload_n 0, 1) := by decide +kernel
theorem d52 : decode yB 52 = .ok (.aload 5, 2) := by decide +kernel
theorem d54 : decode yB 54 = .ok (.putfield 9, 3) := by decide +kernel
theorem d57 : decode yB 57 = .ok (.return_, 1) := by decide +kernel
def site : List Cond := [.fieldLink "java/lang/String" 38 "java/lang/String" "COMPACT_STRINGS" "Z", Cmp3.tab, CodL.tab, .laysFinal "java/lang/String" "java/lang/String" "value" "[B", .fieldLink "java/lang/String" 9 "java/lang/String" "value" "[B", .laysFinal "java/lang/String" "java/lang/String" "coder" "B", .fieldLink "java/lang/String" 15 "java/lang/String" "coder" "B"] ++ objW "java/lang/String" 1 ++ staticW "java/lang/String" 177 Cmp3.yN ++ staticW "java/lang/String" 47 CodL.yN
def tab : Cond := tabOf yN yB 6 none site
def P (a : Addr) (D : Cell) (fV fC : Field) (b : Addr) (A : Cell) (z : Int32) (o len : Nat) (args : Array Value) (s : State) : Prop := args = #[.ref a, .ref b, .int (Int32.ofNat o), .int (Int32.ofNat len), .null] ∧ Blank "java/lang/String" a D s ∧ Found "java/lang/String" "value" "[B" fV s ∧ Found "java/lang/String" "coder" "B" fC s ∧ Ch b A s ∧ StaticIs s "java/lang/String" "COMPACT_STRINGS" "Z" (.int z) ∧ ¬ z = 0 ∧ 0 < len ∧ o + len ≤ A.slots.size ∧ len ≤ 536870912 ∧ ∀ i, i < len → ¬ 255 < cv A (o + i)
def E (a : Addr) (D : Cell) (fV fC : Field) (A : Cell) (o len : Nat) (r : Option Value) (s u : State) : Prop := Got a D fV fC A o len r s u
/-- len > 0, no char of the range above 255: a Latin-1 String of their low bytes -/
theorem law (l : Launch) (a : Addr) (D : Cell) (fV fC : Field) (b : Addr) (A : Cell) (z : Int32) (o len : Nat) : Law l yN 5 4 2 35 yB 6 none site (P a D fV fC b A z o len) (E a D fV fC A o len) [⟨a, fC.slot⟩, ⟨a, fV.slot⟩] 1 len := by
  refine Law.of_walk (plainFor_of_name (by decide +kernel)) (by decide +kernel) (by decide +kernel) (by decide) (fun _ _ h => by rw [h.1]; rfl) (fun _ U U' hal hh h => ⟨h.1, h.2.1.mv hal hh, h.2.2.1.al hal, h.2.2.2.1.al hal, h.2.2.2.2.1.mv hal hh, h.2.2.2.2.2.1.there hal hh, h.2.2.2.2.2.2⟩) (fun r U U' V V' h1 hal h2 h => Got.mv r U U' V V' h1 hal h2 h) ?_
  intro p e s m args below meth c s₁ X0 hexec hbytes hml hret hlk hnm hown hh0 W hP
  obtain ⟨rfl, hB, f1, f2, hA, s1, hz, l0, l1, l2, hp⟩ := hP
  have a31 := hA.1.2.2.2
  have c1 : Steps p.tables e below (s₁.setTop (entryFrame m #[.ref a, .ref b, .int (Int32.ofNat o), .int (Int32.ofNat len), .null] 6)) (s₁.setTop (mkF m 0 #[.val (.ref a), .val (.ref b), .val (.int (Int32.ofNat o)), .val (.int (Int32.ofNat len)), .val .null, .unset] [])) := entry rfl
  have c2 : Steps p.tables e below (s₁.setTop (entryFrame m #[.ref a, .ref b, .int (Int32.ofNat o), .int (Int32.ofNat len), .null] 6)) (s₁.setTop (mkF m 1 #[.val (.ref a), .val (.ref b), .val (.int (Int32.ofNat o)), .val (.int (Int32.ofNat len)), .val .null, .unset] [.ref a])) := c1.trans (by
    refine XS.aloadN X0.here hexec rfl (hb hbytes d0) rfl rfl ?_
    exact Steps.refl _)
  obtain ⟨T3, X3, q3, st3⟩ := X0.oinit hexec hown (wks W (objW "java/lang/String" 1)) (g := (mkF m 1 #[.val (.ref a), .val (.ref b), .val (.int (Int32.ofNat o)), .val (.int (Int32.ofNat len)), .val .null, .unset] [.ref a])) rfl (by rw [hml]; rfl) (rest := []) rfl (hb hbytes d1) (W := 0) (by show 2 * 0 + 0 ≤ _; decide) (Nat.le_of_ble_eq_true rfl) (Nat.le_of_ble_eq_true rfl)
  have hh3 := q3.trans hh0
  have c4 : Steps p.tables e below (s₁.setTop (entryFrame m #[.ref a, .ref b, .int (Int32.ofNat o), .int (Int32.ofNat len), .null] 6)) (T3.setTop (mkF m 27 #[.val (.ref a), .val (.ref b), .val (.int (Int32.ofNat o)), .val (.int (Int32.ofNat len)), .val .null, .unset] [])) := (c2.trans (st3 _ (Steps.refl _))).trans (by
    refine XS.iloadN X3.here hexec rfl (hb hbytes d4) rfl ?_
    refine XS.ifYes X3.here hexec rfl (pc0 := 5) rfl (hb hbytes d5) rfl (i0_ne_t (nz32 (by omega) l0)) (by decide) rfl ?_
    exact Steps.refl _)
  obtain ⟨T5, X5, q5, st5⟩ := X3.sget hexec hown (wk W (.fieldLink "java/lang/String" 38 "java/lang/String" "COMPACT_STRINGS" "Z")) s1 (fun _ _ h => by rw [hh3]; exact h) (g := (mkF m 27 #[.val (.ref a), .val (.ref b), .val (.int (Int32.ofNat o)), .val (.int (Int32.ofNat len)), .val .null, .unset] [])) rfl (hb hbytes d27)
  have hh5 := q5.trans hh3
  have c6 : Steps p.tables e below (s₁.setTop (entryFrame m #[.ref a, .ref b, .int (Int32.ofNat o), .int (Int32.ofNat len), .null] 6)) (T5.setTop (mkF m 30 #[.val (.ref a), .val (.ref b), .val (.int (Int32.ofNat o)), .val (.int (Int32.ofNat len)), .val .null, .unset] [.int z])) := c4.trans (st5 _ (Steps.refl _))
  have c7 : Steps p.tables e below (s₁.setTop (entryFrame m #[.ref a, .ref b, .int (Int32.ofNat o), .int (Int32.ofNat len), .null] 6)) (T5.setTop (mkF m 36 #[.val (.ref a), .val (.ref b), .val (.int (Int32.ofNat o)), .val (.int (Int32.ofNat len)), .val .null, .unset] [.int (Int32.ofNat len), .int (Int32.ofNat o), .ref b])) := c6.trans (by
    refine XS.ifNo X5.here hexec rfl (hb hbytes d30) rfl (i0_eq_f hz) ?_
    refine XS.aloadN X5.here hexec rfl (hb hbytes d33) rfl rfl ?_
    refine XS.iloadN X5.here hexec rfl (hb hbytes d34) rfl ?_
    refine XS.iloadN X5.here hexec rfl (hb hbytes d35) rfl ?_
    exact Steps.refl _)
  obtain ⟨v8, T8, X8, E8, g8⟩ := X5.callS hexec (Cmp3.law l b A o len) hown (wks W (staticW "java/lang/String" 177 Cmp3.yN)) (wk W Cmp3.tab) (W := 0) (Nat.le_of_ble_eq_true rfl) (Nat.le_of_ble_eq_true rfl) (Nat.le_refl _) (by show 0 + len ≤ len; omega) (g := (mkF m 36 #[.val (.ref a), .val (.ref b), .val (.int (Int32.ofNat o)), .val (.int (Int32.ofNat len)), .val .null, .unset] [.int (Int32.ofNat len), .int (Int32.ofNat o), .ref b])) rfl (by rw [hml]; rfl) c7 (argsL := [.ref b, .int (Int32.ofNat o), .int (Int32.ofNat len)]) (rest := []) rfl rfl (by show 2 * 0 + 0 ≤ _; decide) (hb hbytes d36) (⟨rfl, hA.mv X5.warmed.alike hh5, l1, l2, hp⟩)
  obtain ⟨e8, z8⟩ := E8
  obtain ⟨rfl, N, n1, n2, n3, n4, n5, n6⟩ := NewArr.mv _ T5 s _ _ hh5.symm (Vm.Alike.refl _) rfl e8
  rw [hh5] at z8
  have hB1 := hB.keep X8.warmed.alike (n6 _ _ hB.1)
  have hne : s.heap.size ≠ a := (Nat.ne_of_lt (Array.getElem?_eq_some_iff.mp hB.1).1).symm
  have c9 : Steps p.tables e below (s₁.setTop (entryFrame m #[.ref a, .ref b, .int (Int32.ofNat o), .int (Int32.ofNat len), .null] 6)) (T8.setTop (mkF m 39 #[.val (.ref a), .val (.ref b), .val (.int (Int32.ofNat o)), .val (.int (Int32.ofNat len)), .val .null, .unset] [.ref s.heap.size])) := g8
  have c10 : Steps p.tables e below (s₁.setTop (entryFrame m #[.ref a, .ref b, .int (Int32.ofNat o), .int (Int32.ofNat len), .null] 6)) (T8.setTop (mkF m 45 #[.val (.ref a), .val (.ref b), .val (.int (Int32.ofNat o)), .val (.int (Int32.ofNat len)), .val .null, .val (.ref s.heap.size)] [.int (Int32.ofNat N.slots.size), .ref s.heap.size, .ref a])) := by
    have hc : Steps p.tables e below (s₁.setTop (entryFrame m #[.ref a, .ref b, .int (Int32.ofNat o), .int (Int32.ofNat len), .null] 6)) (T8.setTop (mkF m 45 #[.val (.ref a), .val (.ref b), .val (.int (Int32.ofNat o)), .val (.int (Int32.ofNat len)), .val .null, .val (.ref s.heap.size)] [.int (Int32.ofNat len), .ref s.heap.size, .ref a])) := c9.trans (by
      refine XS.astore X8.here hexec rfl (hb hbytes d39) rfl rfl rfl ?_
      refine XS.aloadN X8.here hexec rfl (hb hbytes d41) rfl rfl ?_
      refine XS.aload X8.here hexec rfl (hb hbytes d42) rfl rfl ?_
      refine XS.iloadN X8.here hexec rfl (hb hbytes d44) rfl ?_
      exact Steps.refl _)
    rw [n4]; exact hc
  obtain ⟨v11, T11, X11, E11, g11⟩ := X8.callS hexec (CodL.law l s.heap.size N) hown (wks W (staticW "java/lang/String" 47 CodL.yN)) (wk W CodL.tab) (W := 1) (Nat.le_of_ble_eq_true rfl) (Nat.le_of_ble_eq_true rfl) (Nat.le_refl _) (by show 0 + len + 0 ≤ len; omega) (g := (mkF m 45 #[.val (.ref a), .val (.ref b), .val (.int (Int32.ofNat o)), .val (.int (Int32.ofNat len)), .val .null, .val (.ref s.heap.size)] [.int (Int32.ofNat N.slots.size), .ref s.heap.size, .ref a])) rfl (by rw [hml]; rfl) c10 (argsL := [.ref s.heap.size, .int (Int32.ofNat N.slots.size)]) (rest := [.ref a]) rfl rfl (by show 2 * 0 + (1 + 0) ≤ _; decide) (hb hbytes d45) (⟨rfl, n1⟩)
  obtain ⟨rfl, q11⟩ := E11
  have hB11 := hB1.mv (X8.warmed.alike.symm.trans X11.warmed.alike) q11
  have c12 : Steps p.tables e below (s₁.setTop (entryFrame m #[.ref a, .ref b, .int (Int32.ofNat o), .int (Int32.ofNat len), .null] 6)) (T11.setTop (mkF m 48 #[.val (.ref a), .val (.ref b), .val (.int (Int32.ofNat o)), .val (.int (Int32.ofNat len)), .val .null, .val (.ref s.heap.size)] [.int 0, .ref a])) := g11
  obtain ⟨T13, X13, p13, bl13, sl13, st13⟩ := X11.finit hexec hown (wk W (.fieldLink "java/lang/String" 15 "java/lang/String" "coder" "B")) (Or.inr ⟨_, (wk W (.laysFinal "java/lang/String" "java/lang/String" "coder" "B"))⟩) (Or.inl ⟨rfl, hnm⟩) f2 (Or.inl rfl) hB11 (t := .byte) (by decide +kernel) rfl (g := (mkF m 48 #[.val (.ref a), .val (.ref b), .val (.int (Int32.ofNat o)), .val (.int (Int32.ofNat len)), .val .null, .val (.ref s.heap.size)] [.int 0, .ref a])) rfl (rest := []) rfl (hb hbytes d48)
  have c14 : Steps p.tables e below (s₁.setTop (entryFrame m #[.ref a, .ref b, .int (Int32.ofNat o), .int (Int32.ofNat len), .null] 6)) (T13.setTop (mkF m 54 #[.val (.ref a), .val (.ref b), .val (.int (Int32.ofNat o)), .val (.int (Int32.ofNat len)), .val .null, .val (.ref s.heap.size)] [.ref s.heap.size, .ref a])) := (c12.trans (st13 _ (Steps.refl _))).trans (by
    refine XS.aloadN X13.here hexec rfl (hb hbytes d51) rfl rfl ?_
    refine XS.aload X13.here hexec rfl (hb hbytes d52) rfl rfl ?_
    exact Steps.refl _)
  obtain ⟨T15, X15, p15, bl15, sl15, st15⟩ := X13.finit hexec hown (wk W (.fieldLink "java/lang/String" 9 "java/lang/String" "value" "[B")) (Or.inr ⟨_, (wk W (.laysFinal "java/lang/String" "java/lang/String" "value" "[B"))⟩) (Or.inl ⟨rfl, hnm⟩) f1 (Or.inl rfl) bl13 (t := (.array .byte)) (by decide +kernel) rfl (g := (mkF m 54 #[.val (.ref a), .val (.ref b), .val (.int (Int32.ofNat o)), .val (.int (Int32.ofNat len)), .val .null, .val (.ref s.heap.size)] [.ref s.heap.size, .ref a])) rfl (rest := []) rfl (hb hbytes d54)
  have c16 : Steps p.tables e below (s₁.setTop (entryFrame m #[.ref a, .ref b, .int (Int32.ofNat o), .int (Int32.ofNat len), .null] 6)) (T15.setTop (mkF m 57 #[.val (.ref a), .val (.ref b), .val (.int (Int32.ofNat o)), .val (.int (Int32.ofNat len)), .val .null, .val (.ref s.heap.size)] [])) := c14.trans (st15 _ (Steps.refl _))
  have ap := apart (Or.inr ⟨_, (wk W (.laysFinal "java/lang/String" "java/lang/String" "value" "[B"))⟩) (Or.inr ⟨_, (wk W (.laysFinal "java/lang/String" "java/lang/String" "coder" "B"))⟩) f1 f2 (t₁ := .array .byte) (t₂ := .byte) (by decide +kernel) (by decide +kernel) (by decide)
  have al := X8.warmed.alike.symm.trans X15.warmed.alike
  have n7 : T11.heap[s.heap.size]? = some N := by rw [q11]; exact n1.1
  exact ⟨T15, none, _, _, _, X15, by simp, rfl, by omega, (fun _ => rfl), ⟨rfl, _, N, bl15, ((Same.refl D _).set _ (by simp)).set _ (by simp), sl15, (Cell.slots_setSlot_ne _ ap).trans sl13, n1.keep al (p15.other hne (p13.other hne n7)), n2, by rw [al.findClass]; exact n3, n4, n5, fun y c h1 h2 => p15.other h1 (p13.other h1 (by rw [q11]; exact n6 y c h2)), by rw [p15.2.2, p13.2.2, q11]; exact z8⟩, fun fs hl => c16.trans (X15.returnOut hexec hret (hb hbytes d57) hl)⟩
end New4
namespace New1
def yN : MethodName := ⟨"java/lang/String", "<init>", "([C)V"⟩
abbrev yB : ByteArray := jdk_42_method_3_code
theorem d0 : decode yB 0 = .ok (.aload_n 0, 1) := by decide +kernel
theorem d1 : decode yB 1 = .ok (.aload_n 1, 1) := by decide +kernel
theorem d2 : decode yB 2 = .ok (.iconst 0, 1) := by decide +kernel
theorem d3 : decode yB 3 = .ok (.aload_n 1, 1) := by decide +kernel
theorem d4 : decode yB 4 = .ok (.arraylength, 1) := by decide +kernel
theorem d5 : decode yB 5 = .ok (.aconst_null, 1) := by decide +kernel
theorem d6 : decode yB 6 = .ok (.invokespecial 27, 3) := by decide +kernel
theorem d9 : decode yB 9 = .ok (.return_, 1) := by decide +kernel
def site : List Cond := [New4.tab] ++ initW "java/lang/String" 27 New4.yN
def tab : Cond := tabOf yN yB 2 none site
def P (a : Addr) (D : Cell) (fV fC : Field) (b : Addr) (A : Cell) (z : Int32) (args : Array Value) (s : State) : Prop := args = #[.ref a, .ref b] ∧ Blank "java/lang/String" a D s ∧ Found "java/lang/String" "value" "[B" fV s ∧ Found "java/lang/String" "coder" "B" fC s ∧ Ch b A s ∧ StaticIs s "java/lang/String" "COMPACT_STRINGS" "Z" (.int z) ∧ ¬ z = 0 ∧ 0 < A.slots.size ∧ A.slots.size ≤ 536870912 ∧ ∀ i, i < A.slots.size → ¬ 255 < cv A i
def E (a : Addr) (D : Cell) (fV fC : Field) (A : Cell) (r : Option Value) (s u : State) : Prop := Got a D fV fC A 0 A.slots.size r s u
/-- new String(chars), not empty, no char above 255: a Latin-1 String of their low bytes -/
theorem law (l : Launch) (a : Addr) (D : Cell) (fV fC : Field) (b : Addr) (A : Cell) (z : Int32) : Law l yN 2 1 3 52 yB 2 none site (P a D fV fC b A z) (E a D fV fC A) [⟨a, fC.slot⟩, ⟨a, fV.slot⟩] 1 A.slots.size := by
  refine Law.of_walk (plainFor_of_name (by decide +kernel)) (by decide +kernel) (by decide +kernel) (by decide) (fun _ _ h => by rw [h.1]; rfl) (fun _ U U' hal hh h => ⟨h.1, h.2.1.mv hal hh, h.2.2.1.al hal, h.2.2.2.1.al hal, h.2.2.2.2.1.mv hal hh, h.2.2.2.2.2.1.there hal hh, h.2.2.2.2.2.2⟩) (fun r U U' V V' h1 hal h2 h => Got.mv r U U' V V' h1 hal h2 h) ?_
  intro p e s m args below meth c s₁ X0 hexec hbytes hml hret hlk hnm hown hh0 W hP
  obtain ⟨rfl, hB, f1, f2, hA, s1, hz, l0, l2, hp⟩ := hP
  have c1 : Steps p.tables e below (s₁.setTop (entryFrame m #[.ref a, .ref b] 2)) (s₁.setTop (mkF m 0 #[.val (.ref a), .val (.ref b)] [])) := entry rfl
  have c2 : Steps p.tables e below (s₁.setTop (entryFrame m #[.ref a, .ref b] 2)) (s₁.setTop (mkF m 6 #[.val (.ref a), .val (.ref b)] [.null, .int (Int32.ofNat A.slots.size), .int 0, .ref b, .ref a])) := c1.trans (by
    refine XS.aloadN X0.here hexec rfl (hb hbytes d0) rfl rfl ?_
    refine XS.aloadN X0.here hexec rfl (hb hbytes d1) rfl rfl ?_
    refine iconstV X0.here hexec rfl 0 (hb hbytes d2) (by decide) ?_
    refine XS.aloadN X0.here hexec rfl (hb hbytes d3) rfl rfl ?_
    refine X0.alen hexec (hA.1.mv X0.warmed.alike hh0) rfl rfl (hb hbytes d4) ?_
    refine XS.aconstNull X0.here hexec rfl (hb hbytes d5) ?_
    exact Steps.refl _)
  obtain ⟨v3, T3, X3, E3, g3⟩ := X0.callN hexec (New4.law l a D fV fC b A z 0 A.slots.size) rfl hown (wks W (initW "java/lang/String" 27 New4.yN)) (W New4.tab (by simp only [site, List.mem_cons, List.mem_append, true_or, or_true])) (W := 0) (Nat.le_of_ble_eq_true rfl) (Nat.le_of_ble_eq_true rfl) (Nat.le_refl _) (by show 0 + A.slots.size ≤ A.slots.size; omega) (g := (mkF m 6 #[.val (.ref a), .val (.ref b)] [.null, .int (Int32.ofNat A.slots.size), .int (Int32.ofNat 0), .ref b, .ref a])) rfl (by rw [hml]; rfl) c2 (argsL := [.ref b, .int (Int32.ofNat 0), .int (Int32.ofNat A.slots.size), .null]) (rest := []) rfl rfl (by show 2 * 0 + 0 ≤ _; decide) (hb hbytes d6) (⟨rfl, hB.mv X0.warmed.alike hh0, f1.al X0.warmed.alike, f2.al X0.warmed.alike, hA.mv X0.warmed.alike hh0, s1.there X0.warmed.alike hh0, hz, l0, by omega, l2, fun i hi => by rw [Nat.zero_add]; exact hp i hi⟩)
  have e0 := Got.mv _ s₁ s _ _ hh0.symm (Vm.Alike.refl _) rfl E3
  obtain rfl := e0.1
  have c4 : Steps p.tables e below (s₁.setTop (entryFrame m #[.ref a, .ref b] 2)) (T3.setTop (mkF m 9 #[.val (.ref a), .val (.ref b)] [])) := g3
  exact ⟨T3, none, _, _, _, X3, by simp, rfl, by omega, (fun _ => rfl), e0, fun fs hl => c4.trans (X3.returnOut hexec hret (hb hbytes d9) hl)⟩
theorem pays {l : Launch} {R : Room} {p : Program} {e : Env} {below : List Frame} {s : State} {sargs : Array Value} {len W : Nat} (a : Addr) (D : Cell) (fV fC : Field) (b : Addr) (A : Cell) (z : Int32) (htab : tab.before sargs s = true) (hfr : 4 ≤ R.frames) (hlo : W + 65 ≤ R.locals) :
    Back l R p e below s sargs yN len W (fun A₁ a₁ => A₁.cells + 1 ≤ R.cells ∧ A₁.slots + A.slots.size ≤ R.slots ∧ P a D fV fC b A z a₁ A₁.U) (fun A₁ _ v₁ B₁ => E a D fV fC A v₁ A₁.U B₁.U ∧ B₁.locs = A₁.locs ++ [⟨a, fC.slot⟩, ⟨a, fV.slot⟩] ∧ B₁.cells = A₁.cells + 1 ∧ B₁.slots = A₁.slots + A.slots.size) :=
  (law l a D fV fC b A z).pays htab hfr (by omega)
end New1
/-- the byte, read back as charAt reads it, is the char -/
theorem lo8_mask {x : Int32} (h0 : ¬ x < 0) (h1 : ¬ 255 < x) : lo8 x &&& 255 = x := by
  have t : ∀ k : Fin 256, lo8 (Int32.ofNat k.val) &&& 255 = Int32.ofNat k.val := by decide +kernel
  rw [Int32.lt_iff_toInt_lt] at h0 h1
  have e0 : (0 : Int32).toInt = 0 := rfl
  have e1 : (255 : Int32).toInt = 255 := rfl
  obtain ⟨k, hk⟩ : ∃ k : Nat, x.toInt = k := ⟨x.toInt.toNat, by omega⟩
  have hx : x = Int32.ofNat k := Int32.toInt_inj.mp (by rw [hk, Int32.toInt_ofNat_small (by omega)])
  rw [hx]
  exact t ⟨k, by omega⟩
end StrChars
namespace StrChars.Road
open Jvm Sem ClassFile Op Lib Jvm.Stand Jvm.Free Jvm.Free.XT
open Jvm.Lib.Cold (StaticIs)
abbrev ST : String := "java/lang/String"
/-- every table word that New1's law asks, flat -/
abbrev words : List Jvm.Cond := [.code New1.yN New1.yB 2 none, .initialized ST, .methodLink ST 27 New4.yN, .instanceMethod New4.yN,
  .code New4.yN New4.yB 6 none, .fieldLink ST 38 ST "COMPACT_STRINGS" "Z", .laysFinal ST ST "value" "[B", .fieldLink ST 9 ST "value" "[B", .laysFinal ST ST "coder" "B", .fieldLink ST 15 ST "coder" "B",
  .methodLink ST 1 Lib.objectInit, .instanceMethod Lib.objectInit, .code Lib.objectInit ⟨#[0xb1]⟩ 1 none, .methodLink ST 177 Cmp3.yN, .static Cmp3.yN, .methodLink ST 47 CodL.yN, .static CodL.yN,
  .code Cmp3.yN Cmp3.yB 6 (some (.array .byte)), .initialized U16, .arrayClass .byte, .methodLink U16 115 Cmp5.yN, .static Cmp5.yN, .code Cmp5.yN Cmp5.yB 7 (some .int), .code CodL.yN CodL.yB 2 (some .byte)]
theorem tab_of {a : Array Value} {s : State} (h : ∀ w ∈ words, w.before a s = true) : New1.tab.before a s = true := by
  have h5 : Cmp5.tab.before a s = true := unparts (wk h (.code Cmp5.yN Cmp5.yB 7 (some .int))) (wks h (.initialized Cmp5.yN.cls :: Cmp5.site))
  have hc : CodL.tab.before a s = true := unparts (wk h (.code CodL.yN CodL.yB 2 (some .byte))) (wks h (.initialized CodL.yN.cls :: CodL.site))
  have q5 : ∀ w ∈ Cmp5.tab :: words, w.before a s = true := fun w hw => (List.mem_cons.mp hw).elim (fun e => e ▸ h5) (h w)
  have h3 : Cmp3.tab.before a s = true := unparts (wk q5 (.code Cmp3.yN Cmp3.yB 6 (some (.array .byte)))) (wks q5 (.initialized Cmp3.yN.cls :: Cmp3.site))
  have q3 : ∀ w ∈ Cmp3.tab :: CodL.tab :: words, w.before a s = true := fun w hw => (List.mem_cons.mp hw).elim (fun e => e ▸ h3) fun hw => (List.mem_cons.mp hw).elim (fun e => e ▸ hc) (h w)
  have h4 : New4.tab.before a s = true := unparts (wk q3 (.code New4.yN New4.yB 6 none)) (wks q3 (.initialized New4.yN.cls :: New4.site))
  have q4 : ∀ w ∈ New4.tab :: words, w.before a s = true := fun w hw => (List.mem_cons.mp hw).elim (fun e => e ▸ h4) (h w)
  exact unparts (wk q4 (.code New1.yN New1.yB 2 none)) (wks q4 (.initialized New1.yN.cls :: New1.site))
/-- the words ride from the start Z to the walk's own state -/
theorem moved {Z s : State} {a0 args : Array Value} (hZ : Z.Warmed39 s.vm) (hw : ∀ d ∈ words, d.before a0 Z = true) : ∀ d ∈ words, d.before args s = true := fun d hd => by
  have q := hw d hd
  have t : ∀ d ∈ words, d = .arrayClass .byte ∨ (d.onTables && d.keepsFace) = true := by decide +kernel
  rcases t d hd with rfl | t
  · exact RoadKit.mvA hZ q
  · exact RoadKit.mv hZ q t
/-- WHAT COMES BACK, over the tables of the start Z: h the heap at the call, h' behind it -/
def Q (Z : State) (x : Addr) (A : Cell) (h : Heap) (v : Option Value) (h' : Heap) (L : List Loc) : Prop := v = none ∧ (∀ y ∈ L, y.base = x) ∧ RoadKit.Keep h h' [x] ∧ h'.size = h.size + 1 ∧ RoadKit.Exa Z h' x ST ∧ RoadKit.Fld Z h' x ST "value" "[B" (.ref h.size) ∧ RoadKit.Fld Z h' x ST "coder" "B" (.int 0) ∧
  (∃ V : Cell, RoadKit.Arr Z h' h.size V .byte ∧ V.vm = .none ∧ Z.vm.findClass "[B" = some V.cls ∧ V.slots.size = A.slots.size ∧ ∀ j, j < A.slots.size → V.slots[j]? = some (.int (lo8 (cv A j)))) ∧
  ∀ (O n d : String) (w : Value), RoadKit.Fld Z h x O n d w → RoadKit.slotOf Z O n d ≠ RoadKit.slotOf Z ST "value" "[B" → RoadKit.slotOf Z O n d ≠ RoadKit.slotOf Z ST "coder" "B" → RoadKit.Fld Z h' x O n d w
/-- **new String(chars) AT A CALL, IN THE ROAD'S FORM**: for specialBack behind newO: x the fresh String, b the char[] with the cell A -/
theorem back {p : Program} {l : Launch} {e : Env} {R : Room} {s : State} {args : Array Value} {below : List Frame} {len W : Nat} {Z : State} {a0 : Array Value} {h : Heap} (hZ : Z.Warmed39 s.vm) (hw : ∀ d ∈ words, d.before a0 Z = true) {kI : Nat} (wi : (Jvm.Cond.instantiable ST kI).before a0 Z = true)
    {x b : Addr} {A : Cell} {z : Int32} {v0 c0 : Value} (E : RoadKit.Exa Z h x ST) (V : RoadKit.Fld Z h x ST "value" "[B" v0) (C : RoadKit.Fld Z h x ST "coder" "B" c0) (K : RoadKit.Arr Z h b A .char) (hty : Typed .char A) (S : RoadKit.Sta Z h ST "COMPACT_STRINGS" "Z" (.int z)) (hz : ¬ z = 0)
    (l0 : 0 < A.slots.size) (l2 : A.slots.size ≤ 536870912) (hp : ∀ i, i < A.slots.size → ¬ 255 < cv A i) (hfr : 4 ≤ R.frames) (hlo : W + 65 ≤ R.locals) :
    Back l R p e below s args New1.yN len W (fun P a => a = #[.ref x, .ref b] ∧ P.U.heap = h ∧ P.cells + 1 ≤ R.cells ∧ P.slots + A.slots.size ≤ R.slots)
      (fun P _ v B => ∃ L, Q Z x A h v B.U.heap L ∧ B.locs = P.locs ++ L ∧ B.cells = P.cells + 1 ∧ B.slots = P.slots + A.slots.size) := by
  intro m meth c P g ig mk a X hg hsize hdg hW hn hp'
  obtain ⟨rfl, rfl, r1, r2⟩ := hp'
  have al : Z.vm.Alike P.U.vm := hZ.alike.trans X.warmed.alike
  obtain ⟨D, cfV, kV, iV, fV, hD, gV, stV, knV, obV, asV, slV⟩ := id V
  obtain ⟨D', cfC, kC, iC, fC, hD', gC, stC, -, -, asC, slC⟩ := id C
  cases hD.symm.trans hD'
  obtain ⟨D2, kD, e1, e2, e3, e4, e5⟩ := id E
  cases hD.symm.trans e1
  obtain ⟨c2, k2, i1, i2, i3, -⟩ := Cond.instantiable_spec wi
  cases e2.symm.trans i1
  cases e3.symm.trans i2
  obtain ⟨kU, u1, u2⟩ := al.2.2 _ _ e3
  have hB : Blank ST x D P.U := ⟨hD, ⟨knV, fun q hq => by rw [hq] at obV; cases obV⟩, by rw [al.findClass]; exact e2, kU, u1, by rw [u2]; exact i3, by rw [u2]; exact e5 i3⟩
  have F1 : Found ST "value" "[B" fV P.U := ⟨SBG.found_only al ⟨cfV, kV, iV, gV⟩, stV⟩
  have F2 : Found ST "coder" "B" fC P.U := ⟨SBG.found_only al ⟨cfC, kC, iC, gC⟩, stC⟩
  have hA : Ch b A P.U := ⟨⟨K.1, State.isArrayOf_alike al K.2.1, K.2.2, by omega⟩, hty⟩
  have hS : StaticIs P.U ST "COMPACT_STRINGS" "Z" (.int z) := by
    obtain ⟨cfS, iS, kS, fS, st, cS, t1, t2, t3, t4, t5, t6, t7⟩ := S
    exact StaticIs.there (s := { Z with heap := P.U.heap }) ⟨cfS, iS, kS, fS, st, cS, t1, t2, t3, t4, t5, (fun q => by rw [q] at t6; cases t6), t7⟩ al rfl
  obtain ⟨v, B, X', ⟨⟨hv, E', V', q1, q2, q3, q4, q5, q6, q7, q8, q9, q10, q11⟩, hl, hc, hs⟩, st⟩ := New1.pays x D fV fC b A z (tab_of (moved hZ hw)) hfr hlo m meth c P g ig mk _ X hg hsize hdg hW hn ⟨r1, r2, rfl, hB, F1, F2, hA, hS, hz, l0, l2, hp⟩
  have al' : Z.vm.Alike B.U.vm := hZ.alike.trans X'.warmed.alike
  have hsz : E'.slots.size = D.slots.size := by
    obtain ⟨-, -, -, kB, w1, w2, w3⟩ := q1
    obtain ⟨kB', y1, y2⟩ := al'.2.2 _ _ e3
    rw [q2.2.1] at w1
    cases w1.symm.trans y1
    rw [w3, e5 i3, y2]
  refine ⟨v, B, X', ⟨_, ⟨hv, ?_, ⟨by omega, fun y cy hy hn' => q10 y cy (by simpa using hn') hy, fun y cy hy => ?_⟩, q11, ⟨E', _, q1.1, by rw [q2.2.1]; exact e2, by rw [q2.2.1]; exact e3, by rw [q2.1]; exact obV, fun _ => by rw [hsz]; exact e5 i3⟩,
    ⟨E', cfV, kV, iV, fV, q1.1, gV, stV, by rw [q2.1]; exact knV, by rw [q2.1]; exact obV, by rw [q2.2.1]; exact asV, q3⟩, ⟨E', cfC, kC, iC, fC, q1.1, gC, stC, by rw [q2.1]; exact knV, by rw [q2.1]; exact obV, by rw [q2.2.1]; exact asC, q4⟩,
    ⟨V', ⟨q5.1, State.isArrayOf_alike al'.symm q5.2.1, q5.2.2.1⟩, q6, by rw [← al'.findClass]; exact q7, q8, fun j hj => by have := q9 j hj; rwa [Nat.zero_add] at this⟩, fun O n d w F n1 n2 => ?_⟩, hl, hc, hs⟩, st⟩
  · intro y hy
    simp only [List.mem_cons, List.not_mem_nil, or_false] at hy
    rcases hy with rfl | rfl <;> rfl
  · by_cases q : y = x
    · subst q
      cases hD.symm.trans hy
      exact ⟨E', q1.1, q2.2.1, q2.1, hsz⟩
    · exact ⟨cy, q10 y cy q hy, rfl, rfl, rfl⟩
  · obtain ⟨D3, cf, k, i, f, g1, g2, g3, g4, g5, g6, g7⟩ := F
    cases hD.symm.trans g1
    simp only [RoadKit.slotOf, g2, gV, gC, Option.map_some, Option.getD_some] at n1 n2
    exact ⟨E', cf, k, i, f, q1.1, g2, g3, by rw [q2.1]; exact g4, by rw [q2.1]; exact g5, by rw [q2.2.1]; exact g6, by rw [q2.2.2 f.slot (by simp [n1, n2])]; exact g7⟩
end StrChars.Road
namespace StrChars.Road
open Jvm Sem ClassFile Op Lib Jvm.Stand Jvm.Free Jvm.Free.XT
/-- WHAT COMES BACK, the byte[] as a list of values -/
def QA (Z : State) (x : Addr) (zn : Int32) (cs : List Int32) (h : Heap) (v : Option Value) (h' : Heap) (L : List Loc) : Prop := v = none ∧ (∀ y ∈ L, y.base = x) ∧ RoadKit.Keep h h' [x] ∧ h'.size = h.size + 1 ∧ RoadKit.Exa Z h' x ST ∧ RoadKit.Fld Z h' x ST "value" "[B" (.ref h.size) ∧ RoadKit.Fld Z h' x ST "coder" "B" (.int 0) ∧
  (∃ kb, Z.vm.findClass "[B" = some kb ∧ RoadKit.Arv Z h' h.size kb .byte zn (cs.map fun c => .int (lo8 c)) (.int 0)) ∧
  ∀ (O n d : String) (w : Value), RoadKit.Fld Z h x O n d w → RoadKit.slotOf Z O n d ≠ RoadKit.slotOf Z ST "value" "[B" → RoadKit.slotOf Z O n d ≠ RoadKit.slotOf Z ST "coder" "B" → RoadKit.Fld Z h' x O n d w
/-- **new String(chars) AT A CALL, THE ARRAYS AS LISTS**: the char[] at b holds cs, not empty, no char above 255 -/
theorem backArv {p : Program} {l : Launch} {e : Env} {R : Room} {s : State} {args : Array Value} {below : List Frame} {len W : Nat} {Z : State} {a0 : Array Value} {h : Heap} (hZ : Z.Warmed39 s.vm) (hw : ∀ d ∈ words, d.before a0 Z = true) {kI : Nat} (wi : (Jvm.Cond.instantiable ST kI).before a0 Z = true)
    {x b : Addr} {k : ClassId} {zn z : Int32} {cs : List Int32} {dv v0 c0 : Value} (E : RoadKit.Exa Z h x ST) (V : RoadKit.Fld Z h x ST "value" "[B" v0) (C : RoadKit.Fld Z h x ST "coder" "B" c0) (K : RoadKit.Arv Z h b k .char zn (cs.map Value.int) dv) (S : RoadKit.Sta Z h ST "COMPACT_STRINGS" "Z" (.int z)) (hz : ¬ z = 0)
    (hlen : zn.toNatClampNeg = cs.length) (h0 : 0 < cs.length) (hbig : cs.length ≤ 536870912) (hall : ∀ c ∈ cs, ¬ 255 < c) (hfr : 4 ≤ R.frames) (hlo : W + 65 ≤ R.locals) :
    Back l R p e below s args New1.yN len W (fun P a => a = #[.ref x, .ref b] ∧ P.U.heap = h ∧ P.cells + 1 ≤ R.cells ∧ P.slots + cs.length ≤ R.slots)
      (fun P _ v B => ∃ L, QA Z x zn cs h v B.U.heap L ∧ B.locs = P.locs ++ L ∧ B.cells = P.cells + 1 ∧ B.slots = P.slots + cs.length) := by
  obtain ⟨A, K1, K2, K3, K4, K5, K6⟩ := K
  have e : A.slots.size = cs.length := K3.trans hlen
  have hat : ∀ (i : Nat) (hi : i < cs.length), A.slots[i]? = some (.int cs[i]) := fun i hi => by rw [K5 i (by omega)]; simp [List.getD_eq_getElem?_getD, hi]
  have hcv : ∀ (i : Nat) (hi : i < cs.length), cv A i = cs[i] := fun i hi => by unfold cv; rw [hat i hi]
  have hty : Typed .char A := fun i v hv => by
    have hi : i < A.slots.size := (Array.getElem?_eq_some_iff.mp hv).1
    have q := K5 i hi
    rw [hv] at q
    rw [Option.some.inj q]
    exact K6 i hi
  refine Back.mono (back hZ hw wi E V C K1 hty S hz (by omega) (by omega) (fun i hi => by rw [hcv i (by omega)]; exact hall _ (List.getElem_mem _)) hfr hlo) (fun P a hp => ⟨hp.1, hp.2.1, hp.2.2.1, by rw [e]; exact hp.2.2.2⟩) (fun P a v B hp hq => ?_)
  obtain ⟨L, ⟨q1, q2, q3, q4, q5, q6, q7, ⟨V', v1, v2, v3, v4, v5⟩, q9⟩, hl, hc, hs⟩ := hq
  refine ⟨L, ⟨q1, q2, q3, q4, q5, q6, q7, ⟨V'.cls, v3, V', v1, rfl, by rw [v4, e, hlen], K4, fun i hi => ?_, fun i hi => ?_⟩, q9⟩, hl, hc, by rw [hs, e]⟩
  · have hi' : i < cs.length := by omega
    rw [v5 i (by omega), hcv i hi']; simp [List.getD_eq_getElem?_getD, hi']
  · have hi' : i < cs.length := by omega
    simp only [List.getD_eq_getElem?_getD, List.getElem?_map, List.getElem?_eq_getElem hi', Option.map_some, Option.getD_some]
    exact fits_lo8 _
end StrChars.Road
namespace StrChars.Road
open Jvm Sem ClassFile Op Lib Jvm.Stand Jvm.Free Jvm.Free.XT
/-- WHAT COMES BACK, in the writer's own shape -/
def QV (Z : State) (x : Addr) (N : Int32) (bs : List Int32) (h : Heap) (n0 : Nat) (v : Option Value) (h' : Heap) (L : List Loc) : Prop := v = none ∧ RoadKit.Fr n0 L ∧ RoadKit.Keep h h' [x] ∧ RoadKit.Exa Z h' x ST ∧ RoadKit.Fld Z h' x ST "coder" "B" (.int 0) ∧
  ∃ (t : Addr) (kb : ClassId), n0 ≤ t ∧ h.size ≤ t ∧ ¬ t = x ∧ RoadKit.Fld Z h' x ST "value" "[B" (.ref t) ∧ RoadKit.Arv Z h' t kb .byte N (bs.map Value.int) (.int 0)
/-- **new String(chars) AT A CALL, FOR THE WRITER**: a char[] of n known ints, each 0 to 255 -/
theorem backV {p : Program} {l : Launch} {e : Env} {R : Room} {s : State} {args : Array Value} {below : List Frame} {len W : Nat} {Z : State} {a0 : Array Value} {h : Heap} (hZ : Z.Warmed39 s.vm) (hw : ∀ d ∈ words, d.before a0 Z = true) {kI : Nat} (wi : (Jvm.Cond.instantiable ST kI).before a0 Z = true)
    {x b : Addr} {kC : ClassId} {cs bs : List Int32} {d v0 c0 : Value} {z N : Int32} {n n0 : Nat} (hx0 : n0 ≤ x) (hh0 : n0 ≤ h.size) (E : RoadKit.Exa Z h x ST) (V : RoadKit.Fld Z h x ST "value" "[B" v0) (C : RoadKit.Fld Z h x ST "coder" "B" c0) (K : RoadKit.Arv Z h b kC .char N (cs.map Value.int) d) (S : RoadKit.Sta Z h ST "COMPACT_STRINGS" "Z" (.int z)) (hz : ¬ z = 0)
    (hn : cs.length = n) (hN : N = Int32.ofNat n) (l0 : 0 < n) (l2 : n ≤ 4000) (hp : ∀ c ∈ cs, ¬ c < 0 ∧ ¬ (255 : Int32) < c) (hb : bs = cs.map (fun c => c.toInt8.toInt32)) (hfr : 4 ≤ R.frames) (hlo : W + 65 ≤ R.locals) :
    Back l R p e below s args (⟨"java/lang/String", "<init>", "([C)V"⟩ : MethodName) len W (fun P a => a = #[.ref x, .ref b] ∧ P.U.heap = h ∧ P.cells + 1 ≤ R.cells ∧ P.slots + n ≤ R.slots)
      (fun P _ v B => ∃ L, QV Z x N bs h n0 v B.U.heap L ∧ B.locs = P.locs ++ L ∧ B.cells = P.cells + 1 ∧ B.slots = P.slots + n) := by
  subst hn hN hb
  refine Back.mono (backArv hZ hw wi E V C K S hz (n32 (by omega)) l0 (by omega) (fun c hc => (hp c hc).2) hfr hlo) (fun P a hp => hp) (fun P a v B hp hq => ?_)
  obtain ⟨L, ⟨q1, q2, q3, q4, q5, q6, q7, ⟨kb, v1, v2⟩, q9⟩, hl, hc, hs⟩ := hq
  exact ⟨L, ⟨q1, fun y hy => by rw [q2 y hy]; exact hx0, q3, q5, q7, h.size, kb, hh0, Nat.le_refl _, Nat.ne_of_gt E.lt, q6, by rw [List.map_map]; exact v2⟩, hl, hc, hs⟩
end StrChars.Road
namespace StrChars
open Jvm Sem ClassFile Op Lib Jvm.Stand Jvm.Free.XT Jvm.Free.ALB Jvm.Free.JM Jvm.Free
open Jvm.Lib.Cold (StaticIs)
def hi8 (x : Int32) : Int32 := lo8 (x >>> ((8 : Int32) &&& 31))
/-- what StringUTF16.getChar makes of two bytes -/
def pairCh (u v : Int32) : Int32 := (((u &&& 255) <<< ((0 : Int32) &&& 31)) ||| ((v &&& 255) <<< ((8 : Int32) &&& 31))).toUInt32.toUInt16.toUInt32.toInt32
theorem shr0 (c : Int32) : c >>> ((0 : Int32) &&& 31) = c := by
  have e : ((0 : Int32) &&& 31) = 0 := by decide
  rw [e]
  apply Int32.toBitVec_inj.mp
  rw [Int32.toBitVec_shiftRight]
  have e1 : ((0 : Int32).toBitVec.smod 32) = 0#32 := by decide
  rw [e1, BitVec.sshiftRight_eq']
  exact BitVec.sshiftRight_zero
theorem lo8_and (x : Int32) : (lo8 x &&& 255).toBitVec.toNat = x.toBitVec.toNat % 256 := by
  have h : (lo8 x).toBitVec = (x.toBitVec.signExtend 8).signExtend 32 := by rw [lo8, Int8.toBitVec_toInt32, Int32.toBitVec_toInt8]
  rw [Int32.toBitVec_and, BitVec.toNat_and, h]
  have e : ((x.toBitVec.signExtend 8).signExtend 32).toNat % 256 = x.toBitVec.toNat % 256 := by
    rw [BitVec.toNat_signExtend]
    have hlt := x.toBitVec.isLt
    simp only [BitVec.toNat_setWidth, BitVec.toNat_signExtend]
    split <;> split <;> omega
  rw [← e]
  exact Nat.and_two_pow_sub_one_eq_mod _ 8
theorem pair_says {c : Int32} (h0 : ¬ c < 0) (h1 : ¬ 65535 < c) : pairCh (lo8 c) (hi8 c) = c := by
  rw [Int32.lt_iff_toInt_lt] at h0 h1
  have e0 : (0 : Int32).toInt = 0 := rfl
  have e1 : (65535 : Int32).toInt = 65535 := rfl
  have hc : c.toInt = c.toBitVec.toNat := by
    have := c.toBitVec.isLt
    have e : c.toInt = c.toBitVec.toInt := rfl
    rw [e] at h0 h1
    rw [e]
    rw [BitVec.toInt_eq_toNat_cond] at h0 h1 ⊢
    split at h0 <;> split <;> omega
  have hn : c.toBitVec.toNat < 65536 := by omega
  have a1 := lo8_and c
  have a2 : (hi8 c &&& 255).toBitVec.toNat = c.toBitVec.toNat / 256 := by
    rw [hi8, lo8_and]
    have e : ((8 : Int32) &&& 31) = 8 := by decide
    rw [e, Int32.toBitVec_shiftRight]
    have e2 : ((8 : Int32).toBitVec.smod 32) = 8#32 := by decide
    rw [e2, BitVec.sshiftRight_eq', BitVec.toNat_sshiftRight_of_msb_false (by rw [BitVec.msb_eq_false_iff_two_mul_lt]; omega)]
    show c.toBitVec.toNat >>> 8 % 256 = _
    rw [Nat.shiftRight_eq_div_pow]
    omega
  unfold pairCh
  apply Int32.toBitVec_inj.mp
  apply BitVec.eq_of_toNat_eq
  have f0 : ((0 : Int32) &&& 31) = 0 := by decide
  have f8 : ((8 : Int32) &&& 31) = 8 := by decide
  rw [f0, f8]
  have g : (((lo8 c &&& 255) <<< (0 : Int32)) ||| ((hi8 c &&& 255) <<< (8 : Int32))).toBitVec.toNat = c.toBitVec.toNat := by
    rw [Int32.toBitVec_or, Int32.toBitVec_shiftLeft, Int32.toBitVec_shiftLeft]
    have s0 : ((0 : Int32).toBitVec.smod 32) = 0#32 := by decide
    have s8 : ((8 : Int32).toBitVec.smod 32) = 8#32 := by decide
    rw [s0, s8, BitVec.toNat_or]
    simp only [BitVec.shiftLeft_eq', BitVec.toNat_shiftLeft, a1, a2]
    show (c.toBitVec.toNat % 256) <<< 0 % 2 ^ 32 ||| (c.toBitVec.toNat / 256) <<< 8 % 2 ^ 32 = _
    rw [Nat.shiftLeft_zero, Nat.mod_eq_of_lt (show c.toBitVec.toNat % 256 < 2 ^ 32 by omega), Nat.mod_eq_of_lt (show (c.toBitVec.toNat / 256) <<< 8 < 2 ^ 32 by rw [Nat.shiftLeft_eq]; omega), Nat.or_comm, ← Nat.shiftLeft_add_eq_or_of_lt (by omega), Nat.shiftLeft_eq]
    omega
  show BitVec.toNat (((((lo8 c &&& 255) <<< (0 : Int32)) ||| ((hi8 c &&& 255) <<< (8 : Int32))).toBitVec.setWidth 16).setWidth 32) = _
  rw [BitVec.toNat_setWidth, BitVec.toNat_setWidth, g]
  omega
end StrChars
namespace StrChars
open Jvm Sem ClassFile Op Lib Jvm.Stand Jvm.Free.XT Jvm.Free.ALB Jvm.Free.JM Jvm.Free
open Jvm.Lib.Cold (StaticIs)
theorem shr1 {n : Nat} (h : 2 * n < 2 ^ 31) : Int32.ofNat (2 * n) >>> ((1 : Int32) &&& 31) = Int32.ofNat n := by
  have e : ((1 : Int32) &&& 31) = 1 := by decide
  rw [e]
  apply Int32.toBitVec_inj.mp
  rw [Int32.toBitVec_shiftRight]
  have e1 : ((1 : Int32).toBitVec.smod 32) = 1#32 := by decide
  have hm : (BitVec.ofNat 32 (2 * n)).toNat = 2 * n := by rw [BitVec.toNat_ofNat, Nat.mod_eq_of_lt (by omega)]
  rw [e1, BitVec.sshiftRight_eq']
  apply BitVec.eq_of_toNat_eq
  show ((BitVec.ofNat 32 (2 * n)).sshiftRight 1).toNat = (BitVec.ofNat 32 n).toNat
  rw [BitVec.toNat_sshiftRight_of_msb_false (by rw [BitVec.msb_eq_false_iff_two_mul_lt, hm]; omega), hm, BitVec.toNat_ofNat, Nat.shiftRight_eq_div_pow]
  omega
/-- charAt's cast of a byte read back -/
def chr8 (u : Int32) : Int32 := (u &&& 255).toUInt32.toUInt16.toUInt32.toInt32
theorem chr8_lo8 {c : Int32} (h0 : ¬ c < 0) (h1 : ¬ 255 < c) : chr8 (lo8 c) = c := by
  have t : ∀ k : Fin 256, (Int32.ofNat k.val).toUInt32.toUInt16.toUInt32.toInt32 = Int32.ofNat k.val := by decide +kernel
  unfold chr8
  rw [lo8_mask h0 h1]
  rw [Int32.lt_iff_toInt_lt] at h0 h1
  have e0 : (0 : Int32).toInt = 0 := rfl
  have e1 : (255 : Int32).toInt = 255 := rfl
  obtain ⟨k, hk⟩ : ∃ k : Nat, c.toInt = k := ⟨c.toInt.toNat, by omega⟩
  have hx : c = Int32.ofNat k := Int32.toInt_inj.mp (by rw [hk, Int32.toInt_ofNat_small (by omega)])
  rw [hx]
  exact t ⟨k, by omega⟩
theorem narrow_ch {c : Int32} (h0 : ¬ c < 0) (h1 : ¬ 65535 < c) : narrow .char (.int c) = .int c := by
  have q : narrow .char (.int (pairCh (lo8 c) (hi8 c))) = .int (pairCh (lo8 c) (hi8 c)) := narrow_c _
  rwa [pair_says h0 h1] at q
/-- the array's cell V codes the n chars f 0 .. f (n - 1) by the coder cd, as the JDK does: coder 1 just where some char is above 255 -/
def Cod (cd : Int32) (n : Nat) (f : Nat → Int32) (V : Cell) : Prop := (cd = 0 ∧ V.slots.size = n ∧ ∀ j, j < n → V.slots[j]? = some (.int (lo8 (f j))) ∧ ¬ 255 < f j) ∨ (cd = 1 ∧ V.slots.size = 2 * n ∧ (∀ j, j < n → V.slots[2 * j]? = some (.int (lo8 (f j))) ∧ V.slots[2 * j + 1]? = some (.int (hi8 (f j)))) ∧ ∃ j, j < n ∧ 255 < f j)
theorem Cod.cd {cd : Int32} {n : Nat} {f : Nat → Int32} {V : Cell} (h : Cod cd n f V) : cd = 0 ∨ cd = 1 := h.imp (fun q => q.1) fun q => q.1
theorem Cod.len {cd : Int32} {n : Nat} {f : Nat → Int32} {V : Cell} (h : Cod cd n f V) (hs : V.slots.size < 2 ^ 31) : Int32.ofNat V.slots.size >>> (cd &&& 31) = Int32.ofNat n := by
  rcases h with ⟨rfl, h, -⟩ | ⟨rfl, h, -⟩
  · rw [shr0, h]
  · rw [h, shr1 (by omega)]
/-- **x is a String of the n chars f 0 .. f (n - 1)**, Latin-1 or UTF-16; its array at t has the cell V -/
def Txt (x t : Addr) (V : Cell) (cd : Int32) (n : Nat) (f : Nat → Int32) (U : State) : Prop := Exact "java/lang/String" x U ∧ Has x "java/lang/String" "value" "[B" (.ref t) U ∧ Has x "java/lang/String" "coder" "B" (.int cd) U ∧ XT.Arr .byte t V U ∧ Cod cd n f V ∧ ∀ j, j < n → ¬ f j < 0 ∧ ¬ 65535 < f j
theorem Txt.mv {x t : Addr} {V : Cell} {cd : Int32} {n : Nat} {f : Nat → Int32} {U U' : State} (h : Txt x t V cd n f U) (hal : U.vm.Alike U'.vm) (hh : U'.heap = U.heap) : Txt x t V cd n f U' := ⟨h.1.mv hal hh, h.2.1.mv hal hh, h.2.2.1.mv hal hh, h.2.2.2.1.mv hal hh, h.2.2.2.2⟩
namespace Cdr
def yN : MethodName := ⟨"java/lang/String", "coder", "()B"⟩
abbrev yB : ByteArray := jdk_42_method_152_code
theorem d0 : decode yB 0 = .ok (.getstatic 38, 3) := by decide +kernel
theorem d3 : decode yB 3 = .ok (.ifCond (.eq) 10, 3) := by decide +kernel
theorem d6 : decode yB 6 = .ok (.aload_n 0, 1) := by decide +kernel
theorem d7 : decode yB 7 = .ok (.getfield 15, 3) := by decide +kernel
theorem d10 : decode yB 10 = .ok (.goto 4, 3) := by decide +kernel
theorem d14 : decode yB 14 = .ok (.ireturn, 1) := by decide +kernel
def site : List Cond := [.fieldLink "java/lang/String" 38 "java/lang/String" "COMPACT_STRINGS" "Z", .fieldLink "java/lang/String" 15 "java/lang/String" "coder" "B"]
def tab : Cond := tabOf yN yB 1 (some .byte) site
def P (x : Addr) (cd z : Int32) (args : Array Value) (s : State) : Prop := args = #[.ref x] ∧ Has x "java/lang/String" "coder" "B" (.int cd) s ∧ (cd = 0 ∨ cd = 1) ∧ StaticIs s "java/lang/String" "COMPACT_STRINGS" "Z" (.int z) ∧ ¬ z = 0
def E (cd : Int32) (r : Option Value) (s u : State) : Prop := XT.PureE (some (.int cd)) r s u
theorem law (l : Launch) (x : Addr) (cd z : Int32) : Law l yN 1 0 0 0 yB 1 (some .byte) site (P x cd z) (E cd) [] 0 0 := by
  refine Law.of_walk (plainFor_of_name (by decide +kernel)) (by decide +kernel) (by decide +kernel) (by decide) (fun _ _ h => by rw [h.1]; rfl) (fun _ U U' hal hh h => ⟨h.1, h.2.1.mv hal hh, h.2.2.1, h.2.2.2.1.there hal hh, h.2.2.2.2⟩) (fun r U U' V V' h1 hal h2 h => XT.PureE.mv r U U' V V' h1 hal h2 h) ?_
  intro p e s m args below meth c s₁ X0 hexec hbytes hml hret hlk hnm hown hh0 W hP
  obtain ⟨rfl, hx, hc, s1, hz⟩ := hP
  have c1 : Steps p.tables e below (s₁.setTop (entryFrame m #[.ref x] 1)) (s₁.setTop (mkF m 0 #[.val (.ref x)] [])) := entry rfl
  obtain ⟨T2, X2, q2, st2⟩ := X0.sget hexec hown (wk W (.fieldLink "java/lang/String" 38 "java/lang/String" "COMPACT_STRINGS" "Z")) s1 (fun _ _ h => by rw [hh0]; exact h) (g := (mkF m 0 #[.val (.ref x)] [])) rfl (hb hbytes d0)
  have hh2 := q2.trans hh0
  have c3 : Steps p.tables e below (s₁.setTop (entryFrame m #[.ref x] 1)) (T2.setTop (mkF m 7 #[.val (.ref x)] [.ref x])) := (c1.trans (st2 _ (Steps.refl _))).trans (by
    refine XS.ifNo X2.here hexec rfl (hb hbytes d3) rfl (i0_eq_f hz) ?_
    refine XS.aloadN X2.here hexec rfl (hb hbytes d6) rfl rfl ?_
    exact Steps.refl _)
  obtain ⟨T4, X4, q4, st4⟩ := X2.hget hexec hown (wk W (.fieldLink "java/lang/String" 15 "java/lang/String" "coder" "B")) (hx.mv X2.warmed.alike hh2) (g := (mkF m 7 #[.val (.ref x)] [.ref x])) rfl (rest := []) rfl (hb hbytes d7)
  have c5 : Steps p.tables e below (s₁.setTop (entryFrame m #[.ref x] 1)) (T4.setTop (mkF m 14 #[.val (.ref x)] [.int cd])) := (c3.trans (st4 _ (Steps.refl _))).trans (by
    refine XS.goto X4.here hexec rfl (pc0 := 10) rfl (hb hbytes d10) (by decide) rfl ?_
    exact Steps.refl _)
  exact ⟨T4, some (.int cd), _, _, _, X4, rfl, rfl, rfl, (fun h => by cases h), ⟨rfl, q4.trans hh2⟩, fun fs hl => c5.trans (X4.ireturnOut hexec hret (by rcases hc with rfl | rfl <;> rfl) (Or.inr (Or.inr (Or.inl rfl))) (hb hbytes d14) hl)⟩
end Cdr
namespace Len
def yN : MethodName := ⟨"java/lang/String", "length", "()I"⟩
abbrev yB : ByteArray := jdk_42_method_54_code
theorem d0 : decode yB 0 = .ok (.aload_n 0, 1) := by decide +kernel
theorem d1 : decode yB 1 = .ok (.getfield 9, 3) := by decide +kernel
theorem d4 : decode yB 4 = .ok (.arraylength, 1) := by decide +kernel
theorem d5 : decode yB 5 = .ok (.aload_n 0, 1) := by decide +kernel
theorem d6 : decode yB 6 = .ok (.invokevirtual 335, 3) := by decide +kernel
theorem d9 : decode yB 9 = .ok (.ishr, 1) := by decide +kernel
theorem d10 : decode yB 10 = .ok (.ireturn, 1) := by decide +kernel
def site : List Cond := [.fieldLink "java/lang/String" 9 "java/lang/String" "value" "[B", Cdr.tab] ++ virtW "java/lang/String" 335 "java/lang/String" Cdr.yN Cdr.yN
def tab : Cond := tabOf yN yB 1 (some .int) site
def P (x t : Addr) (V : Cell) (cd : Int32) (n : Nat) (f : Nat → Int32) (z : Int32) (args : Array Value) (s : State) : Prop := args = #[.ref x] ∧ Txt x t V cd n f s ∧ StaticIs s "java/lang/String" "COMPACT_STRINGS" "Z" (.int z) ∧ ¬ z = 0
def E (n : Nat) (r : Option Value) (s u : State) : Prop := XT.PureE (some (.int (Int32.ofNat n))) r s u
/-- length() of a String of n chars, in either coding -/
theorem law (l : Launch) (x t : Addr) (V : Cell) (cd : Int32) (n : Nat) (f : Nat → Int32) (z : Int32) : Law l yN 1 0 1 13 yB 1 (some .int) site (P x t V cd n f z) (E n) [] 0 0 := by
  refine Law.of_walk (plainFor_of_name (by decide +kernel)) (by decide +kernel) (by decide +kernel) (by decide) (fun _ _ h => by rw [h.1]; rfl) (fun _ U U' hal hh h => ⟨h.1, h.2.1.mv hal hh, h.2.2.1.there hal hh, h.2.2.2⟩) (fun r U U' V V' h1 hal h2 h => XT.PureE.mv r U U' V V' h1 hal h2 h) ?_
  intro p e s m args below meth c s₁ X0 hexec hbytes hml hret hlk hnm hown hh0 W hP
  obtain ⟨rfl, hx, s1, hz⟩ := hP
  have v31 := hx.2.2.2.1.2.2.2
  have c1 : Steps p.tables e below (s₁.setTop (entryFrame m #[.ref x] 1)) (s₁.setTop (mkF m 1 #[.val (.ref x)] [.ref x])) := Steps.trans (entry rfl) (by
    show Steps p.tables e below (s₁.setTop (mkF m 0 #[.val (.ref x)] [])) _
    refine XS.aloadN X0.here hexec rfl (hb hbytes d0) rfl rfl ?_
    exact Steps.refl _)
  obtain ⟨T2, X2, q2, st2⟩ := X0.hget hexec hown (wk W (.fieldLink "java/lang/String" 9 "java/lang/String" "value" "[B")) (hx.mv X0.warmed.alike hh0).2.1 (g := (mkF m 1 #[.val (.ref x)] [.ref x])) rfl (rest := []) rfl (hb hbytes d1)
  have hh2 := q2.trans hh0
  have hx2 := hx.mv X2.warmed.alike hh2
  have c3 : Steps p.tables e below (s₁.setTop (entryFrame m #[.ref x] 1)) (T2.setTop (mkF m 6 #[.val (.ref x)] [.ref x, .int (Int32.ofNat V.slots.size)])) := (c1.trans (st2 _ (Steps.refl _))).trans (by
    refine X2.alen hexec hx2.2.2.2.1 rfl rfl (hb hbytes d4) ?_
    refine XS.aloadN X2.here hexec rfl (hb hbytes d5) rfl rfl ?_
    exact Steps.refl _)
  obtain ⟨v4, T4, X4, E4, g4⟩ := X2.callV hexec (Cdr.law l x cd z) hown (wks W (virtW "java/lang/String" 335 "java/lang/String" Cdr.yN Cdr.yN)) rfl (by decide) (wk W Cdr.tab) (W := 1) (Nat.le_of_ble_eq_true rfl) (Nat.le_of_ble_eq_true rfl) (Nat.le_refl _) (Nat.le_refl _) (hx2.1.fc X2.warmed.alike) hx2.1.is (g := (mkF m 6 #[.val (.ref x)] [.ref x, .int (Int32.ofNat V.slots.size)])) rfl (by rw [hml]; rfl) c3 (argsL := []) (rest := [.int (Int32.ofNat V.slots.size)]) rfl rfl (by show 2 * 0 + (1 + 0) ≤ _; decide) (hb hbytes d6) (⟨rfl, hx2.2.2.1, hx.2.2.2.2.1.cd, s1.there X2.warmed.alike hh2, hz⟩)
  obtain ⟨rfl, q4⟩ := E4
  have c5 : Steps p.tables e below (s₁.setTop (entryFrame m #[.ref x] 1)) (T4.setTop (mkF m 10 #[.val (.ref x)] [.int (Int32.ofNat V.slots.size >>> (cd &&& 31))])) := Steps.trans g4 (by
    refine ishr X4.here hexec rfl (hb hbytes d9) rfl ?_
    exact Steps.refl _)
  rw [hx.2.2.2.2.1.len v31] at c5
  exact ⟨T4, some (.int (Int32.ofNat n)), _, _, _, X4, rfl, rfl, rfl, (fun h => by cases h), ⟨rfl, q4.trans hh2⟩, fun fs hl => c5.trans (X4.ireturnOut hexec hret rfl (Or.inl rfl) (hb hbytes d10) hl)⟩
theorem pays {l : Launch} {R : Room} {p : Program} {e : Env} {below : List Frame} {s : State} {sargs : Array Value} {len W : Nat} (x t : Addr) (V : Cell) (cd : Int32) (n : Nat) (f : Nat → Int32) (z : Int32) (htab : tab.before sargs s = true) (hfr : 2 ≤ R.frames) (hlo : W + 25 ≤ R.locals) :
    Back l R p e below s sargs yN len W (fun A₁ a₁ => A₁.cells + 0 ≤ R.cells ∧ A₁.slots + 0 ≤ R.slots ∧ P x t V cd n f z a₁ A₁.U) (fun A₁ _ v₁ B₁ => E n v₁ A₁.U B₁.U ∧ B₁.locs = A₁.locs ++ [] ∧ B₁.cells = A₁.cells + 0 ∧ B₁.slots = A₁.slots + 0) :=
  (law l x t V cd n f z).pays htab hfr (by omega)
end Len
namespace IsL
def yN : MethodName := ⟨"java/lang/String", "isLatin1", "()Z"⟩
abbrev yB : ByteArray := jdk_42_method_154_code
theorem d0 : decode yB 0 = .ok (.getstatic 38, 3) := by decide +kernel
theorem d3 : decode yB 3 = .ok (.ifCond (.eq) 14, 3) := by decide +kernel
theorem d6 : decode yB 6 = .ok (.aload_n 0, 1) := by decide +kernel
theorem d7 : decode yB 7 = .ok (.getfield 15, 3) := by decide +kernel
theorem d10 : decode yB 10 = .ok (.ifCond (.ne) 7, 3) := by decide +kernel
theorem d13 : decode yB 13 = .ok (.iconst 1, 1) := by decide +kernel
theorem d14 : decode yB 14 = .ok (.goto 4, 3) := by decide +kernel
theorem d17 : decode yB 17 = .ok (.iconst 0, 1) := by decide +kernel
theorem d18 : decode yB 18 = .ok (.ireturn, 1) := by decide +kernel
def site : List Cond := [.fieldLink "java/lang/String" 38 "java/lang/String" "COMPACT_STRINGS" "Z", .fieldLink "java/lang/String" 15 "java/lang/String" "coder" "B"]
def tab : Cond := tabOf yN yB 1 (some .boolean) site
def P (x : Addr) (cd z : Int32) (args : Array Value) (s : State) : Prop := args = #[.ref x] ∧ Has x "java/lang/String" "coder" "B" (.int cd) s ∧ (cd = 0 ∨ cd = 1) ∧ StaticIs s "java/lang/String" "COMPACT_STRINGS" "Z" (.int z) ∧ ¬ z = 0
def E (cd : Int32) (r : Option Value) (s u : State) : Prop := XT.PureE (some (.int (1 - cd))) r s u
theorem law (l : Launch) (x : Addr) (cd z : Int32) : Law l yN 1 0 0 0 yB 1 (some .boolean) site (P x cd z) (E cd) [] 0 0 := by
  refine Law.of_walk (plainFor_of_name (by decide +kernel)) (by decide +kernel) (by decide +kernel) (by decide) (fun _ _ h => by rw [h.1]; rfl) (fun _ U U' hal hh h => ⟨h.1, h.2.1.mv hal hh, h.2.2.1, h.2.2.2.1.there hal hh, h.2.2.2.2⟩) (fun r U U' V V' h1 hal h2 h => XT.PureE.mv r U U' V V' h1 hal h2 h) ?_
  intro p e s m args below meth c s₁ X0 hexec hbytes hml hret hlk hnm hown hh0 W hP
  obtain ⟨rfl, hx, hc, s1, hz⟩ := hP
  have c1 : Steps p.tables e below (s₁.setTop (entryFrame m #[.ref x] 1)) (s₁.setTop (mkF m 0 #[.val (.ref x)] [])) := entry rfl
  obtain ⟨T2, X2, q2, st2⟩ := X0.sget hexec hown (wk W (.fieldLink "java/lang/String" 38 "java/lang/String" "COMPACT_STRINGS" "Z")) s1 (fun _ _ h => by rw [hh0]; exact h) (g := (mkF m 0 #[.val (.ref x)] [])) rfl (hb hbytes d0)
  have hh2 := q2.trans hh0
  have c3 : Steps p.tables e below (s₁.setTop (entryFrame m #[.ref x] 1)) (T2.setTop (mkF m 7 #[.val (.ref x)] [.ref x])) := (c1.trans (st2 _ (Steps.refl _))).trans (by
    refine XS.ifNo X2.here hexec rfl (hb hbytes d3) rfl (i0_eq_f hz) ?_
    refine XS.aloadN X2.here hexec rfl (hb hbytes d6) rfl rfl ?_
    exact Steps.refl _)
  obtain ⟨T4, X4, q4, st4⟩ := X2.hget hexec hown (wk W (.fieldLink "java/lang/String" 15 "java/lang/String" "coder" "B")) (hx.mv X2.warmed.alike hh2) (g := (mkF m 7 #[.val (.ref x)] [.ref x])) rfl (rest := []) rfl (hb hbytes d7)
  have c5 : Steps p.tables e below (s₁.setTop (entryFrame m #[.ref x] 1)) (T4.setTop (mkF m 10 #[.val (.ref x)] [.int cd])) := c3.trans (st4 _ (Steps.refl _))
  have c6 : Steps p.tables e below (s₁.setTop (entryFrame m #[.ref x] 1)) (T4.setTop (mkF m 18 #[.val (.ref x)] [.int (1 - cd)])) := by
    rcases hc with rfl | rfl
    · exact c5.trans (by
        refine XS.ifNo X4.here hexec rfl (hb hbytes d10) rfl (i0_ne_f rfl) ?_
        refine iconstV X4.here hexec rfl 1 (hb hbytes d13) (by decide) ?_
        refine XS.goto X4.here hexec rfl (pc0 := 14) rfl (hb hbytes d14) (by decide) rfl ?_
        exact Steps.refl _)
    · exact c5.trans (by
        refine XS.ifYes X4.here hexec rfl (pc0 := 10) rfl (hb hbytes d10) rfl (i0_ne_t (by decide)) (by decide) rfl ?_
        refine iconstV X4.here hexec rfl 0 (hb hbytes d17) (by decide) ?_
        exact Steps.refl _)
  exact ⟨T4, some (.int (1 - cd)), _, _, _, X4, rfl, rfl, rfl, (fun h => by cases h), ⟨rfl, q4.trans hh2⟩, fun fs hl => c6.trans (X4.ireturnOut hexec hret (by rcases hc with rfl | rfl <;> rfl) (Or.inr (Or.inl rfl)) (hb hbytes d18) hl)⟩
end IsL
namespace LChA
def yN : MethodName := ⟨"java/lang/StringLatin1", "charAt", "([BI)C"⟩
abbrev yB : ByteArray := jdk_43_method_2_code
theorem d0 : decode yB 0 = .ok (.iload_n 1, 1) := by decide +kernel
theorem d1 : decode yB 1 = .ok (.aload_n 0, 1) := by decide +kernel
theorem d2 : decode yB 2 = .ok (.arraylength, 1) := by decide +kernel
theorem d3 : decode yB 3 = .ok (.invokestatic 9, 3) := by decide +kernel
theorem d6 : decode yB 6 = .ok (.aload_n 0, 1) := by decide +kernel
theorem d7 : decode yB 7 = .ok (.iload_n 1, 1) := by decide +kernel
theorem d8 : decode yB 8 = .ok (.baload, 1) := by decide +kernel
theorem d9 : decode yB 9 = .ok (.sipush 255, 3) := by decide +kernel
theorem d12 : decode yB 12 = .ok (.iand, 1) := by decide +kernel
theorem d13 : decode yB 13 = .ok (.i2c, 1) := by decide +kernel
theorem d14 : decode yB 14 = .ok (.ireturn, 1) := by decide +kernel
def site : List Cond := [JO.Str_checkIndex.tab] ++ staticW "java/lang/StringLatin1" 9 JO.Str_checkIndex.yN
def tab : Cond := tabOf yN yB 2 (some .char) site
def P (t : Addr) (V : Cell) (i : Nat) (u : Int32) (fm : Value) (args : Array Value) (s : State) : Prop := args = #[.ref t, .int (Int32.ofNat i)] ∧ XT.Arr .byte t V s ∧ V.slots[i]? = some (.int u) ∧ (StaticIs s "jdk/internal/util/Preconditions" "SIOOBE_FORMATTER" "Ljava/util/function/BiFunction;" fm ∧ fm.isRef = true)
def E (u : Int32) (r : Option Value) (s w : State) : Prop := XT.PureE (some (.int (chr8 u))) r s w
theorem law (l : Launch) (t : Addr) (V : Cell) (i : Nat) (u : Int32) (fm : Value) : Law l yN 2 2 2 27 yB 2 (some .char) site (P t V i u fm) (E u) [] 0 0 := by
  refine Law.of_walk (plainFor_of_name (by decide +kernel)) (by decide +kernel) (by decide +kernel) (by decide) (fun _ _ h => by rw [h.1]; rfl) (fun _ U U' hal hh h => ⟨h.1, h.2.1.mv hal hh, h.2.2.1, h.2.2.2.1.there hal hh, h.2.2.2.2⟩) (fun r U U' V V' h1 hal h2 h => XT.PureE.mv r U U' V V' h1 hal h2 h) ?_
  intro p e s m args below meth c s₁ X0 hexec hbytes hml hret hlk hnm hown hh0 W hP
  obtain ⟨rfl, hV, hu, s1, rf⟩ := hP
  have v31 := hV.2.2.2
  have hi : i < V.slots.size := (Array.getElem?_eq_some_iff.mp hu).1
  have c1 : Steps p.tables e below (s₁.setTop (entryFrame m #[.ref t, .int (Int32.ofNat i)] 2)) (s₁.setTop (mkF m 0 #[.val (.ref t), .val (.int (Int32.ofNat i))] [])) := entry rfl
  have c2 : Steps p.tables e below (s₁.setTop (entryFrame m #[.ref t, .int (Int32.ofNat i)] 2)) (s₁.setTop (mkF m 3 #[.val (.ref t), .val (.int (Int32.ofNat i))] [.int (Int32.ofNat V.slots.size), .int (Int32.ofNat i)])) := c1.trans (by
    refine XS.iloadN X0.here hexec rfl (hb hbytes d0) rfl ?_
    refine XS.aloadN X0.here hexec rfl (hb hbytes d1) rfl rfl ?_
    refine X0.alen hexec (hV.mv X0.warmed.alike hh0) rfl rfl (hb hbytes d2) ?_
    exact Steps.refl _)
  obtain ⟨v3, T3, X3, E3, g3⟩ := X0.callS hexec (JO.Str_checkIndex.law l (Int32.ofNat i) (Int32.ofNat V.slots.size) fm) hown (wks W (staticW "java/lang/StringLatin1" 9 JO.Str_checkIndex.yN)) (wk W JO.Str_checkIndex.tab) (W := 0) (Nat.le_of_ble_eq_true rfl) (Nat.le_of_ble_eq_true rfl) (Nat.le_refl _) (Nat.le_refl _) (g := (mkF m 3 #[.val (.ref t), .val (.int (Int32.ofNat i))] [.int (Int32.ofNat V.slots.size), .int (Int32.ofNat i)])) rfl (by rw [hml]; rfl) c2 (argsL := [.int (Int32.ofNat i), .int (Int32.ofNat V.slots.size)]) (rest := []) rfl rfl (by show 2 * 0 + 0 ≤ _; decide) (hb hbytes d3) (⟨rfl, rf, s1.there X0.warmed.alike hh0, Int32.ofNat_not_neg (by omega), lt32 v31 hi⟩)
  obtain ⟨rfl, q3⟩ := E3
  have hh3 := q3.trans hh0
  have c4 : Steps p.tables e below (s₁.setTop (entryFrame m #[.ref t, .int (Int32.ofNat i)] 2)) (T3.setTop (mkF m 14 #[.val (.ref t), .val (.int (Int32.ofNat i))] [.int (chr8 u)])) := Steps.trans g3 (by
    refine XS.aloadN X3.here hexec rfl (hb hbytes d6) rfl rfl ?_
    refine XS.iloadN X3.here hexec rfl (hb hbytes d7) rfl ?_
    refine X3.aget hexec (hV.mv X3.warmed.alike hh3) rfl hu rfl rfl (hb hbytes d8) ?_
    refine sipushV X3.here hexec rfl 255 (hb hbytes d9) (by decide) ?_
    refine XS.iand X3.here hexec rfl (hb hbytes d12) rfl ?_
    refine i2c X3.here hexec rfl (hb hbytes d13) rfl ?_
    exact Steps.refl _)
  exact ⟨T3, some (.int (chr8 u)), _, _, _, X3, rfl, rfl, rfl, (fun h => by cases h), ⟨rfl, hh3⟩, fun fs hl => c4.trans (X3.ireturnOut hexec hret (narrow_c _) (Or.inr (Or.inr (Or.inr (Or.inl rfl)))) (hb hbytes d14) hl)⟩
end LChA
end StrChars
namespace StrChars.Road
open Jvm Sem ClassFile Op Lib Jvm.Stand Jvm.Free Jvm.Free.XT
open Jvm.Lib.Cold (StaticIs)
theorem consq {a : Array Value} {s : State} {c : Jvm.Cond} {L : List Jvm.Cond} (h0 : c.before a s = true) (h : ∀ w ∈ L, w.before a s = true) : ∀ w ∈ c :: L, w.before a s = true := fun w hw => (List.mem_cons.mp hw).elim (fun e => e ▸ h0) (h w)
/-- the words of String.length(), either coding -/
abbrev wordsLen : List Jvm.Cond := [.code Len.yN Len.yB 1 (some .int), .initialized ST, .fieldLink ST 9 ST "value" "[B", .fieldLink ST 38 ST "COMPACT_STRINGS" "Z", .fieldLink ST 15 ST "coder" "B", .code Cdr.yN Cdr.yB 1 (some .byte), .methodLink ST 335 Cdr.yN, .declares Cdr.yN, .selects ST Cdr.yN Cdr.yN, .instanceMethod Cdr.yN]
theorem tabLen_of {a : Array Value} {s : State} (h : ∀ w ∈ wordsLen, w.before a s = true) : Len.tab.before a s = true := by
  have hc : Cdr.tab.before a s = true := unparts (wk h (.code Cdr.yN Cdr.yB 1 (some .byte))) (wks h (.initialized Cdr.yN.cls :: Cdr.site))
  have q := consq hc h
  exact unparts (wk q (.code Len.yN Len.yB 1 (some .int))) (wks q (.initialized Len.yN.cls :: Len.site))
theorem movedLen {Z s : State} {a0 args : Array Value} (hZ : Z.Warmed39 s.vm) (hw : ∀ d ∈ wordsLen, d.before a0 Z = true) : ∀ d ∈ wordsLen, d.before args s = true := fun d hd => by
  have q := hw d hd
  have t : ∀ d ∈ wordsLen, d = .arrayClass .byte ∨ (d.onTables && d.keepsFace) = true := by decide +kernel
  rcases t d hd with rfl | t
  · exact RoadKit.mvA hZ q
  · exact RoadKit.mv hZ q t
/-- the bytes of the chars cs, low before high -/
def wideBytes : List Int32 → List Value
  | [] => []
  | c :: cs => .int (lo8 c) :: .int (hi8 c) :: wideBytes cs
theorem wide_lo (d : Value) : ∀ (cs : List Int32) (j : Nat), j < cs.length → (wideBytes cs).getD (2 * j) d = .int (lo8 (cs.getD j 0))
  | [], j, h => absurd h (Nat.not_lt_zero j)
  | c :: cs, 0, _ => rfl
  | c :: cs, j + 1, h => by
    have q := wide_lo d cs j (by simpa using h)
    rw [show 2 * (j + 1) = 2 * j + 1 + 1 from by omega]
    simpa [wideBytes] using q
theorem wide_hi (d : Value) : ∀ (cs : List Int32) (j : Nat), j < cs.length → (wideBytes cs).getD (2 * j + 1) d = .int (hi8 (cs.getD j 0))
  | [], j, h => absurd h (Nat.not_lt_zero j)
  | c :: cs, 0, _ => rfl
  | c :: cs, j + 1, h => by
    have q := wide_hi d cs j (by simpa using h)
    rw [show 2 * (j + 1) + 1 = 2 * j + 1 + 1 + 1 from by omega]
    simpa [wideBytes] using q
theorem low_at (d : Value) (cs : List Int32) (j : Nat) (h : j < cs.length) : (cs.map fun c => Value.int (lo8 c)).getD j d = .int (lo8 (cs.getD j 0)) := by
  simp [List.getD_eq_getElem?_getD, h]
/-- an array of N2 bytes vs codes the chars cs by the coder cd -/
def CodA (cs : List Int32) (cd N2 : Int32) (vs : List Value) : Prop := (cd = 0 ∧ N2 = Int32.ofNat cs.length ∧ vs = (cs.map fun c => Value.int (lo8 c)) ∧ ∀ c ∈ cs, ¬ 255 < c) ∨ (cd = 1 ∧ N2 = Int32.ofNat (2 * cs.length) ∧ vs = wideBytes cs ∧ ∃ c ∈ cs, 255 < c)
theorem CodA.cod {cs : List Int32} {cd N2 : Int32} {vs : List Value} {V : Cell} (h : CodA cs cd N2 vs) (hn : 2 * cs.length < 2 ^ 31) (hs : V.slots.size = N2.toNatClampNeg) (hv : RoadKit.Has V vs (.int 0)) : Cod cd cs.length (fun j => cs.getD j 0) V := by
  rcases h with ⟨rfl, rfl, rfl, h⟩ | ⟨rfl, rfl, rfl, c, hc, hw⟩
  · rw [n32 (by omega)] at hs
    exact Or.inl ⟨rfl, hs, fun j hj => ⟨by rw [hv j (by omega), low_at _ _ _ hj], by
      have e : cs.getD j 0 = cs[j] := by simp [List.getD_eq_getElem?_getD, hj]
      show ¬ 255 < cs.getD j 0
      rw [e]; exact h _ (List.getElem_mem _)⟩⟩
  · rw [n32 (by omega)] at hs
    obtain ⟨j, hj, rfl⟩ := List.getElem_of_mem hc
    exact Or.inr ⟨rfl, hs, fun j hj => ⟨by rw [hv _ (by omega), wide_lo _ _ _ hj], by rw [hv _ (by omega), wide_hi _ _ _ hj]⟩, j, hj, by
      have e : cs.getD j 0 = cs[j] := by simp [List.getD_eq_getElem?_getD, hj]
      show 255 < cs.getD j 0
      rw [e]; exact hw⟩
/-- an object of exactly java/lang/String, its two fields found: as the laws ask it -/
theorem strObj {Z U : State} {a0 : Array Value} {kI : Nat} (wi : (Jvm.Cond.instantiable ST kI).before a0 Z = true) (al : Z.vm.Alike U.vm) {x : Addr} {v0 c0 : Value} (E : RoadKit.Exa Z U.heap x ST) (V : RoadKit.Fld Z U.heap x ST "value" "[B" v0) (C : RoadKit.Fld Z U.heap x ST "coder" "B" c0) :
    ∃ (D : Cell) (fV fC : Field), Blank ST x D U ∧ Found ST "value" "[B" fV U ∧ Found ST "coder" "B" fC U ∧ D.slots[fV.slot]? = some v0 ∧ D.slots[fC.slot]? = some c0 ∧ RoadKit.slotOf Z ST "value" "[B" = fV.slot ∧ RoadKit.slotOf Z ST "coder" "B" = fC.slot := by
  obtain ⟨D, cfV, kV, iV, fV, hD, gV, stV, knV, obV, asV, slV⟩ := V
  obtain ⟨D', cfC, kC, iC, fC, hD', gC, stC, -, -, asC, slC⟩ := C
  cases hD.symm.trans hD'
  obtain ⟨D2, kD, e1, e2, e3, e4, e5⟩ := E
  cases hD.symm.trans e1
  obtain ⟨c2, k2, i1, i2, i3, -⟩ := Cond.instantiable_spec wi
  cases e2.symm.trans i1
  cases e3.symm.trans i2
  obtain ⟨kU, u1, u2⟩ := al.2.2 _ _ e3
  exact ⟨D, fV, fC, ⟨hD, ⟨knV, fun q hq => by rw [hq] at obV; cases obV⟩, by rw [al.findClass]; exact e2, kU, u1, by rw [u2]; exact i3, by rw [u2]; exact e5 i3⟩, ⟨SBG.found_only al ⟨cfV, kV, iV, gV⟩, stV⟩, ⟨SBG.found_only al ⟨cfC, kC, iC, gC⟩, stC⟩, slV, slC, by simp [RoadKit.slotOf, gV], by simp [RoadKit.slotOf, gC]⟩
theorem sta_is {Z U : State} (al : Z.vm.Alike U.vm) {C n d : String} {v : Value} (S : RoadKit.Sta Z U.heap C n d v) : StaticIs U C n d v := by
  obtain ⟨cfS, iS, kS, fS, st, cS, t1, t2, t3, t4, t5, t6, t7⟩ := S
  exact StaticIs.there (s := { Z with heap := U.heap }) ⟨cfS, iS, kS, fS, st, cS, t1, t2, t3, t4, t5, (fun q => by rw [q] at t6; cases t6), t7⟩ al rfl
/-- **length() OF SUCH A STRING** -/
theorem lenW {p : Program} {l : Launch} {e : Env} {R : Room} {s : State} {args : Array Value} {below : List Frame} {len W : Nat} {Z : State} {a0 : Array Value} {h : Heap} (hZ : Z.Warmed39 s.vm) (hw : ∀ d ∈ wordsLen, d.before a0 Z = true) {kI : Nat} (wi : (Jvm.Cond.instantiable ST kI).before a0 Z = true)
    {x t : Addr} {kb : ClassId} {cs : List Int32} {cd N2 z : Int32} {vs : List Value} (E : RoadKit.Exa Z h x ST) (V : RoadKit.Fld Z h x ST "value" "[B" (.ref t)) (C : RoadKit.Fld Z h x ST "coder" "B" (.int cd)) (K : RoadKit.Arv Z h t kb .byte N2 vs (.int 0)) (hc : CodA cs cd N2 vs) (hb : ∀ c ∈ cs, ¬ c < 0 ∧ ¬ (65535 : Int32) < c)
    (S : RoadKit.Sta Z h ST "COMPACT_STRINGS" "Z" (.int z)) (hz : ¬ z = 0) (l2 : cs.length ≤ 4000) (hfr : 2 ≤ R.frames) (hlo : W + 25 ≤ R.locals) :
    Back l R p e below s args (⟨"java/lang/String", "length", "()I"⟩ : MethodName) len W (fun P a => a = #[.ref x] ∧ P.U.heap = h ∧ P.cells + 0 ≤ R.cells ∧ P.slots + 0 ≤ R.slots)
      (fun P _ v B => ∃ L, (v = some (.int (Int32.ofNat cs.length)) ∧ L = [] ∧ B.U.heap = h) ∧ B.locs = P.locs ++ L ∧ B.cells = P.cells + 0 ∧ B.slots = P.slots + 0) := by
  obtain ⟨A, K1, K2, K3, K4, K5, K6⟩ := K
  have hcod := hc.cod (by omega) K3 K5
  intro m meth c P g ig mk a X hg hsize hdg hW hn hp'
  obtain ⟨rfl, rfl, r1, r2⟩ := hp'
  have al : Z.vm.Alike P.U.vm := hZ.alike.trans X.warmed.alike
  obtain ⟨D, fV, fC, hB, F1, F2, g1, g2, -, -⟩ := strObj wi al E V C
  have hx : Txt x t A cd cs.length (fun j => cs.getD j 0) P.U := ⟨⟨_, hB.2.2.1, D, hB.1, rfl, by cases q : D.vm <;> first | rfl | exact absurd q (hB.2.1.2 _)⟩, Has.of hB F1 g1, Has.of hB F2 g2, ⟨K1.1, State.isArrayOf_alike al K1.2.1, K1.2.2, by rcases hcod with ⟨-, q, -⟩ | ⟨-, q, -⟩ <;> omega⟩, hcod, fun j hj => by
    have e : cs.getD j 0 = cs[j] := by simp [List.getD_eq_getElem?_getD, hj]
    show ¬ cs.getD j 0 < 0 ∧ ¬ 65535 < cs.getD j 0
    rw [e]; exact hb _ (List.getElem_mem _)⟩
  obtain ⟨v, B, X', ⟨⟨hv, hh⟩, hl, hk, hs⟩, st⟩ := Len.pays x t A cd cs.length (fun j => cs.getD j 0) z (tabLen_of (movedLen hZ hw)) hfr hlo m meth c P g ig mk _ X hg hsize hdg hW hn ⟨r1, r2, rfl, hx, sta_is al S, hz⟩
  exact ⟨v, B, X', ⟨[], ⟨hv, rfl, hh⟩, hl, hk, hs⟩, st⟩
end StrChars.Road
namespace StrChars.Road
open Jvm Sem ClassFile Op Lib Jvm.Stand Jvm.Free Jvm.Free.XT
open Jvm.Lib.Cold (StaticIs)
/-- the road's facts of a String, as the laws ask it -/
theorem txt_of {Z U : State} {a0 : Array Value} {kI : Nat} (wi : (Jvm.Cond.instantiable ST kI).before a0 Z = true) (al : Z.vm.Alike U.vm) {x t : Addr} {kb : ClassId} {cs : List Int32} {cd N2 : Int32} {vs : List Value} (E : RoadKit.Exa Z U.heap x ST) (V : RoadKit.Fld Z U.heap x ST "value" "[B" (.ref t)) (C : RoadKit.Fld Z U.heap x ST "coder" "B" (.int cd)) (K : RoadKit.Arv Z U.heap t kb .byte N2 vs (.int 0)) (hc : CodA cs cd N2 vs) (hb : ∀ c ∈ cs, ¬ c < 0 ∧ ¬ (65535 : Int32) < c) (l2 : cs.length ≤ 4000) :
    ∃ A, Txt x t A cd cs.length (fun j => cs.getD j 0) U := by
  obtain ⟨A, K1, K2, K3, K4, K5, K6⟩ := K
  have hcod := hc.cod (by omega) K3 K5
  obtain ⟨D, fV, fC, hB, F1, F2, g1, g2, -, -⟩ := strObj wi al E V C
  exact ⟨A, ⟨_, hB.2.2.1, D, hB.1, rfl, by cases q : D.vm <;> first | rfl | exact absurd q (hB.2.1.2 _)⟩, Has.of hB F1 g1, Has.of hB F2 g2, ⟨K1.1, State.isArrayOf_alike al K1.2.1, K1.2.2, by rcases hcod with ⟨-, q, -⟩ | ⟨-, q, -⟩ <;> omega⟩, hcod, fun j hj => by
    have e : cs.getD j 0 = cs[j] := by simp [List.getD_eq_getElem?_getD, hj]
    show ¬ cs.getD j 0 < 0 ∧ ¬ 65535 < cs.getD j 0
    rw [e]; exact hb _ (List.getElem_mem _)⟩
end StrChars.Road
namespace StrChars
open Jvm Sem ClassFile Op Lib Jvm.Stand Jvm.Free.XT Jvm.Free.ALB Jvm.Free.JM Jvm.Free
open Jvm.Lib.Cold (StaticIs)
namespace ChN
def yN : MethodName := ⟨"java/lang/String", "charAt", "(I)C"⟩
abbrev yB : ByteArray := jdk_42_method_56_code
theorem d0 : decode yB 0 = .ok (.aload_n 0, 1) := by decide +kernel
theorem d1 : decode yB 1 = .ok (.invokevirtual 492, 3) := by decide +kernel
theorem d4 : decode yB 4 = .ok (.ifCond (.eq) 12, 3) := by decide +kernel
theorem d7 : decode yB 7 = .ok (.aload_n 0, 1) := by decide +kernel
theorem d8 : decode yB 8 = .ok (.getfield 9, 3) := by decide +kernel
theorem d11 : decode yB 11 = .ok (.iload_n 1, 1) := by decide +kernel
theorem d12 : decode yB 12 = .ok (.invokestatic 495, 3) := by decide +kernel
theorem d15 : decode yB 15 = .ok (.ireturn, 1) := by decide +kernel
def site : List Cond := [.fieldLink "java/lang/String" 9 "java/lang/String" "value" "[B", IsL.tab, LChA.tab] ++ virtW "java/lang/String" 492 "java/lang/String" IsL.yN IsL.yN ++ staticW "java/lang/String" 495 LChA.yN
def tab : Cond := tabOf yN yB 2 (some .char) site
def P (x t : Addr) (V : Cell) (n : Nat) (f : Nat → Int32) (z : Int32) (fm : Value) (i : Nat) (args : Array Value) (s : State) : Prop := args = #[.ref x, .int (Int32.ofNat i)] ∧ Txt x t V 0 n f s ∧ i < n ∧ StaticIs s "java/lang/String" "COMPACT_STRINGS" "Z" (.int z) ∧ ¬ z = 0 ∧ StaticIs s "jdk/internal/util/Preconditions" "SIOOBE_FORMATTER" "Ljava/util/function/BiFunction;" fm ∧ fm.isRef = true
def E (f : Nat → Int32) (i : Nat) (r : Option Value) (s u : State) : Prop := XT.PureE (some (.int (f i))) r s u
/-- charAt(i) of a Latin-1 String of n chars, i < n: f i -/
theorem law (l : Launch) (x t : Addr) (V : Cell) (n : Nat) (f : Nat → Int32) (z : Int32) (fm : Value) (i : Nat) : Law l yN 2 1 3 40 yB 2 (some .char) site (P x t V n f z fm i) (E f i) [] 0 0 := by
  refine Law.of_walk (plainFor_of_name (by decide +kernel)) (by decide +kernel) (by decide +kernel) (by decide) (fun _ _ h => by rw [h.1]; rfl) (fun _ U U' hal hh h => ⟨h.1, h.2.1.mv hal hh, h.2.2.1, h.2.2.2.1.there hal hh, h.2.2.2.2.1, h.2.2.2.2.2.1.there hal hh, h.2.2.2.2.2.2⟩) (fun r U U' V V' h1 hal h2 h => XT.PureE.mv r U U' V V' h1 hal h2 h) ?_
  intro p e s m args below meth c s₁ X0 hexec hbytes hml hret hlk hnm hown hh0 W hP
  obtain ⟨rfl, hx, hi, s1, hz, s3, rf⟩ := hP
  have v31 := hx.2.2.2.1.2.2.2
  have hr := hx.2.2.2.2.2 i hi
  have hx0 := hx.mv X0.warmed.alike hh0
  have c1 : Steps p.tables e below (s₁.setTop (entryFrame m #[.ref x, .int (Int32.ofNat i)] 2)) (s₁.setTop (mkF m 1 #[.val (.ref x), .val (.int (Int32.ofNat i))] [.ref x])) := Steps.trans (entry rfl) (by
    show Steps p.tables e below (s₁.setTop (mkF m 0 #[.val (.ref x), .val (.int (Int32.ofNat i))] [])) _
    refine XS.aloadN X0.here hexec rfl (hb hbytes d0) rfl rfl ?_
    exact Steps.refl _)
  obtain ⟨v2, T2, X2, E2, g2⟩ := X0.callV hexec (IsL.law l x 0 z) hown (wks W (virtW "java/lang/String" 492 "java/lang/String" IsL.yN IsL.yN)) rfl (by decide) (wk W IsL.tab) (W := 0) (Nat.le_of_ble_eq_true rfl) (Nat.le_of_ble_eq_true rfl) (Nat.le_refl _) (Nat.le_refl _) (hx0.1.fc X0.warmed.alike) hx0.1.is (g := (mkF m 1 #[.val (.ref x), .val (.int (Int32.ofNat i))] [.ref x])) rfl (by rw [hml]; rfl) c1 (argsL := []) (rest := []) rfl rfl (by show 2 * 0 + 0 ≤ _; decide) (hb hbytes d1) (⟨rfl, hx0.2.2.1, hx.2.2.2.2.1.cd, s1.there X0.warmed.alike hh0, hz⟩)
  obtain ⟨rfl, q2⟩ := E2
  have hh2 := q2.trans hh0
  have hx2 := hx.mv X2.warmed.alike hh2
  obtain ⟨-, k1, k2⟩ | ⟨k0, -⟩ := hx.2.2.2.2.1
  · have c3 : Steps p.tables e below (s₁.setTop (entryFrame m #[.ref x, .int (Int32.ofNat i)] 2)) (T2.setTop (mkF m 8 #[.val (.ref x), .val (.int (Int32.ofNat i))] [.ref x])) := Steps.trans g2 (by
      refine XS.ifNo X2.here hexec rfl (hb hbytes d4) rfl (i0_eq_f (by decide)) ?_
      refine XS.aloadN X2.here hexec rfl (hb hbytes d7) rfl rfl ?_
      exact Steps.refl _)
    obtain ⟨T4, X4, q4, st4⟩ := X2.hget hexec hown (wk W (.fieldLink "java/lang/String" 9 "java/lang/String" "value" "[B")) hx2.2.1 (g := (mkF m 8 #[.val (.ref x), .val (.int (Int32.ofNat i))] [.ref x])) rfl (rest := []) rfl (hb hbytes d8)
    have hh4 := q4.trans hh2
    have c5 : Steps p.tables e below (s₁.setTop (entryFrame m #[.ref x, .int (Int32.ofNat i)] 2)) (T4.setTop (mkF m 12 #[.val (.ref x), .val (.int (Int32.ofNat i))] [.int (Int32.ofNat i), .ref t])) := (c3.trans (st4 _ (Steps.refl _))).trans (by
      refine XS.iloadN X4.here hexec rfl (hb hbytes d11) rfl ?_
      exact Steps.refl _)
    obtain ⟨v6, T6, X6, E6, g6⟩ := X4.callS hexec (LChA.law l t V i (lo8 (f i)) fm) hown (wks W (staticW "java/lang/String" 495 LChA.yN)) (wk W LChA.tab) (W := 0) (Nat.le_of_ble_eq_true rfl) (Nat.le_of_ble_eq_true rfl) (Nat.le_refl _) (Nat.le_refl _) (g := (mkF m 12 #[.val (.ref x), .val (.int (Int32.ofNat i))] [.int (Int32.ofNat i), .ref t])) rfl (by rw [hml]; rfl) c5 (argsL := [.ref t, .int (Int32.ofNat i)]) (rest := []) rfl rfl (by show 2 * 0 + 0 ≤ _; decide) (hb hbytes d12) (⟨rfl, hx.2.2.2.1.mv X4.warmed.alike hh4, (k2 i hi).1, s3.there X4.warmed.alike hh4, rf⟩)
    obtain ⟨rfl, q6⟩ := E6
    rw [chr8_lo8 hr.1 (k2 i hi).2] at g6
    exact ⟨T6, some (.int (f i)), _, _, _, X6, rfl, rfl, rfl, (fun h => by cases h), ⟨rfl, q6.trans hh4⟩, fun fs hl => Steps.trans g6 (X6.ireturnOut hexec hret (narrow_ch hr.1 hr.2) (Or.inr (Or.inr (Or.inr (Or.inl rfl)))) (hb hbytes d15) hl)⟩
  · exact absurd k0 (by decide)
theorem pays {l : Launch} {R : Room} {p : Program} {e : Env} {below : List Frame} {s : State} {sargs : Array Value} {len W : Nat} (x t : Addr) (V : Cell) (n : Nat) (f : Nat → Int32) (z : Int32) (fm : Value) (i : Nat) (htab : tab.before sargs s = true) (hfr : 4 ≤ R.frames) (hlo : W + 53 ≤ R.locals) :
    Back l R p e below s sargs yN len W (fun A₁ a₁ => A₁.cells + 0 ≤ R.cells ∧ A₁.slots + 0 ≤ R.slots ∧ P x t V n f z fm i a₁ A₁.U) (fun A₁ _ v₁ B₁ => E f i v₁ A₁.U B₁.U ∧ B₁.locs = A₁.locs ++ [] ∧ B₁.cells = A₁.cells + 0 ∧ B₁.slots = A₁.slots + 0) :=
  (law l x t V n f z fm i).pays htab hfr (by omega)
end ChN
end StrChars
namespace StrChars.Road
open Jvm Sem ClassFile Op Lib Jvm.Stand Jvm.Free Jvm.Free.XT
open Jvm.Lib.Cold (StaticIs)
/-- the words of String.charAt(int), the Latin-1 road alone -/
abbrev wordsChN : List Jvm.Cond := [.code ChN.yN ChN.yB 2 (some .char), .initialized ST, .fieldLink ST 9 ST "value" "[B", .fieldLink ST 38 ST "COMPACT_STRINGS" "Z", .fieldLink ST 15 ST "coder" "B", .code IsL.yN IsL.yB 1 (some .boolean), .methodLink ST 492 IsL.yN, .declares IsL.yN, .selects ST IsL.yN IsL.yN, .instanceMethod IsL.yN,
  .methodLink ST 495 LChA.yN, .static LChA.yN, .code LChA.yN LChA.yB 2 (some .char), .initialized "java/lang/StringLatin1", .methodLink "java/lang/StringLatin1" 9 JO.Str_checkIndex.yN, .static JO.Str_checkIndex.yN, .code JO.Str_checkIndex.yN JO.Str_checkIndex.yB 2 none,
  .fieldLink ST 1053 "jdk/internal/util/Preconditions" "SIOOBE_FORMATTER" "Ljava/util/function/BiFunction;", .methodLink ST 1059 JC.PreCheck.yN, .static JC.PreCheck.yN, .code JC.PreCheck.yN JC.PreCheck.yB 3 (some .int), .initialized "jdk/internal/util/Preconditions"]
theorem tabChN_of {a : Array Value} {s : State} (h : ∀ w ∈ wordsChN, w.before a s = true) : ChN.tab.before a s = true := by
  have hp : JC.PreCheck.tab.before a s = true := unparts (wk h (.code JC.PreCheck.yN JC.PreCheck.yB 3 (some .int))) (wks h (.initialized JC.PreCheck.yN.cls :: JC.PreCheck.site))
  have qk := consq hp h
  have hk : JO.Str_checkIndex.tab.before a s = true := unparts (wk qk (.code JO.Str_checkIndex.yN JO.Str_checkIndex.yB 2 none)) (wks qk (.initialized JO.Str_checkIndex.yN.cls :: JO.Str_checkIndex.site))
  have ql := consq hk h
  have hl : LChA.tab.before a s = true := unparts (wk ql (.code LChA.yN LChA.yB 2 (some .char))) (wks ql (.initialized LChA.yN.cls :: LChA.site))
  have hi : IsL.tab.before a s = true := unparts (wk h (.code IsL.yN IsL.yB 1 (some .boolean))) (wks h (.initialized IsL.yN.cls :: IsL.site))
  have q := consq hi (consq hl h)
  exact unparts (wk q (.code ChN.yN ChN.yB 2 (some .char))) (wks q (.initialized ChN.yN.cls :: ChN.site))
theorem movedChN {Z s : State} {a0 args : Array Value} (hZ : Z.Warmed39 s.vm) (hw : ∀ d ∈ wordsChN, d.before a0 Z = true) : ∀ d ∈ wordsChN, d.before args s = true := fun d hd => by
  have t : ∀ d ∈ wordsChN, (d.onTables && d.keepsFace) = true := by decide +kernel
  exact RoadKit.mv hZ (hw d hd) (t d hd)
/-- **charAt(i) OF A LATIN-1 STRING**, i < n: the char -/
theorem chN {p : Program} {l : Launch} {e : Env} {R : Room} {s : State} {args : Array Value} {below : List Frame} {len W : Nat} {Z : State} {a0 : Array Value} {h : Heap} (hZ : Z.Warmed39 s.vm) (hw : ∀ d ∈ wordsChN, d.before a0 Z = true) {kI : Nat} (wi : (Jvm.Cond.instantiable ST kI).before a0 Z = true)
    {x t : Addr} {kb : ClassId} {cs : List Int32} {N2 z : Int32} {vs : List Value} {fm : Value} {i : Nat} {j : Int32} (E : RoadKit.Exa Z h x ST) (V : RoadKit.Fld Z h x ST "value" "[B" (.ref t)) (C : RoadKit.Fld Z h x ST "coder" "B" (.int 0)) (K : RoadKit.Arv Z h t kb .byte N2 vs (.int 0)) (hc : CodA cs 0 N2 vs) (hb : ∀ c ∈ cs, ¬ c < 0 ∧ ¬ (65535 : Int32) < c)
    (S : RoadKit.Sta Z h ST "COMPACT_STRINGS" "Z" (.int z)) (hz : ¬ z = 0) (F : RoadKit.Sta Z h "jdk/internal/util/Preconditions" "SIOOBE_FORMATTER" "Ljava/util/function/BiFunction;" fm) (rf : fm.isRef = true) (l2 : cs.length ≤ 4000) (hi : i < cs.length) (hj : j = Int32.ofNat i) (hfr : 4 ≤ R.frames) (hlo : W + 53 ≤ R.locals) :
    Back l R p e below s args (⟨"java/lang/String", "charAt", "(I)C"⟩ : MethodName) len W (fun P a => a = #[.ref x, .int j] ∧ P.U.heap = h ∧ P.cells + 0 ≤ R.cells ∧ P.slots + 0 ≤ R.slots)
      (fun P _ v B => ∃ L, (v = some (.int (cs.getD i 0)) ∧ L = [] ∧ B.U.heap = h) ∧ B.locs = P.locs ++ L ∧ B.cells = P.cells + 0 ∧ B.slots = P.slots + 0) := by
  subst hj
  intro m meth c P g ig mk a X hg hsize hdg hW hn hp'
  obtain ⟨rfl, rfl, r1, r2⟩ := hp'
  have al : Z.vm.Alike P.U.vm := hZ.alike.trans X.warmed.alike
  obtain ⟨A, hx⟩ := txt_of wi al E V C K hc hb l2
  obtain ⟨v, B, X', ⟨⟨hv, hh⟩, hl, hk, hs⟩, st⟩ := ChN.pays x t A cs.length (fun j => cs.getD j 0) z fm i (tabChN_of (movedChN hZ hw)) hfr hlo m meth c P g ig mk _ X hg hsize hdg hW hn ⟨r1, r2, rfl, hx, hi, sta_is al S, hz, sta_is al F, rf⟩
  exact ⟨v, B, X', ⟨[], ⟨hv, rfl, hh⟩, hl, hk, hs⟩, st⟩
/-- what backV says of its String, as the contracts of this text ask it: cs's low bytes, coder 0 -/
theorem codOf {cs : List Int32} {n : Nat} (hn : cs.length = n) (hb : ∀ c ∈ cs, ¬ 255 < c) : CodA cs 0 (Int32.ofNat n) ((cs.map lo8).map Value.int) := Or.inl ⟨rfl, by rw [hn], by simp [List.map_map, Function.comp_def], hb⟩
end StrChars.Road
end Jvm.Pilot.@@N@@
namespace Jvm.Pilot.@@N@@
open Jvm Jvm.ClassFile Sem Op Lib Jvm.Free Jvm.Stand Jvm.LawKit Jvm.RoadKit Bundle Jvm.Pilot.@@N@@.Jvm.D
open Jvm.Free.XT (ushr ushrL cmpL)

section OwnKit
variable {p : Program} {l : Launch} {e : Env} {R : Room} {s : State} {m : MethodId} {args : Array Value} {below : List Frame} {meth : Method} {c : Code} {Z : State} {h0 : Heap} {ws ws' : List Addr} {own nm : String} {bytes : ByteArray} {maxL : Nat} {ret : Option FieldType} {kc ks : Nat} {Q : Option Value → Heap → Prop} {Φ : Outcome → State → Prop} {h : Heap} {cells slots pc pc' : Nat} {Ls Ls' : Array Slot} {st st' rest : List Value} {a0 : Array Value}
/-- what a walk knows of its own method -/
def Cx (p : Program) (s : State) (m : MethodId) (meth : Method) (c : Code) (Z : State) (h0 : Heap) (ws : List Addr) (own nm : String) (bytes : ByteArray) (maxL : Nat) (ret : Option FieldType) : Prop :=
  p.tables.exec = Jvm.exec ∧ Z.Warmed39 s.vm ∧ s.vm.findClass own = some m.cls ∧ c.code = bytes ∧ c.maxLocals = maxL ∧ meth.sig.returnType = ret ∧ meth.locks = false ∧ meth.name = nm ∧ s.heap = h0 ∧ Ext Z.heap h0 ∧ ∀ x ∈ ws, Z.heap.size ≤ x
/-- every place written lies in a cell of ws or in one made since -/
def Lw (k : Nat) (ws : List Addr) (L : List Loc) : Prop := ∀ y ∈ L, y.base ∈ ws ∨ k ≤ y.base
theorem Lw.app {k : Nat} {L L' : List Loc} (N : Lw k ws L) (N' : Lw k ws L') : Lw k ws (L ++ L') := fun y q => (List.mem_append.mp q).elim (N y) (N' y)
theorem Lw.nil {k : Nat} : Lw k ws [] := fun _ q => nomatch q
theorem Lw.one {k : Nat} {a : Addr} {i : Nat} (q : a ∈ ws ∨ k ≤ a) : Lw k ws [⟨a, i⟩] := fun y hy => by cases List.mem_singleton.mp hy; exact q
/-- from every state that stands at pc with this heap the walk comes to a good return -/
def G (p : Program) (l : Launch) (e : Env) (R : Room) (s : State) (m : MethodId) (args : Array Value) (below : List Frame) (meth : Method) (c : Code) (ws : List Addr) (Φ : Outcome → State → Prop) (h : Heap) (cells slots pc : Nat) (Ls : Array Slot) (st : List Value) : Prop :=
  ∀ (T : State) (locs : List Loc), Stand p l e R s m args below meth c T locs cells slots → T.heap = h → Lw s.heap.size ws locs →
    ∃ s₂ o, Steps p.tables e below (T.setTop (mkF m pc Ls st)) s₂ ∧ s₂.status = .running ∧ Ended s₂ below o ∧ Φ o s₂
/-- a good end, where nothing was interned -/
def EndA (s : State) (ws : List Addr) (Q : Option Value → Heap → Prop) (kc ks : Nat) (o : Outcome) (s₂ : State) : Prop := ∃ v L, o = .returned v ∧ (Q v s₂.heap ∧ Keep s.heap s₂.heap ws ∧ Lw s.heap.size ws L) ∧ FrameEnd s o s₂ L kc ks
/-- a contract: from the heap h, with the arguments as', the method returns and Q holds; nothing old is written but in ws -/
def Con (l : Launch) (Z : State) (ws : List Addr) (y : MethodName) (bytes : ByteArray) (maxL : Nat) (ret : Option FieldType) (rm : Room) (as' : Array Value) (h : Heap) (tw : List Jvm.Cond) (Q : Option Value → Heap → Prop) : Prop :=
  Ext Z.heap h → (∀ x ∈ ws, Z.heap.size ≤ x) → MetFree l y (head1 (Jvm.Cond.code y bytes maxL ret :: tw) rm) (fun a U => a = as' ∧ Z.Warmed39 U.vm ∧ U.heap = h) (fun _ _ _ _ _ => True) (fun _ U o U' => ∃ v L, o = .returned v ∧ (Q v U'.heap ∧ Keep h U'.heap ws ∧ Lw h.size ws L) ∧ FrameEnd U o U' L rm.cells rm.slots)
/-- what pays a call, in the shape of backOf and of the String laws -/
abbrev Bk (l : Launch) (R : Room) (p : Program) (e : Env) (below : List Frame) (s : State) (args : Array Value) (y : MethodName) (len W : Nat) (as' : Array Value) (h : Heap) (kb sb : Nat) (Qb : Option Value → Heap → List Loc → Prop) : Prop :=
  Back l R p e below s args y len W (fun P a => a = as' ∧ P.U.heap = h ∧ P.cells + kb ≤ R.cells ∧ P.slots + sb ≤ R.slots) (fun P _ v B => ∃ L, Qb v B.U.heap L ∧ B.locs = P.locs ++ L ∧ B.cells = P.cells + kb ∧ B.slots = P.slots + sb)
theorem keep_of {T : State} {locs : List Loc} (X : Stand p l e R s m args below meth c T locs cells slots) (N : Lw s.heap.size ws locs) : Keep s.heap T.heap ws := by
  obtain ⟨-, h1, -, -, -, h2⟩ := X.same
  refine ⟨h1, fun x k hk hx => ?_, fun x k hk => ?_⟩
  · obtain ⟨k', q1, q2, q3, q4⟩ := h2 x k hk
    have e1 : k'.slots = k.slots := Array.ext_getElem? fun i => q4 i fun hm => (N _ hm).elim hx fun z => absurd (Array.getElem?_eq_some_iff.mp hk).1 (Nat.not_lt.mpr z)
    have e2 : k' = k := by rw [q2, e1]
    rw [← e2]; exact q1
  · obtain ⟨k', q1, q2, q3, -⟩ := h2 x k hk
    exact ⟨k', q1, by rw [q2], by rw [q2], q3⟩
theorem ext_keep {hz h h' : Heap} (E : Ext hz h) (K : Keep h h' ws) (q : ∀ x ∈ ws, hz.size ≤ x) : Ext hz h' :=
  ⟨Nat.le_trans E.1 K.1, fun x k r => K.2.1 x k (E.2 x k r) fun z => absurd (Array.getElem?_eq_some_iff.mp r).1 (Nat.not_lt.mpr (q x z))⟩
theorem g_ctx (C : Cx p s m meth c Z h0 ws own nm bytes maxL ret) (k : Keep h0 h ws → Ext Z.heap h → G p l e R s m args below meth c ws Φ h cells slots pc Ls st) : G p l e R s m args below meth c ws Φ h cells slots pc Ls st := by
  intro T locs X e1 N
  obtain ⟨hx, hZ, hown, hby, hml, hret, hlk, hnm, rfl, hE, hws⟩ := C
  have K : Keep s.heap h ws := e1 ▸ keep_of X N
  exact k K (ext_keep hE K hws) T locs X e1 N
theorem g_norm {cells' slots' : Nat} (hc : cells ≤ cells') (hs : slots ≤ slots') (hst : st = st') (k : G p l e R s m args below meth c ws Φ h cells' slots' pc Ls st') : G p l e R s m args below meth c ws Φ h cells slots pc Ls st := by
  intro T locs X e1 N
  subst hst
  exact k T locs (X.more hc hs) e1 N
theorem g_of (hk : ∀ T, At T m c below → ∀ t, Steps p.tables e below (T.setTop (mkF m pc' Ls' st')) t → Steps p.tables e below (T.setTop (mkF m pc Ls st)) t) (k : G p l e R s m args below meth c ws Φ h cells slots pc' Ls' st') : G p l e R s m args below meth c ws Φ h cells slots pc Ls st := by
  intro T locs X e1 N
  obtain ⟨s2, o, h1, r⟩ := k T locs X e1 N
  exact ⟨s2, o, hk T X.here _ h1, r⟩
theorem g_ofX (hk : ∀ T locs, Stand p l e R s m args below meth c T locs cells slots → T.heap = h → ∀ t, Steps p.tables e below (T.setTop (mkF m pc' Ls' st')) t → Steps p.tables e below (T.setTop (mkF m pc Ls st)) t) (k : G p l e R s m args below meth c ws Φ h cells slots pc' Ls' st') : G p l e R s m args below meth c ws Φ h cells slots pc Ls st := by
  intro T locs X e1 N
  obtain ⟨s2, o, h1, r⟩ := k T locs X e1 N
  exact ⟨s2, o, hk T locs X e1 _ h1, r⟩
/-- a class whose own method is selected somewhere is no interface -/
theorem nf_same {b : State} {y y' : MethodName} {Cn : String} {a1 : Array Value} (w : (Jvm.Cond.selects Cn y' y').before a1 b = true) (hc : y'.cls = y.cls) : NotFace b y := fun r0 hr => by
  obtain ⟨c2, r2, m2, -, -, q3, -, kP, hkP, hkPi⟩ := Cond.selects_spec w
  have e1 := findClass_of_methodNamed hr
  have e2 := findClass_of_methodNamed q3
  rw [hc] at e2
  have e3 : r0.cls = m2.cls := Option.some.inj (e1.symm.trans e2)
  exact ⟨kP, by rw [e3]; exact hkP, hkPi⟩
theorem nfOf {y y' : MethodName} {Cn : String} (w : (Jvm.Cond.selects Cn y' y').before a0 Z = true) (hc : y'.cls = y.cls) (b : State) (hZ : Z.Warmed39 b.vm) : NotFace b y := nf_same (a1 := #[]) (mvT hZ w) hc
theorem same_self {y y' : MethodName} {Cn : String} (wi : (Jvm.Cond.instanceMethod y).before a0 Z = true) (w : (Jvm.Cond.selects Cn y' y').before a0 Z = true) (hc : y'.cls = y.cls) (hy : y.cls ≠ "java/lang/invoke/MethodHandle" ∧ y.cls ≠ "java/lang/invoke/VarHandle") : (Jvm.Cond.sameMethod y.cls y.cls y.name y.desc).before a0 Z = true := by
  obtain ⟨mk, methM, hn, -, -, -⟩ := Cond.instanceMethod_spec wi
  obtain ⟨c2, r2, m2, -, -, q3, -, kP, hkP, hkPi⟩ := Cond.selects_spec w
  have e1 := findClass_of_methodNamed hn
  have e2 := findClass_of_methodNamed q3
  rw [hc] at e2
  have e3 : mk.cls = m2.cls := Option.some.inj (e1.symm.trans e2)
  have e4 := State.methodFound?_of_named hn hy
  have e5 : Z.vm.classes[mk.cls]? = some kP := by rw [e3]; exact hkP
  simp [Cond.before, Cond.holds, Cond.value, e1, e4, hn, e5, hkPi]
theorem g_iload_n (C : Cx p s m meth c Z h0 ws own nm bytes maxL ret) {i : Fin 4} {v : Int32} (hd : decode bytes pc = .ok (.iload_n i, 1)) (hl : Ls[i.val]? = some (.val (.int v))) (hp : pc + 1 = pc') (k : G p l e R s m args below meth c ws Φ h cells slots pc' Ls (.int v :: st)) : G p l e R s m args below meth c ws Φ h cells slots pc Ls st := by
  subst hp
  exact g_of (fun T A t q => XS.iloadN A C.1 rfl (hb C.2.2.2.1 hd) hl q) k
theorem g_iload (C : Cx p s m meth c Z h0 ws own nm bytes maxL ret) {i : Nat} {v : Int32} (hd : decode bytes pc = .ok (.iload i, 2)) (hl : Ls[i]? = some (.val (.int v))) (hp : pc + 2 = pc') (k : G p l e R s m args below meth c ws Φ h cells slots pc' Ls (.int v :: st)) : G p l e R s m args below meth c ws Φ h cells slots pc Ls st := by
  subst hp
  exact g_of (fun T A t q => XS.iload A C.1 rfl (hb C.2.2.2.1 hd) hl q) k
theorem g_lload_n (C : Cx p s m meth c Z h0 ws own nm bytes maxL ret) {i : Fin 4} {v : Int64} (hd : decode bytes pc = .ok (.lload_n i, 1)) (hl : Ls[i.val]? = some (.val (.long v))) (hp : pc + 1 = pc') (k : G p l e R s m args below meth c ws Φ h cells slots pc' Ls (.long v :: st)) : G p l e R s m args below meth c ws Φ h cells slots pc Ls st := by
  subst hp
  exact g_of (fun T A t q => XS.lloadN A C.1 rfl (hb C.2.2.2.1 hd) hl q) k
theorem g_lload (C : Cx p s m meth c Z h0 ws own nm bytes maxL ret) {i : Nat} {v : Int64} (hd : decode bytes pc = .ok (.lload i, 2)) (hl : Ls[i]? = some (.val (.long v))) (hp : pc + 2 = pc') (k : G p l e R s m args below meth c ws Φ h cells slots pc' Ls (.long v :: st)) : G p l e R s m args below meth c ws Φ h cells slots pc Ls st := by
  subst hp
  exact g_of (fun T A t q => XS.lload A C.1 rfl (hb C.2.2.2.1 hd) hl q) k
theorem g_aload_n (C : Cx p s m meth c Z h0 ws own nm bytes maxL ret) {i : Fin 4} {v : Value} (hd : decode bytes pc = .ok (.aload_n i, 1)) (hl : Ls[i.val]? = some (.val v)) (hv : v.isRef = true) (hp : pc + 1 = pc') (k : G p l e R s m args below meth c ws Φ h cells slots pc' Ls (v :: st)) : G p l e R s m args below meth c ws Φ h cells slots pc Ls st := by
  subst hp
  exact g_of (fun T A t q => XS.aloadN A C.1 rfl (hb C.2.2.2.1 hd) hl hv q) k
theorem g_aload (C : Cx p s m meth c Z h0 ws own nm bytes maxL ret) {i : Nat} {v : Value} (hd : decode bytes pc = .ok (.aload i, 2)) (hl : Ls[i]? = some (.val v)) (hv : v.isRef = true) (hp : pc + 2 = pc') (k : G p l e R s m args below meth c ws Φ h cells slots pc' Ls (v :: st)) : G p l e R s m args below meth c ws Φ h cells slots pc Ls st := by
  subst hp
  exact g_of (fun T A t q => XS.aload A C.1 rfl (hb C.2.2.2.1 hd) hl hv q) k
theorem g_istore_n (C : Cx p s m meth c Z h0 ws own nm bytes maxL ret) {i : Fin 4} {x : Int32} (hd : decode bytes pc = .ok (.istore_n i, 1)) (hl : storeLocals Ls i.val (.int x) = some Ls') (hp : pc + 1 = pc') (k : G p l e R s m args below meth c ws Φ h cells slots pc' Ls' st) : G p l e R s m args below meth c ws Φ h cells slots pc Ls (.int x :: st) := by
  subst hp
  exact g_of (fun T A t q => XS.istoreN A C.1 rfl (hb C.2.2.2.1 hd) rfl hl q) k
theorem g_istore (C : Cx p s m meth c Z h0 ws own nm bytes maxL ret) {i : Nat} {x : Int32} (hd : decode bytes pc = .ok (.istore i, 2)) (hl : storeLocals Ls i (.int x) = some Ls') (hp : pc + 2 = pc') (k : G p l e R s m args below meth c ws Φ h cells slots pc' Ls' st) : G p l e R s m args below meth c ws Φ h cells slots pc Ls (.int x :: st) := by
  subst hp
  exact g_of (fun T A t q => XS.istore A C.1 rfl (hb C.2.2.2.1 hd) rfl hl q) k
theorem g_lstore_n (C : Cx p s m meth c Z h0 ws own nm bytes maxL ret) {i : Fin 4} {x : Int64} (hd : decode bytes pc = .ok (.lstore_n i, 1)) (hl : storeLocals Ls i.val (.long x) = some Ls') (hp : pc + 1 = pc') (k : G p l e R s m args below meth c ws Φ h cells slots pc' Ls' st) : G p l e R s m args below meth c ws Φ h cells slots pc Ls (.long x :: st) := by
  subst hp
  exact g_of (fun T A t q => XS.lstoreN A C.1 rfl (hb C.2.2.2.1 hd) rfl hl q) k
theorem g_lstore (C : Cx p s m meth c Z h0 ws own nm bytes maxL ret) {i : Nat} {x : Int64} (hd : decode bytes pc = .ok (.lstore i, 2)) (hl : storeLocals Ls i (.long x) = some Ls') (hp : pc + 2 = pc') (k : G p l e R s m args below meth c ws Φ h cells slots pc' Ls' st) : G p l e R s m args below meth c ws Φ h cells slots pc Ls (.long x :: st) := by
  subst hp
  exact g_of (fun T A t q => XS.lstore A C.1 rfl (hb C.2.2.2.1 hd) rfl hl q) k
theorem g_astore_n (C : Cx p s m meth c Z h0 ws own nm bytes maxL ret) {i : Fin 4} {v : Value} (hd : decode bytes pc = .ok (.astore_n i, 1)) (hv : v.isRef = true) (hl : storeLocals Ls i.val v = some Ls') (hp : pc + 1 = pc') (k : G p l e R s m args below meth c ws Φ h cells slots pc' Ls' st) : G p l e R s m args below meth c ws Φ h cells slots pc Ls (v :: st) := by
  subst hp
  exact g_of (fun T A t q => XS.astoreN A C.1 rfl (hb C.2.2.2.1 hd) rfl hv hl q) k
theorem g_astore (C : Cx p s m meth c Z h0 ws own nm bytes maxL ret) {i : Nat} {v : Value} (hd : decode bytes pc = .ok (.astore i, 2)) (hv : v.isRef = true) (hl : storeLocals Ls i v = some Ls') (hp : pc + 2 = pc') (k : G p l e R s m args below meth c ws Φ h cells slots pc' Ls' st) : G p l e R s m args below meth c ws Φ h cells slots pc Ls (v :: st) := by
  subst hp
  exact g_of (fun T A t q => XS.astore A C.1 rfl (hb C.2.2.2.1 hd) rfl hv hl q) k
theorem g_iconst (C : Cx p s m meth c Z h0 ws own nm bytes maxL ret) {i : Int} {x : Int32} (hd : decode bytes pc = .ok (.iconst i, 1)) (hx : Int32.ofInt i = x) (hp : pc + 1 = pc') (k : G p l e R s m args below meth c ws Φ h cells slots pc' Ls (.int x :: st)) : G p l e R s m args below meth c ws Φ h cells slots pc Ls st := by
  subst hp
  exact g_of (fun T A t q => XS.iconst A C.1 rfl (hb C.2.2.2.1 hd) (by rw [hx]; exact q)) k
theorem g_bipush (C : Cx p s m meth c Z h0 ws own nm bytes maxL ret) {i : Int} {x : Int32} (hd : decode bytes pc = .ok (.bipush i, 2)) (hx : (Int8.ofInt i).toInt32 = x) (hp : pc + 2 = pc') (k : G p l e R s m args below meth c ws Φ h cells slots pc' Ls (.int x :: st)) : G p l e R s m args below meth c ws Φ h cells slots pc Ls st := by
  subst hp
  exact g_of (fun T A t q => XS.bipush A C.1 rfl (hb C.2.2.2.1 hd) (by rw [hx]; exact q)) k
theorem g_sipush (C : Cx p s m meth c Z h0 ws own nm bytes maxL ret) {i : Int} {x : Int32} (hd : decode bytes pc = .ok (.sipush i, 3)) (hx : (Int16.ofInt i).toInt32 = x) (hp : pc + 3 = pc') (k : G p l e R s m args below meth c ws Φ h cells slots pc' Ls (.int x :: st)) : G p l e R s m args below meth c ws Φ h cells slots pc Ls st := by
  subst hp
  exact g_of (fun T A t q => XS.sipush A C.1 rfl (hb C.2.2.2.1 hd) (by rw [hx]; exact q)) k
theorem g_lconst (C : Cx p s m meth c Z h0 ws own nm bytes maxL ret) {i : Fin 2} {x : Int64} (hd : decode bytes pc = .ok (.lconst i, 1)) (hx : Int64.ofNat i = x) (hp : pc + 1 = pc') (k : G p l e R s m args below meth c ws Φ h cells slots pc' Ls (.long x :: st)) : G p l e R s m args below meth c ws Φ h cells slots pc Ls st := by
  subst hp
  exact g_of (fun T A t q => XS.lconst A C.1 rfl (hb C.2.2.2.1 hd) (by rw [hx]; exact q)) k
theorem g_aconst_null (C : Cx p s m meth c Z h0 ws own nm bytes maxL ret) (hd : decode bytes pc = .ok (.aconst_null, 1)) (hp : pc + 1 = pc') (k : G p l e R s m args below meth c ws Φ h cells slots pc' Ls (.null :: st)) : G p l e R s m args below meth c ws Φ h cells slots pc Ls st := by
  subst hp
  exact g_of (fun T A t q => XS.aconstNull A C.1 rfl (hb C.2.2.2.1 hd) q) k
theorem g_iadd (C : Cx p s m meth c Z h0 ws own nm bytes maxL ret) {x y : Int32} (hd : decode bytes pc = .ok (.iadd, 1)) (hp : pc + 1 = pc') (k : G p l e R s m args below meth c ws Φ h cells slots pc' Ls (.int (x + y) :: st)) : G p l e R s m args below meth c ws Φ h cells slots pc Ls (.int y :: .int x :: st) := by
  subst hp
  exact g_of (fun T A t q => XS.iadd A C.1 rfl (hb C.2.2.2.1 hd) rfl q) k
theorem g_isub (C : Cx p s m meth c Z h0 ws own nm bytes maxL ret) {x y : Int32} (hd : decode bytes pc = .ok (.isub, 1)) (hp : pc + 1 = pc') (k : G p l e R s m args below meth c ws Φ h cells slots pc' Ls (.int (x - y) :: st)) : G p l e R s m args below meth c ws Φ h cells slots pc Ls (.int y :: .int x :: st) := by
  subst hp
  exact g_of (fun T A t q => XS.isub A C.1 rfl (hb C.2.2.2.1 hd) rfl q) k
theorem g_imul (C : Cx p s m meth c Z h0 ws own nm bytes maxL ret) {x y : Int32} (hd : decode bytes pc = .ok (.imul, 1)) (hp : pc + 1 = pc') (k : G p l e R s m args below meth c ws Φ h cells slots pc' Ls (.int (x * y) :: st)) : G p l e R s m args below meth c ws Φ h cells slots pc Ls (.int y :: .int x :: st) := by
  subst hp
  exact g_of (fun T A t q => XS.imul A C.1 rfl (hb C.2.2.2.1 hd) rfl q) k
theorem g_iand (C : Cx p s m meth c Z h0 ws own nm bytes maxL ret) {x y : Int32} (hd : decode bytes pc = .ok (.iand, 1)) (hp : pc + 1 = pc') (k : G p l e R s m args below meth c ws Φ h cells slots pc' Ls (.int (x &&& y) :: st)) : G p l e R s m args below meth c ws Φ h cells slots pc Ls (.int y :: .int x :: st) := by
  subst hp
  exact g_of (fun T A t q => XS.iand A C.1 rfl (hb C.2.2.2.1 hd) rfl q) k
theorem g_ior (C : Cx p s m meth c Z h0 ws own nm bytes maxL ret) {x y : Int32} (hd : decode bytes pc = .ok (.ior, 1)) (hp : pc + 1 = pc') (k : G p l e R s m args below meth c ws Φ h cells slots pc' Ls (.int (x ||| y) :: st)) : G p l e R s m args below meth c ws Φ h cells slots pc Ls (.int y :: .int x :: st) := by
  subst hp
  exact g_of (fun T A t q => XS.ior A C.1 rfl (hb C.2.2.2.1 hd) rfl q) k
theorem g_ixor (C : Cx p s m meth c Z h0 ws own nm bytes maxL ret) {x y : Int32} (hd : decode bytes pc = .ok (.ixor, 1)) (hp : pc + 1 = pc') (k : G p l e R s m args below meth c ws Φ h cells slots pc' Ls (.int (x ^^^ y) :: st)) : G p l e R s m args below meth c ws Φ h cells slots pc Ls (.int y :: .int x :: st) := by
  subst hp
  exact g_of (fun T A t q => XS.ixor A C.1 rfl (hb C.2.2.2.1 hd) rfl q) k
theorem g_ishl (C : Cx p s m meth c Z h0 ws own nm bytes maxL ret) {x y : Int32} (hd : decode bytes pc = .ok (.ishl, 1)) (hp : pc + 1 = pc') (k : G p l e R s m args below meth c ws Φ h cells slots pc' Ls (.int (x <<< (y &&& 31)) :: st)) : G p l e R s m args below meth c ws Φ h cells slots pc Ls (.int y :: .int x :: st) := by
  subst hp
  exact g_of (fun T A t q => XS.ishl A C.1 rfl (hb C.2.2.2.1 hd) rfl q) k
theorem g_ishr (C : Cx p s m meth c Z h0 ws own nm bytes maxL ret) {x y : Int32} (hd : decode bytes pc = .ok (.ishr, 1)) (hp : pc + 1 = pc') (k : G p l e R s m args below meth c ws Φ h cells slots pc' Ls (.int (x >>> (y &&& 31)) :: st)) : G p l e R s m args below meth c ws Φ h cells slots pc Ls (.int y :: .int x :: st) := by
  subst hp
  exact g_of (fun T A t q => XS.ishr A C.1 rfl (hb C.2.2.2.1 hd) rfl q) k
theorem g_iushr (C : Cx p s m meth c Z h0 ws own nm bytes maxL ret) {x y : Int32} (hd : decode bytes pc = .ok (.iushr, 1)) (hp : pc + 1 = pc') (k : G p l e R s m args below meth c ws Φ h cells slots pc' Ls (.int (ushr x y) :: st)) : G p l e R s m args below meth c ws Φ h cells slots pc Ls (.int y :: .int x :: st) := by
  subst hp
  exact g_of (fun T A t q => XS.iushr A C.1 rfl (hb C.2.2.2.1 hd) rfl q) k
theorem g_idiv (C : Cx p s m meth c Z h0 ws own nm bytes maxL ret) {x y : Int32} (hd : decode bytes pc = .ok (.idiv, 1)) (hy : y ≠ 0) (hp : pc + 1 = pc') (k : G p l e R s m args below meth c ws Φ h cells slots pc' Ls (.int (x / y) :: st)) : G p l e R s m args below meth c ws Φ h cells slots pc Ls (.int y :: .int x :: st) := by
  subst hp
  exact g_of (fun T A t q => XS.idiv A C.1 rfl (hb C.2.2.2.1 hd) rfl hy q) k
theorem g_irem (C : Cx p s m meth c Z h0 ws own nm bytes maxL ret) {x y : Int32} (hd : decode bytes pc = .ok (.irem, 1)) (hy : y ≠ 0) (hp : pc + 1 = pc') (k : G p l e R s m args below meth c ws Φ h cells slots pc' Ls (.int (x % y) :: st)) : G p l e R s m args below meth c ws Φ h cells slots pc Ls (.int y :: .int x :: st) := by
  subst hp
  exact g_of (fun T A t q => XS.irem A C.1 rfl (hb C.2.2.2.1 hd) rfl hy (by rw [irem_eq_mod]; exact q)) k
theorem g_ineg (C : Cx p s m meth c Z h0 ws own nm bytes maxL ret) {x : Int32} (hd : decode bytes pc = .ok (.ineg, 1)) (hp : pc + 1 = pc') (k : G p l e R s m args below meth c ws Φ h cells slots pc' Ls (.int (-x) :: st)) : G p l e R s m args below meth c ws Φ h cells slots pc Ls (.int x :: st) := by
  subst hp
  exact g_of (fun T A t q => XS.ineg A C.1 rfl (hb C.2.2.2.1 hd) rfl q) k
theorem g_ladd (C : Cx p s m meth c Z h0 ws own nm bytes maxL ret) {x y : Int64} (hd : decode bytes pc = .ok (.ladd, 1)) (hp : pc + 1 = pc') (k : G p l e R s m args below meth c ws Φ h cells slots pc' Ls (.long (x + y) :: st)) : G p l e R s m args below meth c ws Φ h cells slots pc Ls (.long y :: .long x :: st) := by
  subst hp
  exact g_of (fun T A t q => XS.ladd A C.1 rfl (hb C.2.2.2.1 hd) rfl q) k
theorem g_lsub (C : Cx p s m meth c Z h0 ws own nm bytes maxL ret) {x y : Int64} (hd : decode bytes pc = .ok (.lsub, 1)) (hp : pc + 1 = pc') (k : G p l e R s m args below meth c ws Φ h cells slots pc' Ls (.long (x - y) :: st)) : G p l e R s m args below meth c ws Φ h cells slots pc Ls (.long y :: .long x :: st) := by
  subst hp
  exact g_of (fun T A t q => XS.lsub A C.1 rfl (hb C.2.2.2.1 hd) rfl q) k
theorem g_lmul (C : Cx p s m meth c Z h0 ws own nm bytes maxL ret) {x y : Int64} (hd : decode bytes pc = .ok (.lmul, 1)) (hp : pc + 1 = pc') (k : G p l e R s m args below meth c ws Φ h cells slots pc' Ls (.long (x * y) :: st)) : G p l e R s m args below meth c ws Φ h cells slots pc Ls (.long y :: .long x :: st) := by
  subst hp
  exact g_of (fun T A t q => XS.lmul A C.1 rfl (hb C.2.2.2.1 hd) rfl q) k
theorem g_land (C : Cx p s m meth c Z h0 ws own nm bytes maxL ret) {x y : Int64} (hd : decode bytes pc = .ok (.land, 1)) (hp : pc + 1 = pc') (k : G p l e R s m args below meth c ws Φ h cells slots pc' Ls (.long (x &&& y) :: st)) : G p l e R s m args below meth c ws Φ h cells slots pc Ls (.long y :: .long x :: st) := by
  subst hp
  exact g_of (fun T A t q => XS.land A C.1 rfl (hb C.2.2.2.1 hd) rfl q) k
theorem g_lor (C : Cx p s m meth c Z h0 ws own nm bytes maxL ret) {x y : Int64} (hd : decode bytes pc = .ok (.lor, 1)) (hp : pc + 1 = pc') (k : G p l e R s m args below meth c ws Φ h cells slots pc' Ls (.long (x ||| y) :: st)) : G p l e R s m args below meth c ws Φ h cells slots pc Ls (.long y :: .long x :: st) := by
  subst hp
  exact g_of (fun T A t q => XS.lor A C.1 rfl (hb C.2.2.2.1 hd) rfl q) k
theorem g_lxor (C : Cx p s m meth c Z h0 ws own nm bytes maxL ret) {x y : Int64} (hd : decode bytes pc = .ok (.lxor, 1)) (hp : pc + 1 = pc') (k : G p l e R s m args below meth c ws Φ h cells slots pc' Ls (.long (x ^^^ y) :: st)) : G p l e R s m args below meth c ws Φ h cells slots pc Ls (.long y :: .long x :: st) := by
  subst hp
  exact g_of (fun T A t q => XS.lxor A C.1 rfl (hb C.2.2.2.1 hd) rfl q) k
theorem g_lshl (C : Cx p s m meth c Z h0 ws own nm bytes maxL ret) {x : Int64} {y : Int32} (hd : decode bytes pc = .ok (.lshl, 1)) (hp : pc + 1 = pc') (k : G p l e R s m args below meth c ws Φ h cells slots pc' Ls (.long (x <<< (y &&& 63).toInt64) :: st)) : G p l e R s m args below meth c ws Φ h cells slots pc Ls (.int y :: .long x :: st) := by
  subst hp
  exact g_of (fun T A t q => XS.lshl A C.1 rfl (hb C.2.2.2.1 hd) rfl q) k
theorem g_lshr (C : Cx p s m meth c Z h0 ws own nm bytes maxL ret) {x : Int64} {y : Int32} (hd : decode bytes pc = .ok (.lshr, 1)) (hp : pc + 1 = pc') (k : G p l e R s m args below meth c ws Φ h cells slots pc' Ls (.long (x >>> (y &&& 63).toInt64) :: st)) : G p l e R s m args below meth c ws Φ h cells slots pc Ls (.int y :: .long x :: st) := by
  subst hp
  exact g_of (fun T A t q => XS.lshr A C.1 rfl (hb C.2.2.2.1 hd) rfl q) k
theorem g_lushr (C : Cx p s m meth c Z h0 ws own nm bytes maxL ret) {x : Int64} {y : Int32} (hd : decode bytes pc = .ok (.lushr, 1)) (hp : pc + 1 = pc') (k : G p l e R s m args below meth c ws Φ h cells slots pc' Ls (.long (ushrL x y) :: st)) : G p l e R s m args below meth c ws Φ h cells slots pc Ls (.int y :: .long x :: st) := by
  subst hp
  exact g_of (fun T A t q => XT.lushr A C.1 rfl (hb C.2.2.2.1 hd) rfl q) k
theorem g_lcmp (C : Cx p s m meth c Z h0 ws own nm bytes maxL ret) {x y : Int64} (hd : decode bytes pc = .ok (.lcmp, 1)) (hp : pc + 1 = pc') (k : G p l e R s m args below meth c ws Φ h cells slots pc' Ls (.int (cmpL x y) :: st)) : G p l e R s m args below meth c ws Φ h cells slots pc Ls (.long y :: .long x :: st) := by
  subst hp
  exact g_of (fun T A t q => XS.lcmp A C.1 rfl (hb C.2.2.2.1 hd) rfl q) k
theorem g_i2l (C : Cx p s m meth c Z h0 ws own nm bytes maxL ret) {x : Int32} (hd : decode bytes pc = .ok (.i2l, 1)) (hp : pc + 1 = pc') (k : G p l e R s m args below meth c ws Φ h cells slots pc' Ls (.long x.toInt64 :: st)) : G p l e R s m args below meth c ws Φ h cells slots pc Ls (.int x :: st) := by
  subst hp
  exact g_of (fun T A t q => XS.i2l A C.1 rfl (hb C.2.2.2.1 hd) rfl q) k
theorem g_l2i (C : Cx p s m meth c Z h0 ws own nm bytes maxL ret) {x : Int64} (hd : decode bytes pc = .ok (.l2i, 1)) (hp : pc + 1 = pc') (k : G p l e R s m args below meth c ws Φ h cells slots pc' Ls (.int x.toInt32 :: st)) : G p l e R s m args below meth c ws Φ h cells slots pc Ls (.long x :: st) := by
  subst hp
  exact g_of (fun T A t q => XS.l2i A C.1 rfl (hb C.2.2.2.1 hd) rfl q) k
theorem g_i2b (C : Cx p s m meth c Z h0 ws own nm bytes maxL ret) {x : Int32} (hd : decode bytes pc = .ok (.i2b, 1)) (hp : pc + 1 = pc') (k : G p l e R s m args below meth c ws Φ h cells slots pc' Ls (.int x.toInt8.toInt32 :: st)) : G p l e R s m args below meth c ws Φ h cells slots pc Ls (.int x :: st) := by
  subst hp
  exact g_of (fun T A t q => XS.i2b A C.1 rfl (hb C.2.2.2.1 hd) rfl q) k
theorem g_i2c (C : Cx p s m meth c Z h0 ws own nm bytes maxL ret) {x : Int32} (hd : decode bytes pc = .ok (.i2c, 1)) (hp : pc + 1 = pc') (k : G p l e R s m args below meth c ws Φ h cells slots pc' Ls (.int (nar .char x) :: st)) : G p l e R s m args below meth c ws Φ h cells slots pc Ls (.int x :: st) := by
  subst hp
  exact g_of (fun T A t q => XS.i2c A C.1 rfl (hb C.2.2.2.1 hd) rfl q) k
theorem g_pop (C : Cx p s m meth c Z h0 ws own nm bytes maxL ret) {v : Value} (hd : decode bytes pc = .ok (.pop, 1)) (hv : v.category = 1) (hp : pc + 1 = pc') (k : G p l e R s m args below meth c ws Φ h cells slots pc' Ls st) : G p l e R s m args below meth c ws Φ h cells slots pc Ls (v :: st) := by
  subst hp
  exact g_of (fun T A t q => XS.pop A C.1 rfl (hb C.2.2.2.1 hd) rfl hv q) k
theorem g_dup (C : Cx p s m meth c Z h0 ws own nm bytes maxL ret) {v : Value} (hd : decode bytes pc = .ok (.dup, 1)) (hv : v.category = 1) (hp : pc + 1 = pc') (k : G p l e R s m args below meth c ws Φ h cells slots pc' Ls (v :: v :: st)) : G p l e R s m args below meth c ws Φ h cells slots pc Ls (v :: st) := by
  subst hp
  exact g_of (fun T A t q => XS.dup A C.1 rfl (hb C.2.2.2.1 hd) rfl hv q) k
theorem g_dup_x1 (C : Cx p s m meth c Z h0 ws own nm bytes maxL ret) {v w : Value} (hd : decode bytes pc = .ok (.dup_x1, 1)) (hv : v.category = 1) (hw' : w.category = 1) (hp : pc + 1 = pc') (k : G p l e R s m args below meth c ws Φ h cells slots pc' Ls (v :: w :: v :: st)) : G p l e R s m args below meth c ws Φ h cells slots pc Ls (v :: w :: st) := by
  subst hp
  exact g_of (fun T A t q => XS.dupX1 A C.1 rfl (hb C.2.2.2.1 hd) rfl hv hw' q) k
theorem g_dup2 (C : Cx p s m meth c Z h0 ws own nm bytes maxL ret) {v w : Value} (hd : decode bytes pc = .ok (.dup2, 1)) (hv : v.category = 1) (hw' : w.category = 1) (hp : pc + 1 = pc') (k : G p l e R s m args below meth c ws Φ h cells slots pc' Ls (v :: w :: v :: w :: st)) : G p l e R s m args below meth c ws Φ h cells slots pc Ls (v :: w :: st) := by
  subst hp
  exact g_of (fun T A t q => XT.dup2 A C.1 rfl (hb C.2.2.2.1 hd) rfl hv hw' q) k
theorem g_dup2L (C : Cx p s m meth c Z h0 ws own nm bytes maxL ret) {x : Int64} (hd : decode bytes pc = .ok (.dup2, 1)) (hp : pc + 1 = pc') (k : G p l e R s m args below meth c ws Φ h cells slots pc' Ls (.long x :: .long x :: st)) : G p l e R s m args below meth c ws Φ h cells slots pc Ls (.long x :: st) := by
  subst hp
  exact g_of (fun T A t q => XT.dup2L A C.1 rfl (hb C.2.2.2.1 hd) rfl q) k
theorem g_iinc (C : Cx p s m meth c Z h0 ws own nm bytes maxL ret) {i : Nat} {cst : Int} {x y : Int32} (hd : decode bytes pc = .ok (.iinc i cst, 3)) (hl : Ls[i]? = some (.val (.int x))) (hy : x + Int32.ofInt cst = y) (hl' : storeLocals Ls i (.int y) = some Ls') (hp : pc + 3 = pc') (k : G p l e R s m args below meth c ws Φ h cells slots pc' Ls' st) : G p l e R s m args below meth c ws Φ h cells slots pc Ls st := by
  subst hp
  exact g_of (fun T A t q => XS.iinc A C.1 rfl (hb C.2.2.2.1 hd) hl (by rw [hy]; exact hl') q) k
theorem g_goto (C : Cx p s m meth c Z h0 ws own nm bytes maxL ret) {o : Int} (hd : decode bytes pc = .ok (.goto o, 3)) (ho : 0 ≤ (pc : Int) + o) (hp : ((pc : Int) + o).toNat = pc') (k : G p l e R s m args below meth c ws Φ h cells slots pc' Ls st) : G p l e R s m args below meth c ws Φ h cells slots pc Ls st :=
  g_of (fun T A t q => XS.goto A C.1 rfl rfl (hb C.2.2.2.1 hd) ho hp q) k
theorem g_if_icmplt (C : Cx p s m meth c Z h0 ws own nm bytes maxL ret) {o : Int} {x y : Int32} {pcT pcF : Nat} (hd : decode bytes pc = .ok (.if_icmp .lt o, 3)) (ho : 0 ≤ (pc : Int) + o) (hT : ((pc : Int) + o).toNat = pcT) (hF : pc + 3 = pcF) (kT : x < y → G p l e R s m args below meth c ws Φ h cells slots pcT Ls st) (kF : ¬ x < y → G p l e R s m args below meth c ws Φ h cells slots pcF Ls st) : G p l e R s m args below meth c ws Φ h cells slots pc Ls (.int y :: .int x :: st) := by
  subst hF
  by_cases z : x < y
  · exact g_of (fun T A t q => XS.icmpYes A C.1 rfl rfl (hb C.2.2.2.1 hd) rfl (tlt z).1 ho hT q) (kT z)
  · exact g_of (fun T A t q => XS.icmpNo A C.1 rfl (hb C.2.2.2.1 hd) rfl (flt z).1 q) (kF z)
theorem g_iflt (C : Cx p s m meth c Z h0 ws own nm bytes maxL ret) {o : Int} {x : Int32} {pcT pcF : Nat} (hd : decode bytes pc = .ok (.ifCond .lt o, 3)) (ho : 0 ≤ (pc : Int) + o) (hT : ((pc : Int) + o).toNat = pcT) (hF : pc + 3 = pcF) (kT : x < 0 → G p l e R s m args below meth c ws Φ h cells slots pcT Ls st) (kF : ¬ x < 0 → G p l e R s m args below meth c ws Φ h cells slots pcF Ls st) : G p l e R s m args below meth c ws Φ h cells slots pc Ls (.int x :: st) := by
  subst hF
  by_cases z : x < 0
  · exact g_of (fun T A t q => XS.ifYes A C.1 rfl rfl (hb C.2.2.2.1 hd) rfl ((if0 _ _).trans (tlt z).1) ho hT q) (kT z)
  · exact g_of (fun T A t q => XS.ifNo A C.1 rfl (hb C.2.2.2.1 hd) rfl ((if0 _ _).trans (flt z).1) q) (kF z)
theorem g_if_icmpge (C : Cx p s m meth c Z h0 ws own nm bytes maxL ret) {o : Int} {x y : Int32} {pcT pcF : Nat} (hd : decode bytes pc = .ok (.if_icmp .ge o, 3)) (ho : 0 ≤ (pc : Int) + o) (hT : ((pc : Int) + o).toNat = pcT) (hF : pc + 3 = pcF) (kT : ¬ x < y → G p l e R s m args below meth c ws Φ h cells slots pcT Ls st) (kF : x < y → G p l e R s m args below meth c ws Φ h cells slots pcF Ls st) : G p l e R s m args below meth c ws Φ h cells slots pc Ls (.int y :: .int x :: st) := by
  subst hF
  by_cases z : x < y
  · exact g_of (fun T A t q => XS.icmpNo A C.1 rfl (hb C.2.2.2.1 hd) rfl (tlt z).2.1 q) (kF z)
  · exact g_of (fun T A t q => XS.icmpYes A C.1 rfl rfl (hb C.2.2.2.1 hd) rfl (flt z).2.1 ho hT q) (kT z)
theorem g_ifge (C : Cx p s m meth c Z h0 ws own nm bytes maxL ret) {o : Int} {x : Int32} {pcT pcF : Nat} (hd : decode bytes pc = .ok (.ifCond .ge o, 3)) (ho : 0 ≤ (pc : Int) + o) (hT : ((pc : Int) + o).toNat = pcT) (hF : pc + 3 = pcF) (kT : ¬ x < 0 → G p l e R s m args below meth c ws Φ h cells slots pcT Ls st) (kF : x < 0 → G p l e R s m args below meth c ws Φ h cells slots pcF Ls st) : G p l e R s m args below meth c ws Φ h cells slots pc Ls (.int x :: st) := by
  subst hF
  by_cases z : x < 0
  · exact g_of (fun T A t q => XS.ifNo A C.1 rfl (hb C.2.2.2.1 hd) rfl ((if0 _ _).trans (tlt z).2.1) q) (kF z)
  · exact g_of (fun T A t q => XS.ifYes A C.1 rfl rfl (hb C.2.2.2.1 hd) rfl ((if0 _ _).trans (flt z).2.1) ho hT q) (kT z)
theorem g_if_icmpgt (C : Cx p s m meth c Z h0 ws own nm bytes maxL ret) {o : Int} {x y : Int32} {pcT pcF : Nat} (hd : decode bytes pc = .ok (.if_icmp .gt o, 3)) (ho : 0 ≤ (pc : Int) + o) (hT : ((pc : Int) + o).toNat = pcT) (hF : pc + 3 = pcF) (kT : y < x → G p l e R s m args below meth c ws Φ h cells slots pcT Ls st) (kF : ¬ y < x → G p l e R s m args below meth c ws Φ h cells slots pcF Ls st) : G p l e R s m args below meth c ws Φ h cells slots pc Ls (.int y :: .int x :: st) := by
  subst hF
  by_cases z : y < x
  · exact g_of (fun T A t q => XS.icmpYes A C.1 rfl rfl (hb C.2.2.2.1 hd) rfl (tlt z).2.2.1 ho hT q) (kT z)
  · exact g_of (fun T A t q => XS.icmpNo A C.1 rfl (hb C.2.2.2.1 hd) rfl (flt z).2.2.1 q) (kF z)
theorem g_ifgt (C : Cx p s m meth c Z h0 ws own nm bytes maxL ret) {o : Int} {x : Int32} {pcT pcF : Nat} (hd : decode bytes pc = .ok (.ifCond .gt o, 3)) (ho : 0 ≤ (pc : Int) + o) (hT : ((pc : Int) + o).toNat = pcT) (hF : pc + 3 = pcF) (kT : 0 < x → G p l e R s m args below meth c ws Φ h cells slots pcT Ls st) (kF : ¬ 0 < x → G p l e R s m args below meth c ws Φ h cells slots pcF Ls st) : G p l e R s m args below meth c ws Φ h cells slots pc Ls (.int x :: st) := by
  subst hF
  by_cases z : 0 < x
  · exact g_of (fun T A t q => XS.ifYes A C.1 rfl rfl (hb C.2.2.2.1 hd) rfl ((if0 _ _).trans (tlt z).2.2.1) ho hT q) (kT z)
  · exact g_of (fun T A t q => XS.ifNo A C.1 rfl (hb C.2.2.2.1 hd) rfl ((if0 _ _).trans (flt z).2.2.1) q) (kF z)
theorem g_if_icmple (C : Cx p s m meth c Z h0 ws own nm bytes maxL ret) {o : Int} {x y : Int32} {pcT pcF : Nat} (hd : decode bytes pc = .ok (.if_icmp .le o, 3)) (ho : 0 ≤ (pc : Int) + o) (hT : ((pc : Int) + o).toNat = pcT) (hF : pc + 3 = pcF) (kT : ¬ y < x → G p l e R s m args below meth c ws Φ h cells slots pcT Ls st) (kF : y < x → G p l e R s m args below meth c ws Φ h cells slots pcF Ls st) : G p l e R s m args below meth c ws Φ h cells slots pc Ls (.int y :: .int x :: st) := by
  subst hF
  by_cases z : y < x
  · exact g_of (fun T A t q => XS.icmpNo A C.1 rfl (hb C.2.2.2.1 hd) rfl (tlt z).2.2.2 q) (kF z)
  · exact g_of (fun T A t q => XS.icmpYes A C.1 rfl rfl (hb C.2.2.2.1 hd) rfl (flt z).2.2.2 ho hT q) (kT z)
theorem g_ifle (C : Cx p s m meth c Z h0 ws own nm bytes maxL ret) {o : Int} {x : Int32} {pcT pcF : Nat} (hd : decode bytes pc = .ok (.ifCond .le o, 3)) (ho : 0 ≤ (pc : Int) + o) (hT : ((pc : Int) + o).toNat = pcT) (hF : pc + 3 = pcF) (kT : ¬ 0 < x → G p l e R s m args below meth c ws Φ h cells slots pcT Ls st) (kF : 0 < x → G p l e R s m args below meth c ws Φ h cells slots pcF Ls st) : G p l e R s m args below meth c ws Φ h cells slots pc Ls (.int x :: st) := by
  subst hF
  by_cases z : 0 < x
  · exact g_of (fun T A t q => XS.ifNo A C.1 rfl (hb C.2.2.2.1 hd) rfl ((if0 _ _).trans (tlt z).2.2.2) q) (kF z)
  · exact g_of (fun T A t q => XS.ifYes A C.1 rfl rfl (hb C.2.2.2.1 hd) rfl ((if0 _ _).trans (flt z).2.2.2) ho hT q) (kT z)
theorem g_if_icmpeq (C : Cx p s m meth c Z h0 ws own nm bytes maxL ret) {o : Int} {x y : Int32} {pcT pcF : Nat} (hd : decode bytes pc = .ok (.if_icmp .eq o, 3)) (ho : 0 ≤ (pc : Int) + o) (hT : ((pc : Int) + o).toNat = pcT) (hF : pc + 3 = pcF) (kT : x = y → G p l e R s m args below meth c ws Φ h cells slots pcT Ls st) (kF : ¬ x = y → G p l e R s m args below meth c ws Φ h cells slots pcF Ls st) : G p l e R s m args below meth c ws Φ h cells slots pc Ls (.int y :: .int x :: st) := by
  subst hF
  by_cases z : x = y
  · exact g_of (fun T A t q => XS.icmpYes A C.1 rfl rfl (hb C.2.2.2.1 hd) rfl (teq z).1 ho hT q) (kT z)
  · exact g_of (fun T A t q => XS.icmpNo A C.1 rfl (hb C.2.2.2.1 hd) rfl (feq z).1 q) (kF z)
theorem g_ifeq (C : Cx p s m meth c Z h0 ws own nm bytes maxL ret) {o : Int} {x : Int32} {pcT pcF : Nat} (hd : decode bytes pc = .ok (.ifCond .eq o, 3)) (ho : 0 ≤ (pc : Int) + o) (hT : ((pc : Int) + o).toNat = pcT) (hF : pc + 3 = pcF) (kT : x = 0 → G p l e R s m args below meth c ws Φ h cells slots pcT Ls st) (kF : ¬ x = 0 → G p l e R s m args below meth c ws Φ h cells slots pcF Ls st) : G p l e R s m args below meth c ws Φ h cells slots pc Ls (.int x :: st) := by
  subst hF
  by_cases z : x = 0
  · exact g_of (fun T A t q => XS.ifYes A C.1 rfl rfl (hb C.2.2.2.1 hd) rfl ((if0 _ _).trans (teq z).1) ho hT q) (kT z)
  · exact g_of (fun T A t q => XS.ifNo A C.1 rfl (hb C.2.2.2.1 hd) rfl ((if0 _ _).trans (feq z).1) q) (kF z)
theorem g_if_icmpne (C : Cx p s m meth c Z h0 ws own nm bytes maxL ret) {o : Int} {x y : Int32} {pcT pcF : Nat} (hd : decode bytes pc = .ok (.if_icmp .ne o, 3)) (ho : 0 ≤ (pc : Int) + o) (hT : ((pc : Int) + o).toNat = pcT) (hF : pc + 3 = pcF) (kT : ¬ x = y → G p l e R s m args below meth c ws Φ h cells slots pcT Ls st) (kF : x = y → G p l e R s m args below meth c ws Φ h cells slots pcF Ls st) : G p l e R s m args below meth c ws Φ h cells slots pc Ls (.int y :: .int x :: st) := by
  subst hF
  by_cases z : x = y
  · exact g_of (fun T A t q => XS.icmpNo A C.1 rfl (hb C.2.2.2.1 hd) rfl (teq z).2 q) (kF z)
  · exact g_of (fun T A t q => XS.icmpYes A C.1 rfl rfl (hb C.2.2.2.1 hd) rfl (feq z).2 ho hT q) (kT z)
theorem g_ifne (C : Cx p s m meth c Z h0 ws own nm bytes maxL ret) {o : Int} {x : Int32} {pcT pcF : Nat} (hd : decode bytes pc = .ok (.ifCond .ne o, 3)) (ho : 0 ≤ (pc : Int) + o) (hT : ((pc : Int) + o).toNat = pcT) (hF : pc + 3 = pcF) (kT : ¬ x = 0 → G p l e R s m args below meth c ws Φ h cells slots pcT Ls st) (kF : x = 0 → G p l e R s m args below meth c ws Φ h cells slots pcF Ls st) : G p l e R s m args below meth c ws Φ h cells slots pc Ls (.int x :: st) := by
  subst hF
  by_cases z : x = 0
  · exact g_of (fun T A t q => XS.ifNo A C.1 rfl (hb C.2.2.2.1 hd) rfl ((if0 _ _).trans (teq z).2) q) (kF z)
  · exact g_of (fun T A t q => XS.ifYes A C.1 rfl rfl (hb C.2.2.2.1 hd) rfl ((if0 _ _).trans (feq z).2) ho hT q) (kT z)
theorem g_ifnull (C : Cx p s m meth c Z h0 ws own nm bytes maxL ret) {o : Int} {v : Value} {pcT pcF : Nat} (hv : v.isRef = true) (hd : decode bytes pc = .ok (.ifnull o, 3)) (ho : 0 ≤ (pc : Int) + o) (hT : ((pc : Int) + o).toNat = pcT) (hF : pc + 3 = pcF) (kT : v = .null → G p l e R s m args below meth c ws Φ h cells slots pcT Ls st) (kF : ∀ a, v = .ref a → G p l e R s m args below meth c ws Φ h cells slots pcF Ls st) : G p l e R s m args below meth c ws Φ h cells slots pc Ls (v :: st) := by
  subst hF
  rcases ref_cases hv with rfl | ⟨a, rfl⟩
  · exact g_of (fun T A t q => XS.ifnullYes A C.1 rfl rfl (hb C.2.2.2.1 hd) rfl ho hT q) (kT rfl)
  · exact g_of (fun T A t q => XS.ifnullNo A C.1 rfl (hb C.2.2.2.1 hd) rfl q) (kF a rfl)
theorem g_ifnonnull (C : Cx p s m meth c Z h0 ws own nm bytes maxL ret) {o : Int} {v : Value} {pcT pcF : Nat} (hv : v.isRef = true) (hd : decode bytes pc = .ok (.ifnonnull o, 3)) (ho : 0 ≤ (pc : Int) + o) (hT : ((pc : Int) + o).toNat = pcT) (hF : pc + 3 = pcF) (kT : ∀ a, v = .ref a → G p l e R s m args below meth c ws Φ h cells slots pcT Ls st) (kF : v = .null → G p l e R s m args below meth c ws Φ h cells slots pcF Ls st) : G p l e R s m args below meth c ws Φ h cells slots pc Ls (v :: st) := by
  subst hF
  rcases ref_cases hv with rfl | ⟨a, rfl⟩
  · exact g_of (fun T A t q => XS.ifnonnullNo A C.1 rfl (hb C.2.2.2.1 hd) rfl q) (kF rfl)
  · exact g_of (fun T A t q => XS.ifnonnullYes A C.1 rfl rfl (hb C.2.2.2.1 hd) rfl ho hT q) (kT a rfl)
theorem g_if_acmpeq (C : Cx p s m meth c Z h0 ws own nm bytes maxL ret) {o : Int} {v w : Value} {pcT pcF : Nat} (hv : v.isRef = true) (hw' : w.isRef = true) (hd : decode bytes pc = .ok (.if_acmp .eq o, 3)) (ho : 0 ≤ (pc : Int) + o) (hT : ((pc : Int) + o).toNat = pcT) (hF : pc + 3 = pcF) (kT : v = w → G p l e R s m args below meth c ws Φ h cells slots pcT Ls st) (kF : ¬ v = w → G p l e R s m args below meth c ws Φ h cells slots pcF Ls st) : G p l e R s m args below meth c ws Φ h cells slots pc Ls (w :: v :: st) := by
  subst hF hT
  by_cases z : v = w
  · exact g_ofX (fun T locs X _ t q => RoadKit.acmp X C.1 rfl hv hw' (same := true) rfl (hb C.2.2.2.1 hd) rfl (by simp [z]) ho rfl q) (kT z)
  · exact g_ofX (fun T locs X _ t q => RoadKit.acmp X C.1 rfl hv hw' (same := false) rfl (hb C.2.2.2.1 hd) rfl (by simp [z]) ho rfl q) (kF z)
theorem g_if_acmpne (C : Cx p s m meth c Z h0 ws own nm bytes maxL ret) {o : Int} {v w : Value} {pcT pcF : Nat} (hv : v.isRef = true) (hw' : w.isRef = true) (hd : decode bytes pc = .ok (.if_acmp .ne o, 3)) (ho : 0 ≤ (pc : Int) + o) (hT : ((pc : Int) + o).toNat = pcT) (hF : pc + 3 = pcF) (kT : ¬ v = w → G p l e R s m args below meth c ws Φ h cells slots pcT Ls st) (kF : v = w → G p l e R s m args below meth c ws Φ h cells slots pcF Ls st) : G p l e R s m args below meth c ws Φ h cells slots pc Ls (w :: v :: st) := by
  subst hF hT
  by_cases z : v = w
  · exact g_ofX (fun T locs X _ t q => RoadKit.acmp X C.1 rfl hv hw' (same := true) rfl (hb C.2.2.2.1 hd) rfl (by simp [z]) ho rfl q) (kF z)
  · exact g_ofX (fun T locs X _ t q => RoadKit.acmp X C.1 rfl hv hw' (same := false) rfl (hb C.2.2.2.1 hd) rfl (by simp [z]) ho rfl q) (kT z)
theorem g_getfield (C : Cx p s m meth c Z h0 ws own nm bytes maxL ret) {R0 O n d : String} {index : Nat} (w : (Jvm.Cond.fieldLink own index R0 n d).before a0 Z = true) (via : Via Z R0 O n d) {a : Addr} {v : Value} (F : Fld Z h a O n d v) (hd : decode bytes pc = .ok (.getfield index, 3)) (hp : pc + 3 = pc') (k : G p l e R s m args below meth c ws Φ h cells slots pc' Ls (v :: st)) : G p l e R s m args below meth c ws Φ h cells slots pc Ls (.ref a :: st) := by
  intro T locs X e1 N
  subst hp
  obtain ⟨hx, hZ, hown, hby, hml, hret, hlk, hnm, rfl, hE, hws⟩ := C
  obtain ⟨T', X', e2, stp⟩ := getF X hx hZ hown (host := "") (Or.inl w) via e1 F (g := mkF m pc Ls (.ref a :: st)) rfl rfl (hb hby hd)
  obtain ⟨s2, o, q, r⟩ := k T' locs X' e2 N
  exact ⟨s2, o, stp _ q, r⟩
theorem g_getfieldN (C : Cx p s m meth c Z h0 ws own nm bytes maxL ret) {R0 O n d host : String} {index : Nat} (w : (Jvm.Cond.fieldLinkNest own index R0 n d host).before a0 Z = true) (via : Via Z R0 O n d) {a : Addr} {v : Value} (F : Fld Z h a O n d v) (hd : decode bytes pc = .ok (.getfield index, 3)) (hp : pc + 3 = pc') (k : G p l e R s m args below meth c ws Φ h cells slots pc' Ls (v :: st)) : G p l e R s m args below meth c ws Φ h cells slots pc Ls (.ref a :: st) := by
  intro T locs X e1 N
  subst hp
  obtain ⟨hx, hZ, hown, hby, hml, hret, hlk, hnm, rfl, hE, hws⟩ := C
  obtain ⟨T', X', e2, stp⟩ := getF X hx hZ hown (Or.inr w) via e1 F (g := mkF m pc Ls (.ref a :: st)) rfl rfl (hb hby hd)
  obtain ⟨s2, o, q, r⟩ := k T' locs X' e2 N
  exact ⟨s2, o, stp _ q, r⟩
theorem g_getstatic (C : Cx p s m meth c Z h0 ws own nm bytes maxL ret) {R0 O n d : String} {index : Nat} (w : (Jvm.Cond.fieldLink own index R0 n d).before a0 Z = true) (via : Via Z R0 O n d) {v : Value} (F : Sta Z h O n d v) (hd : decode bytes pc = .ok (.getstatic index, 3)) (hp : pc + 3 = pc') (k : G p l e R s m args below meth c ws Φ h cells slots pc' Ls (v :: st)) : G p l e R s m args below meth c ws Φ h cells slots pc Ls st := by
  intro T locs X e1 N
  subst hp
  obtain ⟨hx, hZ, hown, hby, hml, hret, hlk, hnm, rfl, hE, hws⟩ := C
  obtain ⟨T', X', e2, stp⟩ := getS X hx hZ hown (host := "") w via e1 F (g := mkF m pc Ls st) rfl (hb hby hd)
  obtain ⟨s2, o, q, r⟩ := k T' locs X' e2 N
  exact ⟨s2, o, stp _ q, r⟩
theorem g_putfield (C : Cx p s m meth c Z h0 ws own nm bytes maxL ret) {R0 O n d Cn : String} {index kk : Nat} {ty : FieldType} (w : (Jvm.Cond.fieldLink own index R0 n d).before a0 Z = true) (via : Via Z R0 O n d) {a : Addr} {v v' old : Value} (F : Fld Z h a O n d old) (E : Exa Z h a Cn) (L : (Jvm.Cond.lays Cn O n d).before a0 Z = true ∨ ((Jvm.Cond.laysFinal Cn O n d).before a0 Z = true ∧ own = O ∧ nm = "<init>")) (wi : (Jvm.Cond.instantiable Cn kk).before a0 Z = true) (hty : parseFieldDescriptor d = some ty) (hn : narrow ty v = v') (hf : fits ty v' = true) (ha : a ∈ ws ∨ h0.size ≤ a) (hd : decode bytes pc = .ok (.putfield index, 3)) (hp : pc + 3 = pc') (k : ∀ h', Wr h h' a (RoadKit.slotOf Z O n d) v' → G p l e R s m args below meth c ws Φ h' cells slots pc' Ls st) : G p l e R s m args below meth c ws Φ h cells slots pc Ls (v :: .ref a :: st) := by
  intro T locs X e1 N
  subst hp
  obtain ⟨hx, hZ, hown, hby, hml, hret, hlk, hnm, rfl, hE, hws⟩ := C
  subst hnm
  obtain ⟨T', h', X', e2, W, stp⟩ := putFN X hx hZ hown w via e1 F E L wi hty hn hf (g := mkF m pc Ls (v :: .ref a :: st)) rfl rfl (hb hby hd)
  obtain ⟨s2, o, q, r⟩ := k h' W T' _ X' e2 (N.app (Lw.one ha))
  exact ⟨s2, o, stp _ q, r⟩
theorem g_new (C : Cx p s m meth c Z h0 ws own nm bytes maxL ret) {Cn : String} {index n : Nat} (w : (Jvm.Cond.classLink own index Cn).before a0 Z = true) (wi : (Jvm.Cond.instantiable Cn n).before a0 Z = true) (wz : (Jvm.Cond.initialized Cn).before a0 Z = true) (hd : decode bytes pc = .ok (.new index, 3)) (hp : pc + 3 = pc') (hc : cells + 1 ≤ R.cells) (hs : slots + n ≤ R.slots) (k : ∀ h' a, a = h.size → h0.size ≤ a → Ext h h' → Exa Z h' a Cn → (∀ {O nm d : String} {ty : FieldType}, Laid Z a0 Cn O nm d → parseFieldDescriptor d = some ty → Fld Z h' a O nm d (defaultValue ty)) → G p l e R s m args below meth c ws Φ h' (cells + 1) (slots + n) pc' Ls (.ref a :: st)) : G p l e R s m args below meth c ws Φ h cells slots pc Ls st := by
  intro T locs X e1 N
  subst hp
  obtain ⟨hx, hZ, hown, hby, hml, hret, hlk, hnm, rfl, hE, hws⟩ := C
  obtain ⟨T', h', X', e2, E, A, Dd, -, stp⟩ := newO X hx hZ hown w wi wz e1 (g := mkF m pc Ls st) rfl (hb hby hd) hc hs
  obtain ⟨s2, o, q, r⟩ := k h' h.size rfl (e1 ▸ X.same.2.1) E A Dd T' locs X' e2 N
  exact ⟨s2, o, stp _ q, r⟩
/-- an array of n places, place i holding f i -/
def Af (Z : State) (h : Heap) (a : Addr) (ty : FieldType) (n : Nat) (f : Nat → Value) : Prop := ∃ k : Cell, Arr Z h a k ty ∧ k.slots.size = n ∧ n < 2 ^ 31 ∧ (∀ i, i < n → k.slots[i]? = some (f i)) ∧ ∀ i, i < n → fits ty (f i) = true
def upd (f : Nat → Value) (i : Nat) (v : Value) : Nat → Value := fun j => if j = i then v else f j
theorem upd_same {f : Nat → Value} {i : Nat} {v : Value} : upd f i v i = v := if_pos rfl
theorem upd_other {f : Nat → Value} {i j : Nat} {v : Value} (q : j ≠ i) : upd f i v j = f j := if_neg q
theorem Af.lt {a : Addr} {ty : FieldType} {n : Nat} {f : Nat → Value} (A : Af Z h a ty n f) : a < h.size := by obtain ⟨k, A, -⟩ := A; exact A.lt
theorem Af.ext {h' : Heap} {a : Addr} {ty : FieldType} {n : Nat} {f : Nat → Value} (A : Af Z h a ty n f) (E : Ext h h') : Af Z h' a ty n f := by obtain ⟨k, A, r⟩ := A; exact ⟨k, A.ext E, r⟩
theorem Af.keep {h' : Heap} {a : Addr} {ty : FieldType} {n : Nat} {f : Nat → Value} (A : Af Z h a ty n f) (K : Keep h h' ws) (q : a ∉ ws) : Af Z h' a ty n f := by obtain ⟨k, A, r⟩ := A; exact ⟨k, ⟨K.2.1 a k A.1 q, A.2⟩, r⟩
theorem Af.other {h' : Heap} {a b : Addr} {sl : Nat} {v : Value} {ty : FieldType} {n : Nat} {f : Nat → Value} (A : Af Z h a ty n f) (W : Wr h h' b sl v) (q : a ≠ b) : Af Z h' a ty n f := by obtain ⟨k, A, r⟩ := A; exact ⟨k, A.other W q, r⟩
theorem Af.same {h' : Heap} {a : Addr} {i : Nat} {v : Value} {ty : FieldType} {n : Nat} {f : Nat → Value} (A : Af Z h a ty n f) (W : Wr h h' a i v) (hv : fits ty v = true) : Af Z h' a ty n (upd f i v) := by
  obtain ⟨k, A, h1, h2, h3, h4⟩ := A
  refine ⟨_, A.same W, by rw [sz_set]; exact h1, h2, fun j hj => ?_, fun j hj => ?_⟩
  · by_cases z : j = i
    · subst z; rw [upd_same]; simp [Cell.setSlot, h1, hj]
    · rw [upd_other z, ← h3 j hj]; exact Array.getElem?_setIfInBounds_ne (Ne.symm z)
  · by_cases z : j = i
    · subst z; rw [upd_same]; exact hv
    · rw [upd_other z]; exact h4 j hj
theorem Af.new {a : Addr} {ty : FieldType} {k : ClassId} {z : Int32} {n : Nat} (A : Arr Z h a (newA k ty z) ty) (q : z.toNatClampNeg = n) (hn : n < 2 ^ 31) : Af Z h a ty n (fun _ => defaultValue ty) :=
  ⟨_, A, (sz_new _ _ _).trans q, hn, fun i hi => by simp [newA, q, hi], fun i hi => by cases ty <;> rfl⟩
theorem Af.arv {a : Addr} {ty : FieldType} {n : Nat} {f : Nat → Value} (A : Af Z h a ty n f) (d : Value) : ∃ kC, Arv Z h a kC ty (Int32.ofNat n) ((List.range n).map f) d := by
  obtain ⟨k, A, h1, h2, h3, h4⟩ := A
  have e1 : (Int32.ofNat n).toNatClampNeg = n := by
    have e0 : (Int32.ofNat n).toInt = (n : Int) := Int32.toInt_ofNat_small h2
    rw [Int32.toNatClampNeg, e0]; rfl
  have e2 : ¬ Int32.ofNat n < 0 := by
    have e0 : (Int32.ofNat n).toInt = (n : Int) := Int32.toInt_ofNat_small h2
    rw [Int32.lt_iff_toInt_lt, e0]; simp
  have e3 : ∀ i, i < n → ((List.range n).map f).getD i d = f i := fun i hi => by simp [List.getD_eq_getElem?_getD, hi]
  exact ⟨k.cls, k, A, rfl, by rw [h1, e1], e2, fun i hi => by rw [e3 i (h1 ▸ hi)]; exact h3 i (h1 ▸ hi), fun i hi => by rw [e3 i (h1 ▸ hi)]; exact h4 i (h1 ▸ hi)⟩
theorem Arv.af {a : Addr} {kC : ClassId} {ty : FieldType} {z : Int32} {vs : List Value} {d : Value} (A : Arv Z h a kC ty z vs d) {n : Nat} (hn : z.toNatClampNeg = n) : Af Z h a ty n (fun i => vs.getD i d) := by
  obtain ⟨k, A, -, h1, h2, h3, h4⟩ := A
  have e1 : k.slots.size = n := h1.trans hn
  exact ⟨k, A, e1, by have := (back32 h2).2; omega, fun i hi => h3 i (e1 ▸ hi), fun i hi => h4 i (e1 ▸ hi)⟩
theorem Af.congr {a : Addr} {ty : FieldType} {n : Nat} {f g : Nat → Value} (A : Af Z h a ty n f) (q : ∀ i, i < n → g i = f i) : Af Z h a ty n g := by
  obtain ⟨k, A, h1, h2, h3, h4⟩ := A
  exact ⟨k, A, h1, h2, fun i hi => by rw [q i hi]; exact h3 i hi, fun i hi => by rw [q i hi]; exact h4 i hi⟩
theorem af_in {k : Cell} {j : Int32} {i n : Nat} (h1 : k.slots.size = n) (hj : ¬ j < 0) (hi : j.toNatClampNeg = i) (hn : i < n) : ¬ (j < 0 ∨ k.slots.size ≤ j.toNatClampNeg) := by
  rintro (q | q)
  · exact hj q
  · omega
theorem g_newarray (C : Cx p s m meth c Z h0 ws own nm bytes maxL ret) {aty : ArrayType} {z : Int32} {n : Nat} (w : (Jvm.Cond.arrayClass (newarray.typeOf aty)).before a0 Z = true) (hz : ¬ z < 0) (hn : z.toNatClampNeg = n) (hbig : n ≤ 67108864) (hd : decode bytes pc = .ok (.newarray aty, 2)) (hp : pc + 2 = pc') (hc : cells + 1 ≤ R.cells) (hs : slots + n ≤ R.slots) (k : ∀ h' a, a = h.size → h0.size ≤ a → Ext h h' → Af Z h' a (newarray.typeOf aty) n (fun _ => defaultValue (newarray.typeOf aty)) → G p l e R s m args below meth c ws Φ h' (cells + 1) (slots + n) pc' Ls (.ref a :: st)) : G p l e R s m args below meth c ws Φ h cells slots pc Ls (.int z :: st) := by
  intro T locs X e1 N
  subst hp
  obtain ⟨hx, hZ, hown, hby, hml, hret, hlk, hnm, rfl, hE, hws⟩ := C
  obtain ⟨T', h', cA, X', e2, E, A, stp⟩ := newP X hx hZ w e1 (g := mkF m pc Ls (.int z :: st)) rfl (hb hby hd) rfl hz (cap := n) (Nat.le_of_eq hn) (by omega) hc hs
  obtain ⟨s2, o, q, r⟩ := k h' h.size rfl (e1 ▸ X.same.2.1) E (Af.new A hn (by omega)) T' locs X' e2 N
  exact ⟨s2, o, stp _ q, r⟩
/-- an array over the class Cn -/
def OvA (Z : State) (h : Heap) (a : Addr) (Cn : String) : Prop := ∃ kA : Cell, h[a]? = some kA ∧ Ovr Z kA.cls Cn
theorem OvA.lt {a : Addr} {Cn : String} (O : OvA Z h a Cn) : a < h.size := by obtain ⟨kA, h1, -⟩ := O; exact (Array.getElem?_eq_some_iff.mp h1).1
theorem OvA.keep {h' : Heap} {a : Addr} {Cn : String} (O : OvA Z h a Cn) (K : Keep h h' ws) : OvA Z h' a Cn := by
  obtain ⟨kA, h1, h2⟩ := O; obtain ⟨k', q1, q2, -⟩ := K.2.2 a kA h1; exact ⟨k', q1, by rw [q2]; exact h2⟩
theorem OvA.ext {h' : Heap} {a : Addr} {Cn : String} (O : OvA Z h a Cn) (E : Ext h h') : OvA Z h' a Cn := by
  obtain ⟨kA, h1, h2⟩ := O; exact ⟨kA, E.2 _ _ h1, h2⟩
theorem OvA.sto {a y : Addr} {Cn : String} {ty : FieldType} {n : Nat} {f : Nat → Value} (O : OvA Z h a Cn) (A : Af Z h a ty n f) (I : Ins Z h y Cn true) : Sto Z h a (.ref y) := by
  obtain ⟨kA, h1, h2⟩ := O; obtain ⟨kB, A0, -⟩ := A; cases h1.symm.trans A0.1; exact Sto.of A0 h2 I
theorem g_anewarray (C : Cx p s m meth c Z h0 ws own nm bytes maxL ret) {Cn : String} {index : Nat} {z : Int32} {n : Nat} (w : (Jvm.Cond.classLink own index Cn).before a0 Z = true) (w2 : (Jvm.Cond.arrayOver (.object Cn)).before a0 Z = true) (hz : ¬ z < 0) (hn : z.toNatClampNeg = n) (hbig : n ≤ 67108864) (hd : decode bytes pc = .ok (.anewarray index, 3)) (hp : pc + 3 = pc') (hc : cells + 1 ≤ R.cells) (hs : slots + n ≤ R.slots) (k : ∀ h' a, a = h.size → h0.size ≤ a → Ext h h' → Af Z h' a (.object Cn) n (fun _ => .null) → OvA Z h' a Cn → G p l e R s m args below meth c ws Φ h' (cells + 1) (slots + n) pc' Ls (.ref a :: st)) : G p l e R s m args below meth c ws Φ h cells slots pc Ls (.int z :: st) := by
  intro T locs X e1 N
  subst hp
  obtain ⟨hx, hZ, hown, hby, hml, hret, hlk, hnm, rfl, hE, hws⟩ := C
  obtain ⟨T', h', cA, X', e2, E, A, Ov, stp⟩ := newR X hx hZ hown w w2 e1 (g := mkF m pc Ls (.int z :: st)) rfl (hb hby hd) rfl hz (cap := n) (Nat.le_of_eq hn) (by omega) hc hs
  obtain ⟨s2, o, q, r⟩ := k h' h.size rfl (e1 ▸ X.same.2.1) E (Af.new A hn (by omega)) ⟨_, A.1, Ov⟩ T' locs X' e2 N
  exact ⟨s2, o, stp _ q, r⟩
theorem g_castore (C : Cx p s m meth c Z h0 ws own nm bytes maxL ret) {a : Addr} {n i : Nat} {f : Nat → Value} {j : Int32} {x : Int32} (A : Af Z h a .char n f) (hj : ¬ j < 0) (hi : j.toNatClampNeg = i) (hn : i < n) (ha : a ∈ ws ∨ h0.size ≤ a) (hd : decode bytes pc = .ok (.castore, 1)) (hp : pc + 1 = pc') (k : ∀ h', Wr h h' a i (.int (nar .char x)) → Af Z h' a .char n (upd f i (.int (nar .char x))) → G p l e R s m args below meth c ws Φ h' cells slots pc' Ls st) : G p l e R s m args below meth c ws Φ h cells slots pc Ls (.int x :: .int j :: .ref a :: st) := by
  intro T locs X e1 N
  subst hp hi
  obtain ⟨hx, hZ, hown, hby, hml, hret, hlk, hnm, rfl, hE, hws⟩ := C
  obtain ⟨kk, A0, h1, -⟩ := id A
  obtain ⟨T', h', X', e2, W, stp⟩ := stC X hx hZ e1 A0 (af_in h1 hj rfl hn) (g := mkF m pc Ls (.int x :: .int j :: .ref a :: st)) rfl rfl (hb hby hd)
  obtain ⟨s2, o, q, r⟩ := k h' W (A.same W (fits_nar_char x)) T' _ X' e2 (N.app (Lw.one ha))
  exact ⟨s2, o, stp _ q, r⟩
theorem g_iastore (C : Cx p s m meth c Z h0 ws own nm bytes maxL ret) {a : Addr} {n i : Nat} {f : Nat → Value} {j : Int32} {x : Int32} (A : Af Z h a .int n f) (hj : ¬ j < 0) (hi : j.toNatClampNeg = i) (hn : i < n) (ha : a ∈ ws ∨ h0.size ≤ a) (hd : decode bytes pc = .ok (.iastore, 1)) (hp : pc + 1 = pc') (k : ∀ h', Wr h h' a i (.int x) → Af Z h' a .int n (upd f i (.int x)) → G p l e R s m args below meth c ws Φ h' cells slots pc' Ls st) : G p l e R s m args below meth c ws Φ h cells slots pc Ls (.int x :: .int j :: .ref a :: st) := by
  intro T locs X e1 N
  subst hp hi
  obtain ⟨hx, hZ, hown, hby, hml, hret, hlk, hnm, rfl, hE, hws⟩ := C
  obtain ⟨kk, A0, h1, -⟩ := id A
  obtain ⟨T', h', X', e2, W, stp⟩ := stI X hx hZ e1 A0 (af_in h1 hj rfl hn) (g := mkF m pc Ls (.int x :: .int j :: .ref a :: st)) rfl rfl (hb hby hd)
  obtain ⟨s2, o, q, r⟩ := k h' W (A.same W (rfl)) T' _ X' e2 (N.app (Lw.one ha))
  exact ⟨s2, o, stp _ q, r⟩
theorem g_bastore (C : Cx p s m meth c Z h0 ws own nm bytes maxL ret) {a : Addr} {n i : Nat} {f : Nat → Value} {j : Int32} {x : Int32} (A : Af Z h a .byte n f) (hj : ¬ j < 0) (hi : j.toNatClampNeg = i) (hn : i < n) (ha : a ∈ ws ∨ h0.size ≤ a) (hd : decode bytes pc = .ok (.bastore, 1)) (hp : pc + 1 = pc') (k : ∀ h', Wr h h' a i (.int (nar .byte x)) → Af Z h' a .byte n (upd f i (.int (nar .byte x))) → G p l e R s m args below meth c ws Φ h' cells slots pc' Ls st) : G p l e R s m args below meth c ws Φ h cells slots pc Ls (.int x :: .int j :: .ref a :: st) := by
  intro T locs X e1 N
  subst hp hi
  obtain ⟨hx, hZ, hown, hby, hml, hret, hlk, hnm, rfl, hE, hws⟩ := C
  obtain ⟨kk, A0, h1, -⟩ := id A
  obtain ⟨T', h', X', e2, W, stp⟩ := stB X hx hZ e1 A0 (af_in h1 hj rfl hn) (g := mkF m pc Ls (.int x :: .int j :: .ref a :: st)) rfl rfl (hb hby hd)
  obtain ⟨s2, o, q, r⟩ := k h' W (A.same W (fits_nar_byte x)) T' _ X' e2 (N.app (Lw.one ha))
  exact ⟨s2, o, stp _ q, r⟩
theorem g_lastore (C : Cx p s m meth c Z h0 ws own nm bytes maxL ret) {a : Addr} {n i : Nat} {f : Nat → Value} {j : Int32} {x : Int64} (A : Af Z h a .long n f) (hj : ¬ j < 0) (hi : j.toNatClampNeg = i) (hn : i < n) (ha : a ∈ ws ∨ h0.size ≤ a) (hd : decode bytes pc = .ok (.lastore, 1)) (hp : pc + 1 = pc') (k : ∀ h', Wr h h' a i (.long x) → Af Z h' a .long n (upd f i (.long x)) → G p l e R s m args below meth c ws Φ h' cells slots pc' Ls st) : G p l e R s m args below meth c ws Φ h cells slots pc Ls (.long x :: .int j :: .ref a :: st) := by
  intro T locs X e1 N
  subst hp hi
  obtain ⟨hx, hZ, hown, hby, hml, hret, hlk, hnm, rfl, hE, hws⟩ := C
  obtain ⟨kk, A0, h1, -⟩ := id A
  obtain ⟨T', h', X', e2, W, stp⟩ := stJ X hx hZ e1 A0 (af_in h1 hj rfl hn) (g := mkF m pc Ls (.long x :: .int j :: .ref a :: st)) rfl rfl (hb hby hd)
  obtain ⟨s2, o, q, r⟩ := k h' W (A.same W (rfl)) T' _ X' e2 (N.app (Lw.one ha))
  exact ⟨s2, o, stp _ q, r⟩
theorem g_aastore (C : Cx p s m meth c Z h0 ws own nm bytes maxL ret) {a : Addr} {n i : Nat} {f : Nat → Value} {j : Int32} {v : Value} {ty : FieldType} (A : Af Z h a ty n f) (hty : ty.isReference = true) (S : Sto Z h a v) (hfv : fits ty v = true) (hj : ¬ j < 0) (hi : j.toNatClampNeg = i) (hn : i < n) (ha : a ∈ ws ∨ h0.size ≤ a) (hd : decode bytes pc = .ok (.aastore, 1)) (hp : pc + 1 = pc') (k : ∀ h', Wr h h' a i v → Af Z h' a ty n (upd f i v) → G p l e R s m args below meth c ws Φ h' cells slots pc' Ls st) : G p l e R s m args below meth c ws Φ h cells slots pc Ls (v :: .int j :: .ref a :: st) := by
  intro T locs X e1 N
  subst hp hi
  obtain ⟨hx, hZ, hown, hby, hml, hret, hlk, hnm, rfl, hE, hws⟩ := C
  obtain ⟨kk, A0, h1, -⟩ := id A
  obtain ⟨T', h', X', e2, W, stp⟩ := stR X hx hZ e1 A0 (af_in h1 hj rfl hn) hty S (g := mkF m pc Ls (v :: .int j :: .ref a :: st)) rfl rfl (hb hby hd)
  obtain ⟨s2, o, q, r⟩ := k h' W (A.same W hfv) T' _ X' e2 (N.app (Lw.one ha))
  exact ⟨s2, o, stp _ q, r⟩
theorem g_caload (C : Cx p s m meth c Z h0 ws own nm bytes maxL ret) {a : Addr} {n i : Nat} {f : Nat → Value} {j : Int32} {v : Value} (A : Af Z h a .char n f) (hj : ¬ j < 0) (hi : j.toNatClampNeg = i) (hn : i < n) (hv : f i = v) (hd : decode bytes pc = .ok (.caload, 1)) (hp : pc + 1 = pc') (k : G p l e R s m args below meth c ws Φ h cells slots pc' Ls (v :: st)) : G p l e R s m args below meth c ws Φ h cells slots pc Ls (.int j :: .ref a :: st) := by
  subst hp hi hv
  obtain ⟨hx, hZ, hown, hby, hml, hret, hlk, hnm, rfl, hE, hws⟩ := C
  obtain ⟨kk, A0, h1, h2, h3, h4⟩ := A
  exact g_ofX (fun T locs X e1 t q => X.caload hx (by rw [e1]; exact A0.1) (State.isArrayOf_alike hZ.alike A0.2.1) A0.2.2 (af_in h1 hj rfl hn) (h3 _ hn) (g := mkF m pc Ls (.int j :: .ref a :: st)) rfl rfl (hb hby hd) _ q) k
theorem g_iaload (C : Cx p s m meth c Z h0 ws own nm bytes maxL ret) {a : Addr} {n i : Nat} {f : Nat → Value} {j : Int32} {v : Value} (A : Af Z h a .int n f) (hj : ¬ j < 0) (hi : j.toNatClampNeg = i) (hn : i < n) (hv : f i = v) (hd : decode bytes pc = .ok (.iaload, 1)) (hp : pc + 1 = pc') (k : G p l e R s m args below meth c ws Φ h cells slots pc' Ls (v :: st)) : G p l e R s m args below meth c ws Φ h cells slots pc Ls (.int j :: .ref a :: st) := by
  subst hp hi hv
  obtain ⟨hx, hZ, hown, hby, hml, hret, hlk, hnm, rfl, hE, hws⟩ := C
  obtain ⟨kk, A0, h1, h2, h3, h4⟩ := A
  exact g_ofX (fun T locs X e1 t q => X.iaload hx (by rw [e1]; exact A0.1) (State.isArrayOf_alike hZ.alike A0.2.1) A0.2.2 (af_in h1 hj rfl hn) (h3 _ hn) (g := mkF m pc Ls (.int j :: .ref a :: st)) rfl rfl (hb hby hd) _ q) k
theorem g_baload (C : Cx p s m meth c Z h0 ws own nm bytes maxL ret) {a : Addr} {n i : Nat} {f : Nat → Value} {j : Int32} {v : Value} (A : Af Z h a .byte n f) (hj : ¬ j < 0) (hi : j.toNatClampNeg = i) (hn : i < n) (hv : f i = v) (hd : decode bytes pc = .ok (.baload, 1)) (hp : pc + 1 = pc') (k : G p l e R s m args below meth c ws Φ h cells slots pc' Ls (v :: st)) : G p l e R s m args below meth c ws Φ h cells slots pc Ls (.int j :: .ref a :: st) := by
  subst hp hi hv
  obtain ⟨hx, hZ, hown, hby, hml, hret, hlk, hnm, rfl, hE, hws⟩ := C
  obtain ⟨kk, A0, h1, h2, h3, h4⟩ := A
  exact g_ofX (fun T locs X e1 t q => X.baloadBytes hx (by rw [e1]; exact A0.1) (State.isArrayOf_alike hZ.alike A0.2.1) A0.2.2 (af_in h1 hj rfl hn) (h3 _ hn) (g := mkF m pc Ls (.int j :: .ref a :: st)) rfl rfl (hb hby hd) _ q) k
theorem g_laload (C : Cx p s m meth c Z h0 ws own nm bytes maxL ret) {a : Addr} {n i : Nat} {f : Nat → Value} {j : Int32} {v : Value} (A : Af Z h a .long n f) (hj : ¬ j < 0) (hi : j.toNatClampNeg = i) (hn : i < n) (hv : f i = v) (hd : decode bytes pc = .ok (.laload, 1)) (hp : pc + 1 = pc') (k : G p l e R s m args below meth c ws Φ h cells slots pc' Ls (v :: st)) : G p l e R s m args below meth c ws Φ h cells slots pc Ls (.int j :: .ref a :: st) := by
  subst hp hi hv
  obtain ⟨hx, hZ, hown, hby, hml, hret, hlk, hnm, rfl, hE, hws⟩ := C
  obtain ⟨kk, A0, h1, h2, h3, h4⟩ := A
  exact g_ofX (fun T locs X e1 t q => X.laload hx (by rw [e1]; exact A0.1) (State.isArrayOf_alike hZ.alike A0.2.1) A0.2.2 (af_in h1 hj rfl hn) (h3 _ hn) (g := mkF m pc Ls (.int j :: .ref a :: st)) rfl rfl (hb hby hd) _ q) k
theorem g_aaload (C : Cx p s m meth c Z h0 ws own nm bytes maxL ret) {a : Addr} {n i : Nat} {f : Nat → Value} {j : Int32} {v : Value} {ty : FieldType} (A : Af Z h a ty n f) (hty : ty.isReference = true) (hj : ¬ j < 0) (hi : j.toNatClampNeg = i) (hn : i < n) (hv : f i = v) (hd : decode bytes pc = .ok (.aaload, 1)) (hp : pc + 1 = pc') (k : G p l e R s m args below meth c ws Φ h cells slots pc' Ls (v :: st)) : G p l e R s m args below meth c ws Φ h cells slots pc Ls (.int j :: .ref a :: st) := by
  subst hp hi hv
  obtain ⟨hx, hZ, hown, hby, hml, hret, hlk, hnm, rfl, hE, hws⟩ := C
  obtain ⟨kk, A0, h1, h2, h3, h4⟩ := A
  exact g_ofX (fun T locs X e1 t q => X.aaload hx (by rw [e1]; exact A0.1) (State.isArrayOf_alike hZ.alike A0.2.1) hty A0.2.2 (af_in h1 hj rfl hn) (h3 _ hn) (g := mkF m pc Ls (.int j :: .ref a :: st)) rfl rfl (hb hby hd) _ q) k
theorem g_arraylength (C : Cx p s m meth c Z h0 ws own nm bytes maxL ret) {a : Addr} {n : Nat} {f : Nat → Value} {ty : FieldType} {z : Int32} (A : Af Z h a ty n f) (hz : Int32.ofNat n = z) (hd : decode bytes pc = .ok (.arraylength, 1)) (hp : pc + 1 = pc') (k : G p l e R s m args below meth c ws Φ h cells slots pc' Ls (.int z :: st)) : G p l e R s m args below meth c ws Φ h cells slots pc Ls (.ref a :: st) := by
  subst hp hz
  obtain ⟨hx, hZ, hown, hby, hml, hret, hlk, hnm, rfl, hE, hws⟩ := C
  obtain ⟨kk, A0, h1, h2, h3, h4⟩ := A
  subst h1
  exact g_ofX (fun T locs X e1 t q => X.arraylength hx (by rw [e1]; exact A0.1) (State.isArrayOf_alike hZ.alike A0.2.1) (g := mkF m pc Ls (.ref a :: st)) rfl rfl (hb hby hd) _ q) k
theorem g_ldcInt (C : Cx p s m meth c Z h0 ws own nm bytes maxL ret) {index : Nat} {x : Int32} (w : (Jvm.Cond.constant own index x).before a0 Z = true) (hd : decode bytes pc = .ok (.ldc index, 2)) (hp : pc + 2 = pc') (k : G p l e R s m args below meth c ws Φ h cells slots pc' Ls (.int x :: st)) : G p l e R s m args below meth c ws Φ h cells slots pc Ls st := by
  subst hp
  obtain ⟨hx, hZ, hown, hby, hml, hret, hlk, hnm, rfl, hE, hws⟩ := C
  exact g_ofX (fun T locs X e1 t q => X.ldcInt hx hown (mvT hZ w) (g := mkF m pc Ls st) rfl (hb hby hd) _ q) k
theorem g_ldc2Long (C : Cx p s m meth c Z h0 ws own nm bytes maxL ret) {index : Nat} {x : Int64} (w : (Jvm.Cond.constantLong own index x).before a0 Z = true) (hd : decode bytes pc = .ok (.ldc2_w index, 3)) (hp : pc + 3 = pc') (k : G p l e R s m args below meth c ws Φ h cells slots pc' Ls (.long x :: st)) : G p l e R s m args below meth c ws Φ h cells slots pc Ls st := by
  subst hp
  obtain ⟨hx, hZ, hown, hby, hml, hret, hlk, hnm, rfl, hE, hws⟩ := C
  exact g_ofX (fun T locs X e1 t q => X.ldc2Long hx hown (mvT hZ w) (g := mkF m pc Ls st) rfl (hb hby hd) _ q) k
theorem g_checkcast (C : Cx p s m meth c Z h0 ws own nm bytes maxL ret) {Kn : String} {index : Nat} {a : Addr} (w : (Jvm.Cond.classLink own index Kn).before a0 Z = true) (I : Ins Z h a Kn true) (hd : decode bytes pc = .ok (.checkcast index, 3)) (hp : pc + 3 = pc') (k : G p l e R s m args below meth c ws Φ h cells slots pc' Ls (.ref a :: st)) : G p l e R s m args below meth c ws Φ h cells slots pc Ls (.ref a :: st) := by
  intro T locs X e1 N
  subst hp
  obtain ⟨hx, hZ, hown, hby, hml, hret, hlk, hnm, rfl, hE, hws⟩ := C
  obtain ⟨T', X', e2, stp⟩ := castY X hx hZ hown w e1 I (g := mkF m pc Ls (.ref a :: st)) rfl rfl (hb hby hd)
  obtain ⟨s2, o, q, r⟩ := k T' locs X' e2 N
  exact ⟨s2, o, stp _ q, r⟩
theorem g_instanceofY (C : Cx p s m meth c Z h0 ws own nm bytes maxL ret) {Kn : String} {index : Nat} {a : Addr} (w : (Jvm.Cond.classLink own index Kn).before a0 Z = true) (I : Ins Z h a Kn true) (hd : decode bytes pc = .ok (.instanceof index, 3)) (hp : pc + 3 = pc') (k : G p l e R s m args below meth c ws Φ h cells slots pc' Ls (.int 1 :: st)) : G p l e R s m args below meth c ws Φ h cells slots pc Ls (.ref a :: st) := by
  intro T locs X e1 N
  subst hp
  obtain ⟨hx, hZ, hown, hby, hml, hret, hlk, hnm, rfl, hE, hws⟩ := C
  obtain ⟨T', X', e2, stp⟩ := instY X hx hZ hown w e1 I (g := mkF m pc Ls (.ref a :: st)) rfl rfl (hb hby hd)
  obtain ⟨s2, o, q, r⟩ := k T' locs X' e2 N
  exact ⟨s2, o, stp _ q, r⟩
theorem g_objinit (C : Cx p s m meth c Z h0 ws own nm bytes maxL ret) {index : Nat} {a : Addr} (w1 : (Jvm.Cond.methodLink own index Lib.objectInit).before a0 Z = true) (w2 : (Jvm.Cond.instanceMethod Lib.objectInit).before a0 Z = true) (w3 : (Jvm.Cond.code Lib.objectInit ⟨#[0xb1]⟩ 1 none).before a0 Z = true) (hsz : Ls.size = maxL) (hf : 1 ≤ R.frames) (hl : (st.map fun v => v.category).sum + 12 ≤ R.locals) (hd : decode bytes pc = .ok (.invokespecial index, 3)) (hp : pc + 3 = pc') (k : G p l e R s m args below meth c ws Φ h cells slots pc' Ls st) : G p l e R s m args below meth c ws Φ h cells slots pc Ls (.ref a :: st) := by
  intro T locs X e1 N
  subst hp
  obtain ⟨hx, hZ, hown, hby, hml, hret, hlk, hnm, rfl, hE, hws⟩ := C
  obtain ⟨T', X', e2, stp⟩ := initO X hx hZ hown w1 w2 w3 e1 (g := mkF m pc Ls (.ref a :: st)) rfl (by rw [hml]; exact hsz) rfl (hb hby hd) hf (W := (st.map fun v => v.category).sum) (by show 2 * 0 + _ ≤ _; omega) hl
  obtain ⟨s2, o, q, r⟩ := k T' locs X' e2 N
  exact ⟨s2, o, stp _ q, r⟩
theorem Con.of {y : MethodName} {rm : Room} {as' : Array Value} {tw : List Jvm.Cond} (hy : plainFor y = true) (hf : ∀ m, entryFrame m as' maxL = mkF m 0 Ls []) (body : ∀ p e s m below meth c, Cx p s m meth c Z h ws y.cls y.name bytes maxL ret → G p l e rm s m as' below meth c ws (EndA s ws Q rm.cells rm.slots) h 0 0 0 Ls []) : Con l Z ws y bytes maxL ret rm as' h tw Q := by
  intro hE hws
  refine MetFree.of_bodySF hy hisR ?_
  intro p e s m args below meth c s₁ Bd hml0 hP hK
  obtain ⟨rfl, hZ, rfl⟩ := hP
  have X0 : Stand p l e rm s m args below meth c s₁ [] 0 0 := Stand.of_body Bd
  have e0 : s₁.heap = s.heap := by rw [Bd.state]; rfl
  obtain ⟨s2, o, q, r⟩ := body p e s m below meth c ⟨Bd.exec, hZ, findClass_of_methodNamed Bd.named, Bd.bytes, hml0, Bd.returns, Bd.notSynchronized, (name_of_methodNamed Bd.named Bd.method).1, rfl, hE, hws⟩ s₁ [] X0 e0 Lw.nil
  exact ⟨s2, o, castTop (hf m) q, r⟩
theorem Con.bk {y : MethodName} {bytes' : ByteArray} {maxL' : Nat} {ret' : Option FieldType} {rm : Room} {as' : Array Value} {Q' : Option Value → Heap → Prop} {W len : Nat} (hZ : Z.Warmed39 s.vm) (M : Con l Z ws' y bytes' maxL' ret' rm as' h [] Q') (hE : Ext Z.heap h) (hws : ∀ x ∈ ws', Z.heap.size ≤ x) (w4 : (Jvm.Cond.code y bytes' maxL' ret').before a0 Z = true) (w3 : (Jvm.Cond.initialized y.cls).before a0 Z = true) (hf : rm.frames + 1 ≤ R.frames) (hl : W + (maxL' + 11) + rm.locals ≤ R.locals) :
    Bk l R p e below s args y len W as' h rm.cells rm.slots (fun v h' L => Q' v h' ∧ Keep h h' ws' ∧ Lw h.size ws' L) :=
  backOf (h := h) (as' := as') (Q := fun v h' L => Q' v h' ∧ Keep h h' ws' ∧ Lw h.size ws' L) (M hE hws) hZ w4 w3 hf hl
theorem lw_sub {k0 k : Nat} {L : List Loc} (N : Lw k ws' L) (hk : k0 ≤ k) (hsub : ∀ x ∈ ws', x ∈ ws ∨ k0 ≤ x) : Lw k0 ws L := fun y hy => (N y hy).elim (hsub _) fun q => Or.inr (Nat.le_trans hk q)
theorem ws_sub {ws ws' : List Addr} {k0 kz : Nat} (hsub : ∀ x ∈ ws', x ∈ ws ∨ k0 ≤ x) (hws : ∀ x ∈ ws, kz ≤ x) (hk : kz ≤ k0) : ∀ x ∈ ws', kz ≤ x := fun x hx => (hsub x hx).elim (hws x) (Nat.le_trans hk)
theorem g_static (C : Cx p s m meth c Z h0 ws own nm bytes maxL ret) {index : Nat} {y : MethodName} {bytes' : ByteArray} {maxL' : Nat} {ret' : Option FieldType} (w1 : (Jvm.Cond.methodLink own index y).before a0 Z = true) (w2 : (Jvm.Cond.static y).before a0 Z = true) (w3 : (Jvm.Cond.initialized y.cls).before a0 Z = true) (w4 : (Jvm.Cond.code y bytes' maxL' ret').before a0 Z = true) (hy : y.cls ≠ "java/lang/invoke/MethodHandle" ∧ y.cls ≠ "java/lang/invoke/VarHandle") {W kb sb : Nat} {argsL : List Value} {Qb : Option Value → Heap → List Loc → Prop} (B : Bk l R p e below s args y 3 W argsL.toArray h kb sb Qb) (hsz : Ls.size = maxL) (hlen : ∀ sig, parseMethodDescriptor y.desc = some sig → argsL.length = sig.parameters.length) (hst : st = argsL.reverse ++ rest) (hW : (rest.map fun v => v.category).sum ≤ W) (hd : decode bytes pc = .ok (.invokestatic index, 3)) (hp : pc + 3 = pc') (hc : cells + kb ≤ R.cells) (hs : slots + sb ≤ R.slots) (k : ∀ v h' L, Qb v h' L → Lw h0.size ws L ∧ G p l e R s m args below meth c ws Φ h' (cells + kb) (slots + sb) pc' Ls (v.toList ++ rest)) : G p l e R s m args below meth c ws Φ h cells slots pc Ls st := by
  intro T locs X e1 N
  subst hp hst
  obtain ⟨hx, hZ, hown, hby, hml, hret, hlk, hnm, rfl, hE, hws⟩ := C
  obtain ⟨v, vm1, ⟨T', L', k', n'⟩, -, X', ⟨L, hQ, hl, hk, hn⟩, stp⟩ := Jvm.LawKit.callS X hx hown (mvT hZ w1) (mvT hZ w2) (mvT hZ w3) (mvT hZ w4) hy B (g := mkF m pc Ls (argsL.reverse ++ rest)) rfl (by rw [hml]; exact hsz) (argsL := argsL) (rest := rest) hlen rfl (by show 2 * 0 + _ ≤ _; omega) (hb hby hd) (fun _ _ => ⟨rfl, e1, hc, hs⟩)
  dsimp only [Pt.U, Pt.locs, Pt.cells, Pt.slots] at X' hl hk hn stp hQ
  subst hl hk hn
  obtain ⟨hF, k1⟩ := k _ _ _ hQ
  obtain ⟨s2, o, q, r⟩ := k1 T' _ X' rfl (N.app hF)
  exact ⟨s2, o, stp _ q, r⟩
theorem g_staticC (C : Cx p s m meth c Z h0 ws own nm bytes maxL ret) {index : Nat} {y : MethodName} {bytes' : ByteArray} {maxL' : Nat} {ret' : Option FieldType} {W : Nat} {argsL : List Value} {rm : Room} {Q' : Option Value → Heap → Prop} (M : Con l Z ws' y bytes' maxL' ret' rm argsL.toArray h [] Q') (w1 : (Jvm.Cond.methodLink own index y).before a0 Z = true) (w2 : (Jvm.Cond.static y).before a0 Z = true) (w3 : (Jvm.Cond.initialized y.cls).before a0 Z = true) (w4 : (Jvm.Cond.code y bytes' maxL' ret').before a0 Z = true) (hy : y.cls ≠ "java/lang/invoke/MethodHandle" ∧ y.cls ≠ "java/lang/invoke/VarHandle") (hsz : Ls.size = maxL) (hlen : ∀ sig, parseMethodDescriptor y.desc = some sig → argsL.length = sig.parameters.length) (hst : st = argsL.reverse ++ rest) (hW : (rest.map fun v => v.category).sum ≤ W) (hd : decode bytes pc = .ok (.invokestatic index, 3)) (hp : pc + 3 = pc') (hc : cells + rm.cells ≤ R.cells) (hs : slots + rm.slots ≤ R.slots) (hsub : ∀ x ∈ ws', x ∈ ws ∨ h0.size ≤ x) (hf : rm.frames + 1 ≤ R.frames) (hl : W + (maxL' + 11) + rm.locals ≤ R.locals) (k : ∀ v h', Q' v h' → Keep h h' ws' → G p l e R s m args below meth c ws Φ h' (cells + rm.cells) (slots + rm.slots) pc' Ls (v.toList ++ rest)) : G p l e R s m args below meth c ws Φ h cells slots pc Ls st :=
  g_ctx C fun K0 E0 => g_static C w1 w2 w3 w4 hy (M.bk C.2.1 E0 (ws_sub hsub C.2.2.2.2.2.2.2.2.2.2 C.2.2.2.2.2.2.2.2.2.1.1) w4 w3 hf hl) hsz hlen hst hW hd hp hc hs fun v h' L q => ⟨lw_sub q.2.2 K0.1 hsub, k v h' q.1 q.2.1⟩
theorem g_special (C : Cx p s m meth c Z h0 ws own nm bytes maxL ret) {index : Nat} {y : MethodName} {bytes' : ByteArray} {maxL' : Nat} {a : Addr} (hy1 : y.name = "<init>") (w1 : (Jvm.Cond.methodLink own index y).before a0 Z = true) (w2 : (Jvm.Cond.instanceMethod y).before a0 Z = true) (w4 : (Jvm.Cond.code y bytes' maxL' none).before a0 Z = true) (hy : y.cls ≠ "java/lang/invoke/MethodHandle" ∧ y.cls ≠ "java/lang/invoke/VarHandle") {W kb sb : Nat} {argsL : List Value} {Qb : Option Value → Heap → List Loc → Prop} (B : Bk l R p e below s args y 3 W (.ref a :: argsL).toArray h kb sb Qb) (hsz : Ls.size = maxL) (hlen : ∀ sig, parseMethodDescriptor y.desc = some sig → argsL.length = sig.parameters.length) (hst : st = argsL.reverse ++ .ref a :: rest) (hW : (rest.map fun v => v.category).sum ≤ W) (hd : decode bytes pc = .ok (.invokespecial index, 3)) (hp : pc + 3 = pc') (hc : cells + kb ≤ R.cells) (hs : slots + sb ≤ R.slots) (k : ∀ v h' L, Qb v h' L → Lw h0.size ws L ∧ G p l e R s m args below meth c ws Φ h' (cells + kb) (slots + sb) pc' Ls (v.toList ++ rest)) : G p l e R s m args below meth c ws Φ h cells slots pc Ls st := by
  intro T locs X e1 N
  subst hp hst
  obtain ⟨hx, hZ, hown, hby, hml, hret, hlk, hnm, rfl, hE, hws⟩ := C
  obtain ⟨v, vm1, ⟨T', L', k', n'⟩, -, X', ⟨L, hQ, hl, hk, hn⟩, stp⟩ := X.specialBack hx hy1 hown (mvT hZ w1) (mvT hZ w2) (mvT hZ w4) hy B (g := mkF m pc Ls (argsL.reverse ++ .ref a :: rest)) rfl (by rw [hml]; exact hsz) (Steps.refl _) (a := a) (argsL := argsL) (rest := rest) hlen rfl (by show 2 * 0 + _ ≤ _; omega) (hb hby hd) (fun _ _ => ⟨rfl, e1, hc, hs⟩)
  dsimp only [Pt.U, Pt.locs, Pt.cells, Pt.slots] at X' hl hk hn stp hQ
  subst hl hk hn
  obtain ⟨hF, k1⟩ := k _ _ _ hQ
  obtain ⟨s2, o, q, r⟩ := k1 T' _ X' rfl (N.app hF)
  exact ⟨s2, o, stp.trans q, r⟩
theorem g_specialC (C : Cx p s m meth c Z h0 ws own nm bytes maxL ret) {index : Nat} {y : MethodName} {bytes' : ByteArray} {maxL' : Nat} {W : Nat} {argsL : List Value} {a : Addr} {rm : Room} {Q' : Option Value → Heap → Prop} (M : Con l Z ws' y bytes' maxL' none rm (.ref a :: argsL).toArray h [] Q') (hy1 : y.name = "<init>") (w1 : (Jvm.Cond.methodLink own index y).before a0 Z = true) (w2 : (Jvm.Cond.instanceMethod y).before a0 Z = true) (w3 : (Jvm.Cond.initialized y.cls).before a0 Z = true) (w4 : (Jvm.Cond.code y bytes' maxL' none).before a0 Z = true) (hy : y.cls ≠ "java/lang/invoke/MethodHandle" ∧ y.cls ≠ "java/lang/invoke/VarHandle") (hsz : Ls.size = maxL) (hlen : ∀ sig, parseMethodDescriptor y.desc = some sig → argsL.length = sig.parameters.length) (hst : st = argsL.reverse ++ .ref a :: rest) (hW : (rest.map fun v => v.category).sum ≤ W) (hd : decode bytes pc = .ok (.invokespecial index, 3)) (hp : pc + 3 = pc') (hc : cells + rm.cells ≤ R.cells) (hs : slots + rm.slots ≤ R.slots) (hsub : ∀ x ∈ ws', x ∈ ws ∨ h0.size ≤ x) (hf : rm.frames + 1 ≤ R.frames) (hl : W + (maxL' + 11) + rm.locals ≤ R.locals) (k : ∀ v h', Q' v h' → Keep h h' ws' → G p l e R s m args below meth c ws Φ h' (cells + rm.cells) (slots + rm.slots) pc' Ls (v.toList ++ rest)) : G p l e R s m args below meth c ws Φ h cells slots pc Ls st :=
  g_ctx C fun K0 E0 => g_special C hy1 w1 w2 w4 hy (M.bk C.2.1 E0 (ws_sub hsub C.2.2.2.2.2.2.2.2.2.2 C.2.2.2.2.2.2.2.2.2.1.1) w4 w3 hf hl) hsz hlen hst hW hd hp hc hs fun v h' L q => ⟨lw_sub q.2.2 K0.1 hsub, k v h' q.1 q.2.1⟩
theorem g_virtual (C : Cx p s m meth c Z h0 ws own nm bytes maxL ret) {index : Nat} {Cn : String} {y z : MethodName} {a : Addr} (w1 : (Jvm.Cond.methodLink own index y).before a0 Z = true) (w2 : (Jvm.Cond.declares y).before a0 Z = true) (w3 : (Jvm.Cond.selects Cn y z).before a0 Z = true) (hnf : ∀ b : State, Z.Warmed39 b.vm → NotFace b y) (w4 : (Jvm.Cond.instanceMethod z).before a0 Z = true) (hy : y.cls ≠ "java/lang/invoke/MethodHandle" ∧ y.cls ≠ "java/lang/invoke/VarHandle") {W kb sb : Nat} {argsL : List Value} {Qb : Option Value → Heap → List Loc → Prop} (B : Bk l R p e below s args z 3 W (.ref a :: argsL).toArray h kb sb Qb) (E : Exa Z h a Cn) (hsz : Ls.size = maxL) (hlen : ∀ sig, parseMethodDescriptor y.desc = some sig → argsL.length = sig.parameters.length) (hst : st = argsL.reverse ++ .ref a :: rest) (hW : (rest.map fun v => v.category).sum ≤ W) (hd : decode bytes pc = .ok (.invokevirtual index, 3)) (hp : pc + 3 = pc') (hc : cells + kb ≤ R.cells) (hs : slots + sb ≤ R.slots) (k : ∀ v h' L, Qb v h' L → Lw h0.size ws L ∧ G p l e R s m args below meth c ws Φ h' (cells + kb) (slots + sb) pc' Ls (v.toList ++ rest)) : G p l e R s m args below meth c ws Φ h cells slots pc Ls st := by
  intro T locs X e1 N
  subst hp hst
  obtain ⟨hx, hZ, hown, hby, hml, hret, hlk, hnm, rfl, hE, hws⟩ := C
  obtain ⟨cq, kq, q1, q2, q3⟩ := isOf hZ e1 E
  obtain ⟨v, vm1, ⟨T', L', k', n'⟩, -, X', ⟨L, hQ, hl, hk, hn⟩, stp⟩ := X.virtualBack hx hown (mvT hZ w1) (mvT hZ w2) (hnf s hZ) (mvT hZ w3) (mvT hZ w4) hy B q1 q3 (g := mkF m pc Ls (argsL.reverse ++ .ref a :: rest)) rfl (by rw [hml]; exact hsz) (Steps.refl _) (argsL := argsL) (rest := rest) hlen rfl (by show 2 * 0 + _ ≤ _; omega) (hb hby hd) (fun _ _ => ⟨rfl, e1, hc, hs⟩)
  dsimp only [Pt.U, Pt.locs, Pt.cells, Pt.slots] at X' hl hk hn stp hQ
  subst hl hk hn
  obtain ⟨hF, k1⟩ := k _ _ _ hQ
  obtain ⟨s2, o, q, r⟩ := k1 T' _ X' rfl (N.app hF)
  exact ⟨s2, o, stp.trans q, r⟩
theorem g_virtualC (C : Cx p s m meth c Z h0 ws own nm bytes maxL ret) {index : Nat} {Cn : String} {y z : MethodName} {bytes' : ByteArray} {maxL' : Nat} {ret' : Option FieldType} {W : Nat} {argsL : List Value} {a : Addr} {rm : Room} {Q' : Option Value → Heap → Prop} (M : Con l Z ws' z bytes' maxL' ret' rm (.ref a :: argsL).toArray h [] Q') (w1 : (Jvm.Cond.methodLink own index y).before a0 Z = true) (w2 : (Jvm.Cond.declares y).before a0 Z = true) (w3 : (Jvm.Cond.selects Cn y z).before a0 Z = true) (hnf : ∀ b : State, Z.Warmed39 b.vm → NotFace b y) (w4 : (Jvm.Cond.instanceMethod z).before a0 Z = true) (w5 : (Jvm.Cond.initialized z.cls).before a0 Z = true) (w6 : (Jvm.Cond.code z bytes' maxL' ret').before a0 Z = true) (hy : y.cls ≠ "java/lang/invoke/MethodHandle" ∧ y.cls ≠ "java/lang/invoke/VarHandle") (E : Exa Z h a Cn) (hsz : Ls.size = maxL) (hlen : ∀ sig, parseMethodDescriptor y.desc = some sig → argsL.length = sig.parameters.length) (hst : st = argsL.reverse ++ .ref a :: rest) (hW : (rest.map fun v => v.category).sum ≤ W) (hd : decode bytes pc = .ok (.invokevirtual index, 3)) (hp : pc + 3 = pc') (hc : cells + rm.cells ≤ R.cells) (hs : slots + rm.slots ≤ R.slots) (hsub : ∀ x ∈ ws', x ∈ ws ∨ h0.size ≤ x) (hf : rm.frames + 1 ≤ R.frames) (hl : W + (maxL' + 11) + rm.locals ≤ R.locals) (k : ∀ v h', Q' v h' → Keep h h' ws' → G p l e R s m args below meth c ws Φ h' (cells + rm.cells) (slots + rm.slots) pc' Ls (v.toList ++ rest)) : G p l e R s m args below meth c ws Φ h cells slots pc Ls st :=
  g_ctx C fun K0 E0 => g_virtual C w1 w2 w3 hnf w4 hy (M.bk C.2.1 E0 (ws_sub hsub C.2.2.2.2.2.2.2.2.2.2 C.2.2.2.2.2.2.2.2.2.1.1) w6 w5 hf hl) E hsz hlen hst hW hd hp hc hs fun v h' L q => ⟨lw_sub q.2.2 K0.1 hsub, k v h' q.1 q.2.1⟩
theorem g_specialN (C : Cx p s m meth c Z h0 ws own nm bytes maxL ret) {index : Nat} {y : MethodName} {host : String} {bytes' : ByteArray} {maxL' : Nat} {a : Addr} (hy1 : y.name = "<init>") (w1 : (Jvm.Cond.methodLinkNest own index y host).before a0 Z = true) (w2 : (Jvm.Cond.instanceMethod y).before a0 Z = true) (w4 : (Jvm.Cond.code y bytes' maxL' none).before a0 Z = true) (hy : y.cls ≠ "java/lang/invoke/MethodHandle" ∧ y.cls ≠ "java/lang/invoke/VarHandle") {W kb sb : Nat} {argsL : List Value} {Qb : Option Value → Heap → List Loc → Prop} (B : Bk l R p e below s args y 3 W (.ref a :: argsL).toArray h kb sb Qb) (hsz : Ls.size = maxL) (hlen : ∀ sig, parseMethodDescriptor y.desc = some sig → argsL.length = sig.parameters.length) (hst : st = argsL.reverse ++ .ref a :: rest) (hW : (rest.map fun v => v.category).sum ≤ W) (hd : decode bytes pc = .ok (.invokespecial index, 3)) (hp : pc + 3 = pc') (hc : cells + kb ≤ R.cells) (hs : slots + sb ≤ R.slots) (k : ∀ v h' L, Qb v h' L → Lw h0.size ws L ∧ G p l e R s m args below meth c ws Φ h' (cells + kb) (slots + sb) pc' Ls (v.toList ++ rest)) : G p l e R s m args below meth c ws Φ h cells slots pc Ls st := by
  intro T locs X e1 N
  subst hp hst
  obtain ⟨hx, hZ, hown, hby, hml, hret, hlk, hnm, rfl, hE, hws⟩ := C
  obtain ⟨v, vm1, ⟨T', L', k', n'⟩, -, X', ⟨L, hQ, hl, hk, hn⟩, stp⟩ := X.specialBackNest hx hy1 hown (Cond.methodLinkNest_wide hZ w1 :) (mvT hZ w2) (mvT hZ w4) hy B (g := mkF m pc Ls (argsL.reverse ++ .ref a :: rest)) rfl (by rw [hml]; exact hsz) (Steps.refl _) (a := a) (argsL := argsL) (rest := rest) hlen rfl (by show 2 * 0 + _ ≤ _; omega) (hb hby hd) (fun _ _ => ⟨rfl, e1, hc, hs⟩)
  dsimp only [Pt.U, Pt.locs, Pt.cells, Pt.slots] at X' hl hk hn stp hQ
  subst hl hk hn
  obtain ⟨hF, k1⟩ := k _ _ _ hQ
  obtain ⟨s2, o, q, r⟩ := k1 T' _ X' rfl (N.app hF)
  exact ⟨s2, o, stp.trans q, r⟩
theorem g_specialNC (C : Cx p s m meth c Z h0 ws own nm bytes maxL ret) {index : Nat} {y : MethodName} {host : String} {bytes' : ByteArray} {maxL' : Nat} {W : Nat} {argsL : List Value} {a : Addr} {rm : Room} {Q' : Option Value → Heap → Prop} (M : Con l Z ws' y bytes' maxL' none rm (.ref a :: argsL).toArray h [] Q') (hy1 : y.name = "<init>") (w1 : (Jvm.Cond.methodLinkNest own index y host).before a0 Z = true) (w2 : (Jvm.Cond.instanceMethod y).before a0 Z = true) (w3 : (Jvm.Cond.initialized y.cls).before a0 Z = true) (w4 : (Jvm.Cond.code y bytes' maxL' none).before a0 Z = true) (hy : y.cls ≠ "java/lang/invoke/MethodHandle" ∧ y.cls ≠ "java/lang/invoke/VarHandle") (hsz : Ls.size = maxL) (hlen : ∀ sig, parseMethodDescriptor y.desc = some sig → argsL.length = sig.parameters.length) (hst : st = argsL.reverse ++ .ref a :: rest) (hW : (rest.map fun v => v.category).sum ≤ W) (hd : decode bytes pc = .ok (.invokespecial index, 3)) (hp : pc + 3 = pc') (hc : cells + rm.cells ≤ R.cells) (hs : slots + rm.slots ≤ R.slots) (hsub : ∀ x ∈ ws', x ∈ ws ∨ h0.size ≤ x) (hf : rm.frames + 1 ≤ R.frames) (hl : W + (maxL' + 11) + rm.locals ≤ R.locals) (k : ∀ v h', Q' v h' → Keep h h' ws' → G p l e R s m args below meth c ws Φ h' (cells + rm.cells) (slots + rm.slots) pc' Ls (v.toList ++ rest)) : G p l e R s m args below meth c ws Φ h cells slots pc Ls st :=
  g_ctx C fun K0 E0 => g_specialN C hy1 w1 w2 w4 hy (M.bk C.2.1 E0 (ws_sub hsub C.2.2.2.2.2.2.2.2.2.2 C.2.2.2.2.2.2.2.2.2.1.1) w4 w3 hf hl) hsz hlen hst hW hd hp hc hs fun v h' L q => ⟨lw_sub q.2.2 K0.1 hsub, k v h' q.1 q.2.1⟩
theorem g_interface (C : Cx p s m meth c Z h0 ws own nm bytes maxL ret) {index count : Nat} {Cn : String} {y z : MethodName} {a : Addr} (w1 : (Jvm.Cond.methodLink own index y).before a0 Z = true) (w2 : (Jvm.Cond.declares y).before a0 Z = true) (w7 : (Jvm.Cond.interfaceMethod y.cls y.cls y.name y.desc).before a0 Z = true) (w3 : (Jvm.Cond.selects Cn y z).before a0 Z = true) (w4 : (Jvm.Cond.instanceMethod z).before a0 Z = true) (w8 : (Jvm.Cond.publicMethod z).before a0 Z = true) (w9 : (Jvm.Cond.unhidden Cn y.name y.desc).before a0 Z = true) (w10 : (Jvm.Cond.castable Cn y.cls).before a0 Z = true) (hy : y.cls ≠ "java/lang/invoke/MethodHandle" ∧ y.cls ≠ "java/lang/invoke/VarHandle") {W kb sb : Nat} {argsL : List Value} {Qb : Option Value → Heap → List Loc → Prop} (B : Bk l R p e below s args z 5 W (.ref a :: argsL).toArray h kb sb Qb) (E : Exa Z h a Cn) (hsz : Ls.size = maxL) (hlen : ∀ sig, parseMethodDescriptor y.desc = some sig → argsL.length = sig.parameters.length) (hst : st = argsL.reverse ++ .ref a :: rest) (hW : (rest.map fun v => v.category).sum ≤ W) (hd : decode bytes pc = .ok (.invokeinterface index count, 5)) (hp : pc + 5 = pc') (hc : cells + kb ≤ R.cells) (hs : slots + sb ≤ R.slots) (k : ∀ v h' L, Qb v h' L → Lw h0.size ws L ∧ G p l e R s m args below meth c ws Φ h' (cells + kb) (slots + sb) pc' Ls (v.toList ++ rest)) : G p l e R s m args below meth c ws Φ h cells slots pc Ls st := by
  intro T locs X e1 N
  subst hp hst
  obtain ⟨hx, hZ, hown, hby, hml, hret, hlk, hnm, rfl, hE, hws⟩ := C
  obtain ⟨cq, kq, q1, q2, q3⟩ := isOf hZ e1 E
  obtain ⟨v, vm1, ⟨T', L', k', n'⟩, -, X', ⟨L, hQ, hl, hk, hn⟩, stp⟩ := X.interfaceBack hx hown (mvT hZ w1) (mvT hZ w2) (mvT hZ w7 (by simp [Cond.onTables, Cond.keepsFace, Cond.keeps, Cond.steady, Cond.faceAtom, hy.1, hy.2])) (mvT hZ w3) (mvT hZ w4) (mvT hZ w8) (mvT hZ w9) (mvT hZ w10) hy B q1 q2 q3 (g := mkF m pc Ls (argsL.reverse ++ .ref a :: rest)) rfl (by rw [hml]; exact hsz) (Steps.refl _) (argsL := argsL) (rest := rest) hlen rfl (by show 2 * 0 + _ ≤ _; omega) (hb hby hd) (fun _ _ => ⟨rfl, e1, hc, hs⟩)
  dsimp only [Pt.U, Pt.locs, Pt.cells, Pt.slots] at X' hl hk hn stp hQ
  subst hl hk hn
  obtain ⟨hF, k1⟩ := k _ _ _ hQ
  obtain ⟨s2, o, q, r⟩ := k1 T' _ X' rfl (N.app hF)
  exact ⟨s2, o, stp.trans q, r⟩
theorem g_interfaceC (C : Cx p s m meth c Z h0 ws own nm bytes maxL ret) {index count : Nat} {Cn : String} {y z : MethodName} {bytes' : ByteArray} {maxL' : Nat} {ret' : Option FieldType} {W : Nat} {argsL : List Value} {a : Addr} {rm : Room} {Q' : Option Value → Heap → Prop} (M : Con l Z ws' z bytes' maxL' ret' rm (.ref a :: argsL).toArray h [] Q') (w1 : (Jvm.Cond.methodLink own index y).before a0 Z = true) (w2 : (Jvm.Cond.declares y).before a0 Z = true) (w7 : (Jvm.Cond.interfaceMethod y.cls y.cls y.name y.desc).before a0 Z = true) (w3 : (Jvm.Cond.selects Cn y z).before a0 Z = true) (w4 : (Jvm.Cond.instanceMethod z).before a0 Z = true) (w8 : (Jvm.Cond.publicMethod z).before a0 Z = true) (w9 : (Jvm.Cond.unhidden Cn y.name y.desc).before a0 Z = true) (w10 : (Jvm.Cond.castable Cn y.cls).before a0 Z = true) (w5 : (Jvm.Cond.initialized z.cls).before a0 Z = true) (w6 : (Jvm.Cond.code z bytes' maxL' ret').before a0 Z = true) (hy : y.cls ≠ "java/lang/invoke/MethodHandle" ∧ y.cls ≠ "java/lang/invoke/VarHandle") (E : Exa Z h a Cn) (hsz : Ls.size = maxL) (hlen : ∀ sig, parseMethodDescriptor y.desc = some sig → argsL.length = sig.parameters.length) (hst : st = argsL.reverse ++ .ref a :: rest) (hW : (rest.map fun v => v.category).sum ≤ W) (hd : decode bytes pc = .ok (.invokeinterface index count, 5)) (hp : pc + 5 = pc') (hc : cells + rm.cells ≤ R.cells) (hs : slots + rm.slots ≤ R.slots) (hsub : ∀ x ∈ ws', x ∈ ws ∨ h0.size ≤ x) (hf : rm.frames + 1 ≤ R.frames) (hl : W + (maxL' + 11) + rm.locals ≤ R.locals) (k : ∀ v h', Q' v h' → Keep h h' ws' → G p l e R s m args below meth c ws Φ h' (cells + rm.cells) (slots + rm.slots) pc' Ls (v.toList ++ rest)) : G p l e R s m args below meth c ws Φ h cells slots pc Ls st :=
  g_ctx C fun K0 E0 => g_interface C w1 w2 w7 w3 w4 w8 w9 w10 hy (M.bk C.2.1 E0 (ws_sub hsub C.2.2.2.2.2.2.2.2.2.2 C.2.2.2.2.2.2.2.2.2.1.1) w6 w5 hf hl) E hsz hlen hst hW hd hp hc hs fun v h' L q => ⟨lw_sub q.2.2 K0.1 hsub, k v h' q.1 q.2.1⟩
theorem g_tswOut (C : Cx p s m meth c Z h0 ws own nm bytes maxL ret) {dflt low high : Int} {offs : Array Int} {len : Nat} {x : Int32} (hd : decode bytes pc = .ok (.tableswitch dflt low high offs, len)) (hout : x.toInt < low ∨ x.toInt > high) (ho : 0 ≤ (pc : Int) + dflt) (hp : ((pc : Int) + dflt).toNat = pc') (k : G p l e R s m args below meth c ws Φ h cells slots pc' Ls st) : G p l e R s m args below meth c ws Φ h cells slots pc Ls (.int x :: st) :=
  g_of (fun T A t q => XS.tswOut A C.1 rfl rfl (hb C.2.2.2.1 hd) rfl hout ho hp q) k
theorem g_ireturn (C : Cx p s m meth c Z h0 ws own nm bytes maxL (some .int)) {x : Int32} (hd : decode bytes pc = .ok (.ireturn, 1)) (hQ : Q (some (.int x)) h) (hc : cells ≤ kc) (hs : slots ≤ ks) : G p l e R s m args below meth c ws (EndA s ws Q kc ks) h cells slots pc Ls [.int x] := by
  intro T locs X e1 N
  obtain ⟨hx, hZ, hown, hby, hml, hret, hlk, hnm, rfl, hE, hws⟩ := C
  obtain ⟨fs, hr, hrun, hended, hW, hsame⟩ := X.leave (v := (some (.int x))) (fun h => by rw [hret] at h; cases h) hlk
  exact ⟨_, _, X.ireturnOut hx hret rfl (Or.inl rfl) (hb hby hd) hr, hrun, hended, _, _, rfl, ⟨by rw [show (T.setFrames fs).heap = h from e1]; exact hQ, by rw [show (T.setFrames fs).heap = T.heap from rfl]; exact keep_of X N, N⟩, ⟨_, rfl⟩, hW, hsame.mono hc hs⟩
theorem g_ireturnN {t : FieldType} (C : Cx p s m meth c Z h0 ws own nm bytes maxL (some t)) {x : Int32} (ht : t = .boolean ∨ t = .byte ∨ t = .char ∨ t = .short) (hd : decode bytes pc = .ok (.ireturn, 1)) (hQ : Q (some (.int (nar t x))) h) (hc : cells ≤ kc) (hs : slots ≤ ks) : G p l e R s m args below meth c ws (EndA s ws Q kc ks) h cells slots pc Ls (.int x :: st) := by
  intro T locs X e1 N
  obtain ⟨hx, hZ, hown, hby, hml, hret, hlk, hnm, rfl, hE, hws⟩ := C
  obtain ⟨fs, hr, hrun, hended, hW, hsame⟩ := X.leave (v := (some (.int (nar t x)))) (fun h => by rw [hret] at h; cases h) hlk
  exact ⟨_, _, retN X hx hret ht (hb hby hd) hr, hrun, hended, _, _, rfl, ⟨by rw [show (T.setFrames fs).heap = h from e1]; exact hQ, by rw [show (T.setFrames fs).heap = T.heap from rfl]; exact keep_of X N, N⟩, ⟨_, rfl⟩, hW, hsame.mono hc hs⟩
theorem g_areturn {t : FieldType} (C : Cx p s m meth c Z h0 ws own nm bytes maxL (some t)) {v : Value} (hv : v.isRef = true) (ht : t.isReference = true) (hd : decode bytes pc = .ok (.areturn, 1)) (hQ : Q (some v) h) (hc : cells ≤ kc) (hs : slots ≤ ks) : G p l e R s m args below meth c ws (EndA s ws Q kc ks) h cells slots pc Ls [v] := by
  intro T locs X e1 N
  obtain ⟨hx, hZ, hown, hby, hml, hret, hlk, hnm, rfl, hE, hws⟩ := C
  obtain ⟨fs, hr, hrun, hended, hW, hsame⟩ := X.leave (v := (some v)) (fun h => by rw [hret] at h; cases h) hlk
  exact ⟨_, _, X.areturnOut hx hv hret ht (hb hby hd) hr, hrun, hended, _, _, rfl, ⟨by rw [show (T.setFrames fs).heap = h from e1]; exact hQ, by rw [show (T.setFrames fs).heap = T.heap from rfl]; exact keep_of X N, N⟩, ⟨_, rfl⟩, hW, hsame.mono hc hs⟩
theorem g_lreturn (C : Cx p s m meth c Z h0 ws own nm bytes maxL (some .long)) {x : Int64} (hd : decode bytes pc = .ok (.lreturn, 1)) (hQ : Q (some (.long x)) h) (hc : cells ≤ kc) (hs : slots ≤ ks) : G p l e R s m args below meth c ws (EndA s ws Q kc ks) h cells slots pc Ls [.long x] := by
  intro T locs X e1 N
  obtain ⟨hx, hZ, hown, hby, hml, hret, hlk, hnm, rfl, hE, hws⟩ := C
  obtain ⟨fs, hr, hrun, hended, hW, hsame⟩ := X.leave (v := (some (.long x))) (fun h => by rw [hret] at h; cases h) hlk
  exact ⟨_, _, X.lreturnOut hx hret (hb hby hd) hr, hrun, hended, _, _, rfl, ⟨by rw [show (T.setFrames fs).heap = h from e1]; exact hQ, by rw [show (T.setFrames fs).heap = T.heap from rfl]; exact keep_of X N, N⟩, ⟨_, rfl⟩, hW, hsame.mono hc hs⟩
theorem g_return (C : Cx p s m meth c Z h0 ws own nm bytes maxL none) (hd : decode bytes pc = .ok (.return_, 1)) (hQ : Q none h) (hc : cells ≤ kc) (hs : slots ≤ ks) : G p l e R s m args below meth c ws (EndA s ws Q kc ks) h cells slots pc Ls [] := by
  intro T locs X e1 N
  obtain ⟨hx, hZ, hown, hby, hml, hret, hlk, hnm, rfl, hE, hws⟩ := C
  obtain ⟨fs, hr, hrun, hended, hW, hsame⟩ := X.leave (v := none) (fun _ => rfl) hlk
  exact ⟨_, _, X.returnOut hx hret (hb hby hd) hr, hrun, hended, _, _, rfl, ⟨by rw [show (T.setFrames fs).heap = h from e1]; exact hQ, by rw [show (T.setFrames fs).heap = T.heap from rfl]; exact keep_of X N, N⟩, ⟨_, rfl⟩, hW, hsame.mono hc hs⟩
end OwnKit
section OwnNum
theorem nar_char_id {x : Int32} (h1 : 0 ≤ x.toInt) (h2 : x.toInt < 65536) : nar .char x = x := by
  have q := c_i2c x
  apply Int32.toInt_inj.mp
  show x.toUInt32.toUInt16.toUInt32.toInt32.toInt = x.toInt
  omega
theorem i32_nat {n : Nat} (h : n < 2 ^ 31) : (Int32.ofNat n).toInt = (n : Int) := Int32.toInt_ofNat_small h
theorem i32_clamp {n : Nat} (h : n < 2 ^ 31) : (Int32.ofNat n).toNatClampNeg = n := by rw [Int32.toNatClampNeg, i32_nat h]; rfl
theorem i32_nn {n : Nat} (h : n < 2 ^ 31) : ¬ Int32.ofNat n < 0 := by rw [Int32.lt_iff_toInt_lt, i32_nat h]; simp
theorem i32_succ {n : Nat} : Int32.ofNat n + 1 = Int32.ofNat (n + 1) := by rw [Int32.ofNat_add]; rfl
end OwnNum
section OwnLoop
variable {p : Program} {l : Launch} {e : Env} {R : Room} {s : State} {m : MethodId} {args : Array Value} {below : List Frame} {meth : Method} {c : Code} {ws : List Addr} {Φ : Outcome → State → Prop} {h : Heap} {cells slots pc : Nat} {Ls : Array Slot} {st : List Value}
/-- a loop over a fixed heap: by the measure -/
theorem g_loop {α : Type} (I : α → Prop) (μ : α → Nat) (Lf : α → Array Slot) (x0 : α) (hI : I x0) (hL : Ls = Lf x0) (step : ∀ x, I x → (∀ y, I y → μ y < μ x → G p l e R s m args below meth c ws Φ h cells slots pc (Lf y) st) → G p l e R s m args below meth c ws Φ h cells slots pc (Lf x) st) : G p l e R s m args below meth c ws Φ h cells slots pc Ls st := by
  subst hL
  have all : ∀ n x, μ x < n → I x → G p l e R s m args below meth c ws Φ h cells slots pc (Lf x) st := by
    intro n
    induction n with
    | zero => intro x hx; exact absurd hx (Nat.not_lt_zero _)
    | succ n ih => intro x hx hi; exact step x hi fun y hy hlt => ih y (by omega) hy
  exact all _ x0 (Nat.lt_succ_self _) hI
/-- a loop whose heap moves -/
theorem g_loopH {α : Type} (I : α → Heap → Prop) (μ : α → Nat) (Lf : α → Array Slot) (x0 : α) (hI : I x0 h) (hL : Ls = Lf x0) (step : ∀ x h, I x h → (∀ y h', I y h' → μ y < μ x → G p l e R s m args below meth c ws Φ h' cells slots pc (Lf y) st) → G p l e R s m args below meth c ws Φ h cells slots pc (Lf x) st) : G p l e R s m args below meth c ws Φ h cells slots pc Ls st := by
  subst hL
  have all : ∀ n x h, μ x < n → I x h → G p l e R s m args below meth c ws Φ h cells slots pc (Lf x) st := by
    intro n
    induction n with
    | zero => intro x h hx; exact absurd hx (Nat.not_lt_zero _)
    | succ n ih => intro x h hx hi; exact step x h hi fun y h' hy hlt => ih y h' (by omega) hy
  exact all _ x0 h (Nat.lt_succ_self _) hI
end OwnLoop

section OwnStr
variable {p : Program} {l : Launch} {e : Env} {R : Room} {s : State} {m : MethodId} {args : Array Value} {below : List Frame} {meth : Method} {c : Code} {Z : State} {h0 : Heap} {ws ws' : List Addr} {own nm : String} {bytes : ByteArray} {maxL : Nat} {ret : Option FieldType} {Φ : Outcome → State → Prop} {h : Heap} {cells slots pc pc' : Nat} {Ls Ls' : Array Slot} {st st' rest : List Value} {a0 : Array Value}
/-- the statics that the String laws read -/
def SS (Z : State) : Prop := ∃ (z : Int32) (fm : Value), Sta Z Z.heap "java/lang/String" "COMPACT_STRINGS" "Z" (.int z) ∧ ¬ z = 0 ∧ Sta Z Z.heap "jdk/internal/util/Preconditions" "SIOOBE_FORMATTER" "Ljava/util/function/BiFunction;" fm ∧ fm.isRef = true
/-- at x lies a String of the chars cs, each 0 to 255 -/
def Str (Z : State) (h : Heap) (x : Addr) (cs : List Int32) : Prop := cs.length ≤ 4000 ∧ (∀ c ∈ cs, ¬ c < 0 ∧ ¬ (255 : Int32) < c) ∧ Exa Z h x "java/lang/String" ∧ Fld Z h x "java/lang/String" "coder" "B" (.int 0) ∧ ∃ (t : Addr) (kb : ClassId), Fld Z h x "java/lang/String" "value" "[B" (.ref t) ∧ Arv Z h t kb .byte (Int32.ofNat cs.length) ((cs.map (fun c => c.toInt8.toInt32)).map Value.int) (.int 0)
/-- an object that is neither a String nor an array, or one not there yet -/
def Nst (Z : State) (h : Heap) (y : Addr) : Prop := h.size ≤ y ∨ ∃ (Cn : String) (k : Nat) (a0 : Array Value), Exa Z h y Cn ∧ (Jvm.Cond.instantiable Cn k).before a0 Z = true ∧ Cn ≠ "java/lang/String"
theorem Str.lt {x : Addr} {cs : List Int32} (S : Str Z h x cs) : x < h.size := S.2.2.1.lt
theorem Str.exa {x : Addr} {cs : List Int32} (S : Str Z h x cs) : Exa Z h x "java/lang/String" := S.2.2.1
theorem Str.keep {h' : Heap} {x : Addr} {cs : List Int32} (S : Str Z h x cs) (K : Keep h h' ws) (q : ∀ y ∈ ws, Nst Z h y) : Str Z h' x cs := by
  obtain ⟨h1, h2, E, Cd, t, kb, V, A⟩ := S
  have hx : x ∉ ws := fun hm => by
    rcases q x hm with z | ⟨Cn, k, a0, E2, wi, hne⟩
    · exact absurd E.lt (Nat.not_lt.mpr z)
    · exact ne_exa E2 E hne rfl
  have ht : t ∉ ws := fun hm => by
    rcases q t hm with z | ⟨Cn, k, a0, E2, wi, hne⟩
    · exact absurd A.lt (Nat.not_lt.mpr z)
    · obtain ⟨cc, Ar, -⟩ := A; exact ne_arr E2 wi Ar rfl
  exact ⟨h1, h2, E.keep K, Cd.keep K hx, t, kb, V.keep K hx, A.keep K ht⟩
theorem Str.ext {h' : Heap} {x : Addr} {cs : List Int32} (S : Str Z h x cs) (E1 : Ext h h') : Str Z h' x cs := by
  obtain ⟨h1, h2, E, Cd, t, kb, V, A⟩ := S
  exact ⟨h1, h2, E.ext E1, Cd.ext E1, t, kb, V.ext E1, A.ext E1⟩
theorem Str.wide {x : Addr} {cs : List Int32} (S : Str Z h x cs) : ∀ c ∈ cs, ¬ c < 0 ∧ ¬ (65535 : Int32) < c := fun c hc => ⟨(S.2.1 c hc).1, fun q => (S.2.1 c hc).2 (by rw [Int32.lt_iff_toInt_lt] at q ⊢; have e1 : (65535 : Int32).toInt = 65535 := rfl; have e2 : (255 : Int32).toInt = 255 := rfl; omega)⟩
theorem Str.cod {x : Addr} {cs : List Int32} (S : Str Z h x cs) : StrChars.Road.CodA cs 0 (Int32.ofNat cs.length) ((cs.map (fun c => c.toInt8.toInt32)).map Value.int) := StrChars.Road.codOf rfl fun c hc => (S.2.1 c hc).2
theorem pd_chars : parseMethodDescriptor "([C)V" = some ⟨[.array .char], none⟩ := by decide +kernel
theorem pd_len : parseMethodDescriptor "()I" = some ⟨[], some .int⟩ := by decide +kernel
theorem pd_emp : parseMethodDescriptor "()Z" = some ⟨[], some .boolean⟩ := by decide +kernel
theorem pd_chat : parseMethodDescriptor "(I)C" = some ⟨[.int], some .char⟩ := by decide +kernel
theorem pd_eqo : parseMethodDescriptor "(Ljava/lang/Object;)Z" = some ⟨[.object "java/lang/Object"], some .boolean⟩ := by decide +kernel
theorem g_newstr (C : Cx p s m meth c Z h0 ws own nm bytes maxL ret) (hS : SS Z) {index n kI maxL' : Nat} {bytes' : ByteArray} {x b : Addr} {f : Nat → Value} {cs : List Int32} {v0 c0 : Value} (hws : ∀ d ∈ StrChars.Road.words, d.before a0 Z = true) (wi : (Jvm.Cond.instantiable "java/lang/String" kI).before a0 Z = true) (w1 : (Jvm.Cond.methodLink own index (⟨"java/lang/String", "<init>", "([C)V"⟩ : MethodName)).before a0 Z = true) (w2 : (Jvm.Cond.instanceMethod (⟨"java/lang/String", "<init>", "([C)V"⟩ : MethodName)).before a0 Z = true) (w4 : (Jvm.Cond.code (⟨"java/lang/String", "<init>", "([C)V"⟩ : MethodName) bytes' maxL' none).before a0 Z = true) (E : Exa Z h x "java/lang/String") (V : Fld Z h x "java/lang/String" "value" "[B" v0) (Cd : Fld Z h x "java/lang/String" "coder" "B" c0) (A : Af Z h b .char n f) (hcs : (List.range n).map f = cs.map Value.int) (hn1 : 0 < n) (hn2 : n ≤ 4000) (hr : ∀ c ∈ cs, ¬ c < 0 ∧ ¬ (255 : Int32) < c) (hx0 : h0.size ≤ x) (hsz : Ls.size = maxL) (hd : decode bytes pc = .ok (.invokespecial index, 3)) (hp : pc + 3 = pc') (hc : cells + 1 ≤ R.cells) (hs : slots + n ≤ R.slots) (hf : 4 ≤ R.frames) (hl : (st.map fun v => v.category).sum + 65 ≤ R.locals) (k : ∀ h', Keep h h' [x] → Str Z h' x cs → G p l e R s m args below meth c ws Φ h' (cells + 1) (slots + n) pc' Ls st) : G p l e R s m args below meth c ws Φ h cells slots pc Ls (.ref b :: .ref x :: st) := g_ctx C fun K0 E0 => by
  obtain ⟨z, fm, O2, P5, O4, rf⟩ := hS
  obtain ⟨kC, Av⟩ := A.arv (.int 0)
  rw [hcs] at Av
  have hlen : cs.length = n := by have := congrArg List.length hcs; simpa using this.symm
  refine g_special C rfl w1 w2 w4 (by decide) (W := (st.map fun v => v.category).sum) (argsL := [.ref b]) (rest := st) (kb := 1) (sb := n) (Qb := StrChars.Road.QV Z x (Int32.ofNat n) (cs.map fun c => c.toInt8.toInt32) h h0.size) (StrChars.Road.backV C.2.1 hws wi (cs := cs) (n := n) (n0 := h0.size) hx0 K0.1 E V Cd Av (O2.ext E0) P5 hlen rfl hn1 hn2 hr rfl hf hl) hsz (lenOf pd_chars rfl) rfl (Nat.le_refl _) hd hp hc hs ?_
  rintro v h' L ⟨rfl, N, K, E', C', t, kb, -, -, -, V', A'⟩
  exact ⟨fun y hy => Or.inr (N y hy), k h' K ⟨by omega, hr, E', C', t, kb, V', by rw [hlen]; exact A'⟩⟩
theorem g_strlen (C : Cx p s m meth c Z h0 ws own nm bytes maxL ret) (hS : SS Z) {index kI : Nat} {x : Addr} {cs : List Int32} (S : Str Z h x cs) {z : Int32} (hz : Int32.ofNat cs.length = z) (hws : ∀ d ∈ StrChars.Road.wordsLen, d.before a0 Z = true) (wi : (Jvm.Cond.instantiable "java/lang/String" kI).before a0 Z = true) (w1 : (Jvm.Cond.methodLink own index (⟨"java/lang/String", "length", "()I"⟩ : MethodName)).before a0 Z = true) (w2 : (Jvm.Cond.declares (⟨"java/lang/String", "length", "()I"⟩ : MethodName)).before a0 Z = true) (w3 : (Jvm.Cond.selects "java/lang/String" (⟨"java/lang/String", "length", "()I"⟩ : MethodName) (⟨"java/lang/String", "length", "()I"⟩ : MethodName)).before a0 Z = true) (w4 : (Jvm.Cond.instanceMethod (⟨"java/lang/String", "length", "()I"⟩ : MethodName)).before a0 Z = true) (hsz : Ls.size = maxL) (hd : decode bytes pc = .ok (.invokevirtual index, 3)) (hp : pc + 3 = pc') (hc : cells ≤ R.cells) (hs : slots ≤ R.slots) (hf : 2 ≤ R.frames) (hl : (st.map fun v => v.category).sum + 25 ≤ R.locals) (k : G p l e R s m args below meth c ws Φ h cells slots pc' Ls (.int z :: st)) : G p l e R s m args below meth c ws Φ h cells slots pc Ls (.ref x :: st) := g_ctx C fun K0 E0 => by
  obtain ⟨z1, fm, O2, P5, O4, rf⟩ := hS
  have hw1 := S.wide
  have hcd := S.cod
  obtain ⟨h1, h2, E, Cd, t, kb, V, A⟩ := id S
  refine g_virtual C w1 w2 w3 (nfOf w3 rfl) w4 (by decide) (W := (st.map fun v => v.category).sum) (argsL := []) (rest := st) (kb := 0) (sb := 0) (Qb := fun v h' L => v = some (.int (Int32.ofNat cs.length)) ∧ L = [] ∧ h' = h) (StrChars.Road.lenW C.2.1 hws wi E V Cd A hcd hw1 (O2.ext E0) P5 h1 hf hl) E hsz (lenOf pd_len rfl) rfl (Nat.le_refl _) hd hp hc hs ?_
  rintro v h' L ⟨rfl, rfl, rfl⟩
  subst hz
  exact ⟨Lw.nil, k⟩
theorem g_charat (C : Cx p s m meth c Z h0 ws own nm bytes maxL ret) (hS : SS Z) {index kI : Nat} {x : Addr} {cs : List Int32} (S : Str Z h x cs) {i : Nat} {j : Int32} (hi : i < cs.length) (hj : j = Int32.ofNat i) (hws : ∀ d ∈ StrChars.Road.wordsChN, d.before a0 Z = true) (wi : (Jvm.Cond.instantiable "java/lang/String" kI).before a0 Z = true) (w1 : (Jvm.Cond.methodLink own index (⟨"java/lang/String", "charAt", "(I)C"⟩ : MethodName)).before a0 Z = true) (w2 : (Jvm.Cond.declares (⟨"java/lang/String", "charAt", "(I)C"⟩ : MethodName)).before a0 Z = true) (w3 : (Jvm.Cond.selects "java/lang/String" (⟨"java/lang/String", "charAt", "(I)C"⟩ : MethodName) (⟨"java/lang/String", "charAt", "(I)C"⟩ : MethodName)).before a0 Z = true) (w4 : (Jvm.Cond.instanceMethod (⟨"java/lang/String", "charAt", "(I)C"⟩ : MethodName)).before a0 Z = true) (hsz : Ls.size = maxL) (hd : decode bytes pc = .ok (.invokevirtual index, 3)) (hp : pc + 3 = pc') (hc : cells ≤ R.cells) (hs : slots ≤ R.slots) (hf : 4 ≤ R.frames) (hl : (st.map fun v => v.category).sum + 53 ≤ R.locals) (k : G p l e R s m args below meth c ws Φ h cells slots pc' Ls (.int (cs.getD i 0) :: st)) : G p l e R s m args below meth c ws Φ h cells slots pc Ls (.int j :: .ref x :: st) := g_ctx C fun K0 E0 => by
  obtain ⟨z, fm, O2, P5, O4, rf⟩ := hS
  have hw1 := S.wide
  have hcd := S.cod
  obtain ⟨h1, h2, E, Cd, t, kb, V, A⟩ := id S
  refine g_virtual C w1 w2 w3 (nfOf w3 rfl) w4 (by decide) (W := (st.map fun v => v.category).sum) (argsL := [.int j]) (rest := st) (kb := 0) (sb := 0) (Qb := fun v h' L => v = some (.int (cs.getD i 0)) ∧ L = [] ∧ h' = h) (StrChars.Road.chN C.2.1 hws wi E V Cd A hcd hw1 (O2.ext E0) P5 (O4.ext E0) rf h1 hi hj hf hl) E hsz (lenOf pd_chat rfl) rfl (Nat.le_refl _) hd hp hc hs ?_
  rintro v h' L ⟨rfl, rfl, rfl⟩
  exact ⟨Lw.nil, k⟩
end OwnStr
theorem Ws_backV {Z : State} {a0 : Array Value} (hw : ∀ d ∈ tables_1, d.before a0 Z = true) : ∀ d ∈ StrChars.Road.words, d.before a0 Z = true := fun d hd => hw d ((by decide +kernel : ∀ d ∈ StrChars.Road.words, d ∈ tables_1) d hd)
theorem Ws_lenW {Z : State} {a0 : Array Value} (hw : ∀ d ∈ tables_1, d.before a0 Z = true) : ∀ d ∈ StrChars.Road.wordsLen, d.before a0 Z = true := fun d hd => hw d ((by decide +kernel : ∀ d ∈ StrChars.Road.wordsLen, d ∈ tables_1) d hd)
theorem Ws_chN {Z : State} {a0 : Array Value} (hw : ∀ d ∈ tables_1, d.before a0 Z = true) : ∀ d ∈ StrChars.Road.wordsChN, d.before a0 Z = true := fun d hd => hw d ((by decide +kernel : ∀ d ∈ StrChars.Road.wordsChN, d ∈ tables_1) d hd)

/-- the literals loaded so far: class, entry, text, address -/
abbrev LL : Type := List (String × Nat × String × Addr)
section OwnLit
variable {p : Program} {l : Launch} {e : Env} {R : Room} {s : State} {m : MethodId} {args : Array Value} {below : List Frame} {meth : Method} {c : Code} {Z : State} {h0 hb : Heap} {ws ws' : List Addr} {own nm : String} {bytes : ByteArray} {maxL : Nat} {ret : Option FieldType} {kc ks : Nat} {Φ : Outcome → State → Prop} {h : Heap} {cells slots pc pc' : Nat} {Ls Ls' : Array Slot} {st st' rest : List Value} {a0 : Array Value} {vm0 vm1 : Vm} {I : Option LL} {I0 : LL} {Q : Option Value → Heap → Option LL → Prop}
/-- what is known of the literals loaded so far (none: nothing) -/
def Ib (Z : State) (vm : Vm) (I : Option LL) : Prop := ∀ J, I = some J → IB Z vm (J.map fun x => x.2.2.1) ∧ ∀ x ∈ J, Lit (Z.setVm vm) x.1 x.2.1 x.2.2.2
theorem Ib.none {vm : Vm} : Ib Z vm none := fun _ q => nomatch q
theorem Ib.start (Z : State) : Ib Z Z.vm (some []) := fun J q => by cases q; exact ⟨IB.start, fun x hx => nomatch hx⟩
theorem Ib.warm (i : Ib Z vm0 I) {b : State} (hb : b.vm = vm0) (hW : b.WarmedH vm1) : Ib Z vm1 I := by
  subst hb
  intro J hJ
  obtain ⟨⟨more, h1, h2⟩, h3⟩ := i J hJ
  refine ⟨⟨more, by rw [hW.interned_eq]; exact h1, h2⟩, fun x hx => ?_⟩
  have L : Lit (b.setVm b.vm) x.1 x.2.1 x.2.2.2 := h3 x hx
  exact L.stays (vm1 := vm1) hW.wide
/-- a good end of a walk that may intern -/
def EndB (s Z : State) (ws : List Addr) (Q : Option Value → Heap → Option LL → Prop) (kc ks : Nat) (o : Outcome) (s₂ : State) : Prop := ∃ v L J, o = .returned v ∧ (Q v s₂.heap J ∧ Ib Z s₂.vm J ∧ Keep s.heap s₂.heap ws ∧ Lw s.heap.size ws L) ∧ ReturnedEndW s o s₂ L kc ks
/-- what is known of the tables since the start, at a heap that was already there -/
def Bx (s Z : State) (vm0 : Vm) (h : Heap) (I : Option LL) : Prop := ∃ k0, s.Since vm0 k0 ∧ k0 ≤ h.size ∧ Ib Z vm0 I
theorem Bx.mono {h' : Heap} (B : Bx s Z vm0 h I) (q : h.size ≤ h'.size) : Bx s Z vm0 h' I := by obtain ⟨k0, h1, h2, h3⟩ := B; exact ⟨k0, h1, Nat.le_trans h2 q, h3⟩
/-- a contract of a method that may intern -/
def ConS (l : Launch) (Z : State) (ws : List Addr) (y : MethodName) (bytes : ByteArray) (maxL : Nat) (ret : Option FieldType) (rm : Room) (as' : Array Value) (h : Heap) (tw : List Jvm.Cond) (I : Option LL) (Q : Option Value → Heap → Option LL → Prop) : Prop :=
  Ext Z.heap h → (∀ x ∈ ws, Z.heap.size ≤ x) → MetFree l y (head1 (Jvm.Cond.code y bytes maxL ret :: tw) rm) (fun a U => a = as' ∧ Z.Warmed39 U.vm ∧ U.heap = h ∧ Ib Z U.vm I) (fun _ _ _ _ _ => True) (fun _ U o U' => EndB U Z ws Q rm.cells rm.slots o U')
theorem ConS.of {y : MethodName} {rm : Room} {as' : Array Value} {tw : List Jvm.Cond} (hy : plainFor y = true) (hf : ∀ m, entryFrame m as' maxL = mkF m 0 Ls []) (body : ∀ p e s m below meth c vm0, Cx p (s.setVm vm0) m meth c Z h ws y.cls y.name bytes maxL ret → Bx s Z vm0 h I → G p l e rm (s.setVm vm0) m as' below meth c ws (EndB s Z ws Q rm.cells rm.slots) h 0 0 0 Ls []) : ConS l Z ws y bytes maxL ret rm as' h tw I Q := by
  intro hE hws
  refine MetFree.of_bodySF hy hisR ?_
  intro p e s m args below meth c s₁ Bd hml0 hP hK
  obtain ⟨rfl, hZ, rfl, hI⟩ := hP
  have X0 : Stand p l e rm (s.setVm s.vm) m args below meth c s₁ [] 0 0 := Stand.of_body Bd
  have e0 : s₁.heap = s.heap := by rw [Bd.state]; rfl
  obtain ⟨s2, o, q, r⟩ := body p e s m below meth c s.vm ⟨Bd.exec, hZ, findClass_of_methodNamed Bd.named, Bd.bytes, hml0, Bd.returns, Bd.notSynchronized, (name_of_methodNamed Bd.named Bd.method).1, rfl, hE, hws⟩ ⟨s.heap.size, (State.WarmedH.refl s).since _, Nat.le_refl _, hI⟩ s₁ [] X0 e0 Lw.nil
  exact ⟨s2, o, castTop (hf m) q, r⟩
theorem since_mono {n n' : Nat} (h : s.Since vm1 n) (hn : n ≤ n') : s.Since vm1 n' := ⟨h.1, fun j p hj hp => by obtain ⟨x, y⟩ := h.2 j p hj hp; exact ⟨x, Nat.lt_of_lt_of_le y hn⟩⟩
theorem unlisted {b : State} {T : State} {locs : List Loc} (X : Stand p l e R b m args below meth c T locs cells slots) (hold : ∀ (a : Addr) (cl : Cell), b.heap[a]? = some cl → T.heap[a]? = some cl) : Stand p l e R b m args below meth c T [] cells slots := by
  have hs : b.sameButNew (T.setVm b.vm) [] cells slots := by
    obtain ⟨h1, h2, h3, h4, h5, -⟩ := X.same
    exact ⟨h1, h2, h3, h4, h5, fun a cl ha => ⟨cl, hold a cl ha, rfl, rfl, fun _ _ => rfl⟩⟩
  exact { X with same := hs }
theorem cx_move (C : Cx p (s.setVm vm0) m meth c Z h0 ws own nm bytes maxL ret) (hZ : Z.Warmed39 vm1) (hown : vm1.findClass own = some m.cls) : Cx p (s.setVm vm1) m meth c Z h0 ws own nm bytes maxL ret := ⟨C.1, hZ, hown, C.2.2.2⟩
theorem g_ldcAny (C : Cx p (s.setVm vm0) m meth c Z h0 ws own nm bytes maxL ret) (B : Bx s Z vm0 hb I) (hk : hb.size ≤ h.size) {text : String} {index n : Nat} (w : (Jvm.Cond.stringLink own index text).before a0 Z = true) (wS : ∀ a ∈ Bundle.stringAtoms, a.before a0 Z = true) (hd : decode bytes pc = .ok (.ldc index, 2)) (hp : pc + 2 = pc') (hn : 4 * text.toList.length ≤ n) (hbig : n ≤ 536870912) (hc : cells + 2 ≤ R.cells) (hs : slots + (n + 4) ≤ R.slots) (k : ∀ vm1 h' a, Cx p (s.setVm vm1) m meth c Z h0 ws own nm bytes maxL ret → Bx s Z vm1 h' none → Ext h h' → G p l e R (s.setVm vm1) m args below meth c ws Φ h' (cells + 2) (slots + (n + 4)) pc' Ls (.ref a :: st)) : G p l e R (s.setVm vm0) m args below meth c ws Φ h cells slots pc Ls st := by
  intro T locs X e1 N
  subst hp
  obtain ⟨k0, hS, hk0, hI⟩ := B
  obtain ⟨a, T', h', k1, X', e2, E, hS', hk', hZ', hown', stp⟩ := ldcS X C.1 C.2.1 C.2.2.1 w wS e1 hS (Nat.le_trans hk0 hk) (g := mkF m pc Ls st) rfl (Jvm.hb C.2.2.2.1 hd) hn hbig hc hs
  obtain ⟨s2, o, q, r⟩ := k T'.vm h' a (cx_move C hZ' hown') ⟨k1, hS', hk', Ib.none⟩ E T' locs X' e2 N
  exact ⟨s2, o, stp _ q, r⟩
theorem g_ldcNew (C : Cx p (s.setVm vm0) m meth c Z h0 ws own nm bytes maxL ret) (hold : ∀ (b : Addr) (cl : Cell), h0[b]? = some cl → h[b]? = some cl) (B : Bx s Z vm0 hb (some I0)) (hk : hb.size ≤ h.size) {text : String} {index n : Nat} {cs : List Int32} (w : (Jvm.Cond.stringLink own index text).before a0 Z = true) (wS : ∀ a ∈ Bundle.stringAtoms, a.before a0 Z = true) (hnot : text ∉ I0.map fun x => x.2.2.1) (hh : Jvm.Lit.constHeld Z own index) (hcw : Jvm.Lit.compactW.before a0 Z = true) (ht : (∀ c ∈ text.toList, c.toNat < 256) ∧ text.toList.map (fun c => Value.int (Jvm.Lit.byteI c.toNat.toUInt16)) = (cs.map (fun c => c.toInt8.toInt32)).map Value.int) (hcs : ∀ c ∈ cs, ¬ c < 0 ∧ ¬ (255 : Int32) < c) (hlen : cs.length ≤ 4000) (hd : decode bytes pc = .ok (.ldc index, 2)) (hp : pc + 2 = pc') (hn : 4 * text.toList.length ≤ n) (hbig : n ≤ 536870912) (hc : cells + 2 ≤ R.cells) (hs : slots + (n + 4) ≤ R.slots) (k : ∀ vm1 h' a, Cx p (s.setVm vm1) m meth c Z h0 ws own nm bytes maxL ret → Bx s Z vm1 h' (some ((own, index, text, a) :: I0)) → Ext h h' → Str Z h' a cs → G p l e R (s.setVm vm1) m args below meth c ws Φ h' (cells + 2) (slots + (n + 4)) pc' Ls (.ref a :: st)) : G p l e R (s.setVm vm0) m args below meth c ws Φ h cells slots pc Ls st := by
  intro T locs X e1 N
  subst hp
  obtain ⟨k0, hS, hk0, hIb⟩ := B
  have hI := hIb I0 rfl
  have hz1 : ¬ Int32.ofNat cs.length < 0 := by
    have e0 : (Int32.ofNat cs.length).toInt = (cs.length : Int) := Int32.toInt_ofNat_small (by omega)
    rw [Int32.lt_iff_toInt_lt, e0]; simp
  have hz2 : (Int32.ofNat cs.length).toNatClampNeg = ((cs.map (fun c => c.toInt8.toInt32)).map Value.int).length := by
    have e0 : (Int32.ofNat cs.length).toInt = (cs.length : Int) := Int32.toInt_ofNat_small (by omega)
    rw [Int32.toNatClampNeg, e0]; simp
  have hE := C.2.2.2.2.2.2.2.2.2.1
  have hh0 : s.heap = h0 := C.2.2.2.2.2.2.2.2.1
  have X0 : Stand p l e R ((s.setVm vm0).setVm vm0) m args below meth c T [] cells slots := unlisted X (fun b cl q => by rw [e1]; exact hold b cl (hh0 ▸ q))
  obtain ⟨a, T', h', k1, b, kb, X', e2, E, hS', hk', hZ', hown', E1, E2, E3, E4, -, -, I1, L1, stp⟩ := ldcSVL X0 C.1 C.2.1 C.2.2.1 w wS e1 ((State.WarmedH.refl (s.setVm vm0)).since 0) (Nat.zero_le _) (Fr.nil _) (fun b cl q => by show s.heap[b]? = some cl; rw [hh0]; exact hE.2 b cl q) hI.1 hnot hh hcw ht hz1 hz2 (g := mkF m pc Ls st) rfl (Jvm.hb C.2.2.2.1 hd) hn hbig hc hs
  have hI' : Ib Z T'.vm (some ((own, index, text, a) :: I0)) := fun J hJ => by cases hJ; exact ⟨I1, fun x hx => by
    rcases List.mem_cons.mp hx with rfl | hx
    · exact L1
    · have L : Lit (s.setVm vm0) x.1 x.2.1 x.2.2.2 := hI.2 x hx
      exact L.stays (vm1 := T'.vm) hS'.1⟩
  have hsz : h.size ≤ h'.size := E.1
  have hS2 : (s.setVm vm0).Since T'.vm h'.size := since_mono hS' hk'
  obtain ⟨s2, o, q, r⟩ := k T'.vm h' a (cx_move C hZ' hown') ⟨h'.size, hS.trans hS2 (by omega), Nat.le_refl _, hI'⟩ E ⟨hlen, hcs, E1, E2, b, kb, E3, E4⟩ T' [] X' e2 Lw.nil
  exact ⟨s2, o, stp _ q, r⟩
theorem g_ldcAgain (C : Cx p (s.setVm vm0) m meth c Z h0 ws own nm bytes maxL ret) (B : Bx s Z vm0 hb (some I0)) {text : String} {index : Nat} {a : Addr} (hm : (own, index, text, a) ∈ I0) (w : (Jvm.Cond.stringLink own index text).before a0 Z = true) (hd : decode bytes pc = .ok (.ldc index, 2)) (hp : pc + 2 = pc') (k : G p l e R (s.setVm vm0) m args below meth c ws Φ h cells slots pc' Ls (.ref a :: st)) : G p l e R (s.setVm vm0) m args below meth c ws Φ h cells slots pc Ls st := by
  subst hp
  obtain ⟨k0, hS, hk0, hI⟩ := B
  have L : Lit (s.setVm vm0) own index a := (hI I0 rfl).2 _ hm
  exact g_ofX (fun T locs X e1 t q => ldcAgain (s := s) (vm0 := vm0) X C.1 C.2.1 C.2.2.1 w L (g := mkF m pc Ls st) rfl (Jvm.hb C.2.2.2.1 hd) _ q) k
theorem b_ireturn (C : Cx p (s.setVm vm0) m meth c Z h0 ws own nm bytes maxL (some .int)) (B : Bx s Z vm0 hb I) (hk : hb.size ≤ h.size) {x : Int32} (hd : decode bytes pc = .ok (.ireturn, 1)) (hQ : Q (some (.int x)) h I) (hc : cells ≤ kc) (hs : slots ≤ ks) : G p l e R (s.setVm vm0) m args below meth c ws (EndB s Z ws Q kc ks) h cells slots pc Ls [.int x] := by
  intro T locs X e1 N
  obtain ⟨hx, hZ, hown, hby, hml, hret, hlk, hnm, hh0, hE, hws⟩ := C
  obtain ⟨k0, hS, hk0, hI⟩ := B
  obtain ⟨fs, hr, hrun, hended, hW, hsame⟩ := X.leave (v := (some (.int x))) (fun h => by rw [hret] at h; cases h) hlk
  obtain ⟨q1, q2, q3⟩ := hS.ended hW (Nat.le_trans hk0 (Nat.le_trans hk (Nat.le_of_eq (congrArg Array.size e1.symm)))) hsame
  exact ⟨_, _, X.ireturnOut hx hret rfl (Or.inl rfl) (Jvm.hb hby hd) hr, hrun, hended, _, _, _, rfl, ⟨by rw [show (T.setFrames fs).heap = h from e1]; exact hQ, hI.warm (b := s.setVm vm0) rfl hW, (show Keep (s.setVm vm0).heap T.heap ws from keep_of X N), N⟩, ⟨_, rfl⟩, q1, q2, q3.mono hc hs⟩
theorem b_ireturnN {t : FieldType} (C : Cx p (s.setVm vm0) m meth c Z h0 ws own nm bytes maxL (some t)) (B : Bx s Z vm0 hb I) (hk : hb.size ≤ h.size) {x : Int32} (ht : t = .boolean ∨ t = .byte ∨ t = .char ∨ t = .short) (hd : decode bytes pc = .ok (.ireturn, 1)) (hQ : Q (some (.int (nar t x))) h I) (hc : cells ≤ kc) (hs : slots ≤ ks) : G p l e R (s.setVm vm0) m args below meth c ws (EndB s Z ws Q kc ks) h cells slots pc Ls (.int x :: st) := by
  intro T locs X e1 N
  obtain ⟨hx, hZ, hown, hby, hml, hret, hlk, hnm, hh0, hE, hws⟩ := C
  obtain ⟨k0, hS, hk0, hI⟩ := B
  obtain ⟨fs, hr, hrun, hended, hW, hsame⟩ := X.leave (v := (some (.int (nar t x)))) (fun h => by rw [hret] at h; cases h) hlk
  obtain ⟨q1, q2, q3⟩ := hS.ended hW (Nat.le_trans hk0 (Nat.le_trans hk (Nat.le_of_eq (congrArg Array.size e1.symm)))) hsame
  exact ⟨_, _, retN X hx hret ht (Jvm.hb hby hd) hr, hrun, hended, _, _, _, rfl, ⟨by rw [show (T.setFrames fs).heap = h from e1]; exact hQ, hI.warm (b := s.setVm vm0) rfl hW, (show Keep (s.setVm vm0).heap T.heap ws from keep_of X N), N⟩, ⟨_, rfl⟩, q1, q2, q3.mono hc hs⟩
theorem b_areturn {t : FieldType} (C : Cx p (s.setVm vm0) m meth c Z h0 ws own nm bytes maxL (some t)) (B : Bx s Z vm0 hb I) (hk : hb.size ≤ h.size) {v : Value} (hv : v.isRef = true) (ht : t.isReference = true) (hd : decode bytes pc = .ok (.areturn, 1)) (hQ : Q (some v) h I) (hc : cells ≤ kc) (hs : slots ≤ ks) : G p l e R (s.setVm vm0) m args below meth c ws (EndB s Z ws Q kc ks) h cells slots pc Ls [v] := by
  intro T locs X e1 N
  obtain ⟨hx, hZ, hown, hby, hml, hret, hlk, hnm, hh0, hE, hws⟩ := C
  obtain ⟨k0, hS, hk0, hI⟩ := B
  obtain ⟨fs, hr, hrun, hended, hW, hsame⟩ := X.leave (v := (some v)) (fun h => by rw [hret] at h; cases h) hlk
  obtain ⟨q1, q2, q3⟩ := hS.ended hW (Nat.le_trans hk0 (Nat.le_trans hk (Nat.le_of_eq (congrArg Array.size e1.symm)))) hsame
  exact ⟨_, _, X.areturnOut hx hv hret ht (Jvm.hb hby hd) hr, hrun, hended, _, _, _, rfl, ⟨by rw [show (T.setFrames fs).heap = h from e1]; exact hQ, hI.warm (b := s.setVm vm0) rfl hW, (show Keep (s.setVm vm0).heap T.heap ws from keep_of X N), N⟩, ⟨_, rfl⟩, q1, q2, q3.mono hc hs⟩
theorem b_return (C : Cx p (s.setVm vm0) m meth c Z h0 ws own nm bytes maxL none) (B : Bx s Z vm0 hb I) (hk : hb.size ≤ h.size) (hd : decode bytes pc = .ok (.return_, 1)) (hQ : Q none h I) (hc : cells ≤ kc) (hs : slots ≤ ks) : G p l e R (s.setVm vm0) m args below meth c ws (EndB s Z ws Q kc ks) h cells slots pc Ls [] := by
  intro T locs X e1 N
  obtain ⟨hx, hZ, hown, hby, hml, hret, hlk, hnm, hh0, hE, hws⟩ := C
  obtain ⟨k0, hS, hk0, hI⟩ := B
  obtain ⟨fs, hr, hrun, hended, hW, hsame⟩ := X.leave (v := none) (fun _ => rfl) hlk
  obtain ⟨q1, q2, q3⟩ := hS.ended hW (Nat.le_trans hk0 (Nat.le_trans hk (Nat.le_of_eq (congrArg Array.size e1.symm)))) hsame
  exact ⟨_, _, X.returnOut hx hret (Jvm.hb hby hd) hr, hrun, hended, _, _, _, rfl, ⟨by rw [show (T.setFrames fs).heap = h from e1]; exact hQ, hI.warm (b := s.setVm vm0) rfl hW, (show Keep (s.setVm vm0).heap T.heap ws from keep_of X N), N⟩, ⟨_, rfl⟩, q1, q2, q3.mono hc hs⟩
theorem bkI {b : State} {y : MethodName} {bytes' : ByteArray} {maxL' : Nat} {ret' : Option FieldType} {rm : Room} {as' : Array Value} {W len : Nat} (hZ : Z.Warmed39 b.vm) (M : ConS l Z ws' y bytes' maxL' ret' rm as' h [] I Q) (hE : Ext Z.heap h) (hws : ∀ x ∈ ws', Z.heap.size ≤ x) (w4 : (Jvm.Cond.code y bytes' maxL' ret').before a0 Z = true) (w3 : (Jvm.Cond.initialized y.cls).before a0 Z = true) (hf : rm.frames + 1 ≤ R.frames) (hl : W + (maxL' + 11) + rm.locals ≤ R.locals) (hI : Ib Z b.vm I) :
    BackS l R p e below b args y len W (fun A a => a = as' ∧ A.U.heap = h ∧ A.cells + rm.cells ≤ R.cells ∧ A.slots + rm.slots ≤ R.slots) (fun A _ v B => ∃ L J, (Q v B.U.heap J ∧ Ib Z B.U.vm J ∧ Keep h B.U.heap ws' ∧ Lw h.size ws' L) ∧ B.locs = A.locs ++ L ∧ B.cells = A.cells + rm.cells ∧ B.slots = A.slots + rm.slots) :=
  BackS.of_freeW (bytes := bytes') (maxL := maxL') (ret := ret') (E := fun _ first o t L k n => k = rm.cells ∧ n = rm.slots ∧ ∃ v J, o = .returned v ∧ (Q v t.heap J ∧ Ib Z t.vm J ∧ Keep first.heap t.heap ws' ∧ Lw first.heap.size ws' L)) (M hE hws) hf hl
    (fun m meth c A a Y hp => have hU : Z.Warmed39 A.U.vm := wtrans hZ Y.warmed
      ⟨by show (Jvm.Cond.and _ .tt).before a A.U = true; rw [Cond.before_and, mv hU w4]; rfl, mv hU w4, mv hU w3, hp.2.2.1, hp.2.2.2⟩)
    (fun m meth c A a g mk Y hp => ⟨hp.1, wtrans hZ Y.warmed, hp.2.1, hI.warm rfl Y.warmed⟩) (fun _ _ _ _ _ _ _ _ _ => trivial)
    (fun _ _ _ _ ⟨v, L, J, h1, h2, h3⟩ => ⟨L, _, _, h3, rfl, rfl, v, J, h1, h2⟩)
    (fun m meth c A a g mk v t L k n Y hp _ _ ⟨e1, e2, v', J, e3, e4⟩ => by
      cases e3; subst e1 e2
      have eh : (A.U.calling g mk a).heap = h := hp.2.1
      rw [eh] at e4
      exact ⟨L, J, e4, rfl, rfl, rfl⟩)
theorem b_static (C : Cx p (s.setVm vm0) m meth c Z h0 ws own nm bytes maxL ret) (B : Bx s Z vm0 hb I) (hk : hb.size ≤ h.size) {index : Nat} {y : MethodName} {bytes' : ByteArray} {maxL' : Nat} {ret' : Option FieldType} {W : Nat} {argsL : List Value} {rm : Room} (M : ConS l Z ws' y bytes' maxL' ret' rm argsL.toArray h [] I Q) (w1 : (Jvm.Cond.methodLink own index y).before a0 Z = true) (w2 : (Jvm.Cond.static y).before a0 Z = true) (w3 : (Jvm.Cond.initialized y.cls).before a0 Z = true) (w4 : (Jvm.Cond.code y bytes' maxL' ret').before a0 Z = true) (hy : y.cls ≠ "java/lang/invoke/MethodHandle" ∧ y.cls ≠ "java/lang/invoke/VarHandle") (hsz : Ls.size = maxL) (hlen : ∀ sig, parseMethodDescriptor y.desc = some sig → argsL.length = sig.parameters.length) (hst : st = argsL.reverse ++ rest) (hW : (rest.map fun v => v.category).sum ≤ W) (hd : decode bytes pc = .ok (.invokestatic index, 3)) (hp : pc + 3 = pc') (hc : cells + rm.cells ≤ R.cells) (hs : slots + rm.slots ≤ R.slots) (hsub : ∀ x ∈ ws', x ∈ ws ∨ h0.size ≤ x) (hf : rm.frames + 1 ≤ R.frames) (hl : W + (maxL' + 11) + rm.locals ≤ R.locals) (k : ∀ vm1 v h' J, Cx p (s.setVm vm1) m meth c Z h0 ws own nm bytes maxL ret → Bx s Z vm1 h' J → Q v h' J → Keep h h' ws' → G p l e R (s.setVm vm1) m args below meth c ws Φ h' (cells + rm.cells) (slots + rm.slots) pc' Ls (v.toList ++ rest)) : G p l e R (s.setVm vm0) m args below meth c ws Φ h cells slots pc Ls st := by
  intro T locs X e1 N
  subst hp hst
  have K0 : Keep h0 h ws := by have q := keep_of X N; rw [show (s.setVm vm0).heap = h0 from C.2.2.2.2.2.2.2.2.1, e1] at q; exact q
  have E0 := ext_keep C.2.2.2.2.2.2.2.2.2.1 K0 C.2.2.2.2.2.2.2.2.2.2
  have W0 := ws_sub hsub C.2.2.2.2.2.2.2.2.2.2 C.2.2.2.2.2.2.2.2.2.1.1
  obtain ⟨k0, hS, hk0, hI⟩ := B
  have hZ := C.2.1
  obtain ⟨v, vm1', ⟨T', L', k', n'⟩, -, X', h2, hg, ⟨L, J, hQ, hl1, hk1, hn1⟩, stp⟩ := RoadKit.callSS X C.1 C.2.2.1 (mvT hZ w1) (mvT hZ w2) (mvT hZ w3) (mvT hZ w4) hy (bkI hZ M E0 W0 w4 w3 hf hl hI) (g := mkF m pc Ls (argsL.reverse ++ rest)) rfl (by rw [C.2.2.2.2.1]; exact hsz) (argsL := argsL) (rest := rest) hlen rfl (by show 2 * 0 + _ ≤ _; omega) (Jvm.hb C.2.2.2.1 hd) (fun _ _ => ⟨rfl, e1, hc, hs⟩)
  dsimp only [Pt.U, Pt.locs, Pt.cells, Pt.slots] at X' hl1 hk1 hn1 stp hQ h2 hg
  subst hl1 hk1 hn1
  obtain ⟨hQ1, hI1, hK1, hF1⟩ := hQ
  have hg' : h.size ≤ T'.heap.size := e1 ▸ hg
  obtain ⟨X2, hS2, hZ2, hown2⟩ := rebS hS (Nat.le_trans hk0 (Nat.le_trans hk hg')) X' h2 (Nat.le_refl _) (Z := Z) (own := own) C.2.1 C.2.2.1
  obtain ⟨s2, o, q, r⟩ := k T'.vm _ _ J (cx_move C hZ2 hown2) ⟨_, hS2, Nat.le_refl _, hI1⟩ hQ1 hK1 T' _ X2 rfl (N.app (by rw [show (s.setVm vm0).heap = h0 from C.2.2.2.2.2.2.2.2.1]; exact lw_sub hF1 K0.1 hsub))
  exact ⟨s2, o, stp.trans q, r⟩
theorem b_special (C : Cx p (s.setVm vm0) m meth c Z h0 ws own nm bytes maxL ret) (B : Bx s Z vm0 hb I) (hk : hb.size ≤ h.size) {index : Nat} {y : MethodName} {bytes' : ByteArray} {maxL' : Nat} {a : Addr} {W : Nat} {argsL : List Value} {rm : Room} (M : ConS l Z ws' y bytes' maxL' none rm (.ref a :: argsL).toArray h [] I Q) (hy1 : y.name = "<init>") (w1 : (Jvm.Cond.methodLink own index y).before a0 Z = true) (w2 : (Jvm.Cond.instanceMethod y).before a0 Z = true) (w3 : (Jvm.Cond.initialized y.cls).before a0 Z = true) (w4 : (Jvm.Cond.code y bytes' maxL' none).before a0 Z = true) (hy : y.cls ≠ "java/lang/invoke/MethodHandle" ∧ y.cls ≠ "java/lang/invoke/VarHandle") (hsz : Ls.size = maxL) (hlen : ∀ sig, parseMethodDescriptor y.desc = some sig → argsL.length = sig.parameters.length) (hst : st = argsL.reverse ++ .ref a :: rest) (hW : (rest.map fun v => v.category).sum ≤ W) (hd : decode bytes pc = .ok (.invokespecial index, 3)) (hp : pc + 3 = pc') (hc : cells + rm.cells ≤ R.cells) (hs : slots + rm.slots ≤ R.slots) (hsub : ∀ x ∈ ws', x ∈ ws ∨ h0.size ≤ x) (hf : rm.frames + 1 ≤ R.frames) (hl : W + (maxL' + 11) + rm.locals ≤ R.locals) (k : ∀ vm1 v h' J, Cx p (s.setVm vm1) m meth c Z h0 ws own nm bytes maxL ret → Bx s Z vm1 h' J → Q v h' J → Keep h h' ws' → G p l e R (s.setVm vm1) m args below meth c ws Φ h' (cells + rm.cells) (slots + rm.slots) pc' Ls (v.toList ++ rest)) : G p l e R (s.setVm vm0) m args below meth c ws Φ h cells slots pc Ls st := by
  intro T locs X e1 N
  subst hp hst
  have K0 : Keep h0 h ws := by have q := keep_of X N; rw [show (s.setVm vm0).heap = h0 from C.2.2.2.2.2.2.2.2.1, e1] at q; exact q
  have E0 := ext_keep C.2.2.2.2.2.2.2.2.2.1 K0 C.2.2.2.2.2.2.2.2.2.2
  have W0 := ws_sub hsub C.2.2.2.2.2.2.2.2.2.2 C.2.2.2.2.2.2.2.2.2.1.1
  obtain ⟨k0, hS, hk0, hI⟩ := B
  have hZ := C.2.1
  obtain ⟨v, vm1', ⟨T', L', k', n'⟩, -, X', h2, hg, ⟨L, J, hQ, hl1, hk1, hn1⟩, stp⟩ := X.specialBackS C.1 hy1 C.2.2.1 (mvT hZ w1) (mvT hZ w2) (mvT hZ w4) hy (bkI hZ M E0 W0 w4 w3 hf hl hI) (g := mkF m pc Ls (argsL.reverse ++ .ref a :: rest)) rfl (by rw [C.2.2.2.2.1]; exact hsz) (Steps.refl _) (a := a) (argsL := argsL) (rest := rest) hlen rfl (by show 2 * 0 + _ ≤ _; omega) (Jvm.hb C.2.2.2.1 hd) (fun _ _ => ⟨rfl, e1, hc, hs⟩)
  dsimp only [Pt.U, Pt.locs, Pt.cells, Pt.slots] at X' hl1 hk1 hn1 stp hQ h2 hg
  subst hl1 hk1 hn1
  obtain ⟨hQ1, hI1, hK1, hF1⟩ := hQ
  have hg' : h.size ≤ T'.heap.size := e1 ▸ hg
  obtain ⟨X2, hS2, hZ2, hown2⟩ := rebS hS (Nat.le_trans hk0 (Nat.le_trans hk hg')) X' h2 (Nat.le_refl _) (Z := Z) (own := own) C.2.1 C.2.2.1
  obtain ⟨s2, o, q, r⟩ := k T'.vm _ _ J (cx_move C hZ2 hown2) ⟨_, hS2, Nat.le_refl _, hI1⟩ hQ1 hK1 T' _ X2 rfl (N.app (by rw [show (s.setVm vm0).heap = h0 from C.2.2.2.2.2.2.2.2.1]; exact lw_sub hF1 K0.1 hsub))
  exact ⟨s2, o, stp.trans q, r⟩
theorem b_virtual (C : Cx p (s.setVm vm0) m meth c Z h0 ws own nm bytes maxL ret) (B : Bx s Z vm0 hb I) (hk : hb.size ≤ h.size) {index : Nat} {Cn : String} {y z : MethodName} {bytes' : ByteArray} {maxL' : Nat} {ret' : Option FieldType} {a : Addr} {W : Nat} {argsL : List Value} {rm : Room} (M : ConS l Z ws' z bytes' maxL' ret' rm (.ref a :: argsL).toArray h [] I Q) (w1 : (Jvm.Cond.methodLink own index y).before a0 Z = true) (w2 : (Jvm.Cond.declares y).before a0 Z = true) (w3 : (Jvm.Cond.selects Cn y z).before a0 Z = true) (hnf : ∀ b : State, Z.Warmed39 b.vm → NotFace b y) (w4 : (Jvm.Cond.instanceMethod z).before a0 Z = true) (w5 : (Jvm.Cond.initialized z.cls).before a0 Z = true) (w6 : (Jvm.Cond.code z bytes' maxL' ret').before a0 Z = true) (hy : y.cls ≠ "java/lang/invoke/MethodHandle" ∧ y.cls ≠ "java/lang/invoke/VarHandle") (E : Exa Z h a Cn) (hsz : Ls.size = maxL) (hlen : ∀ sig, parseMethodDescriptor y.desc = some sig → argsL.length = sig.parameters.length) (hst : st = argsL.reverse ++ .ref a :: rest) (hW : (rest.map fun v => v.category).sum ≤ W) (hd : decode bytes pc = .ok (.invokevirtual index, 3)) (hp : pc + 3 = pc') (hc : cells + rm.cells ≤ R.cells) (hs : slots + rm.slots ≤ R.slots) (hsub : ∀ x ∈ ws', x ∈ ws ∨ h0.size ≤ x) (hf : rm.frames + 1 ≤ R.frames) (hl : W + (maxL' + 11) + rm.locals ≤ R.locals) (k : ∀ vm1 v h' J, Cx p (s.setVm vm1) m meth c Z h0 ws own nm bytes maxL ret → Bx s Z vm1 h' J → Q v h' J → Keep h h' ws' → G p l e R (s.setVm vm1) m args below meth c ws Φ h' (cells + rm.cells) (slots + rm.slots) pc' Ls (v.toList ++ rest)) : G p l e R (s.setVm vm0) m args below meth c ws Φ h cells slots pc Ls st := by
  intro T locs X e1 N
  subst hp hst
  have K0 : Keep h0 h ws := by have q := keep_of X N; rw [show (s.setVm vm0).heap = h0 from C.2.2.2.2.2.2.2.2.1, e1] at q; exact q
  have E0 := ext_keep C.2.2.2.2.2.2.2.2.2.1 K0 C.2.2.2.2.2.2.2.2.2.2
  have W0 := ws_sub hsub C.2.2.2.2.2.2.2.2.2.2 C.2.2.2.2.2.2.2.2.2.1.1
  obtain ⟨k0, hS, hk0, hI⟩ := B
  have hZ := C.2.1
  obtain ⟨cq, kq, q1, q2, q3⟩ := isOf (s := s.setVm vm0) hZ e1 E
  obtain ⟨v, vm1', ⟨T', L', k', n'⟩, -, X', h2, hg, ⟨L, J, hQ, hl1, hk1, hn1⟩, stp⟩ := X.virtualBackS C.1 C.2.2.1 (mvT hZ w1) (mvT hZ w2) (hnf (s.setVm vm0) hZ) (mvT hZ w3) (mvT hZ w4) hy (bkI hZ M E0 W0 w6 w5 hf hl hI) q1 q3 (g := mkF m pc Ls (argsL.reverse ++ .ref a :: rest)) rfl (by rw [C.2.2.2.2.1]; exact hsz) (Steps.refl _) (argsL := argsL) (rest := rest) hlen rfl (by show 2 * 0 + _ ≤ _; omega) (Jvm.hb C.2.2.2.1 hd) (fun _ _ => ⟨rfl, e1, hc, hs⟩)
  dsimp only [Pt.U, Pt.locs, Pt.cells, Pt.slots] at X' hl1 hk1 hn1 stp hQ h2 hg
  subst hl1 hk1 hn1
  obtain ⟨hQ1, hI1, hK1, hF1⟩ := hQ
  have hg' : h.size ≤ T'.heap.size := e1 ▸ hg
  obtain ⟨X2, hS2, hZ2, hown2⟩ := rebS hS (Nat.le_trans hk0 (Nat.le_trans hk hg')) X' h2 (Nat.le_refl _) (Z := Z) (own := own) C.2.1 C.2.2.1
  obtain ⟨s2, o, q, r⟩ := k T'.vm _ _ J (cx_move C hZ2 hown2) ⟨_, hS2, Nat.le_refl _, hI1⟩ hQ1 hK1 T' _ X2 rfl (N.app (by rw [show (s.setVm vm0).heap = h0 from C.2.2.2.2.2.2.2.2.1]; exact lw_sub hF1 K0.1 hsub))
  exact ⟨s2, o, stp.trans q, r⟩
end OwnLit
theorem Ws_str {Z : State} {a0 : Array Value} (hw : ∀ d ∈ tables_1, d.before a0 Z = true) : ∀ d ∈ Bundle.stringAtoms, d.before a0 Z = true := fun d hd => hw d ((by decide +kernel : ∀ d ∈ Bundle.stringAtoms, d ∈ tables_1) d hd)

section OwnMore
variable {p : Program} {l : Launch} {e : Env} {R : Room} {s : State} {m : MethodId} {args : Array Value} {below : List Frame} {meth : Method} {c : Code} {Z : State} {h0 : Heap} {ws ws' : List Addr} {own nm : String} {bytes : ByteArray} {maxL : Nat} {ret : Option FieldType} {Φ : Outcome → State → Prop} {h : Heap} {cells slots pc pc' : Nat} {Ls Ls' : Array Slot} {st st' rest : List Value} {a0 : Array Value}
/-- the places written may be listed anew: all places of the cells of ws -/
theorem relist {T : State} {L : List Loc} (X : Stand p l e R s m args below meth c T L cells slots) (K : Keep s.heap T.heap ws) : ∃ L2, Stand p l e R s m args below meth c T L2 cells slots ∧ Lw s.heap.size ws L2 := by
  refine ⟨ws.flatMap fun a => ((s.heap[a]?.map fun k => (List.range k.slots.size).map fun i => (⟨a, i⟩ : Loc)).getD []), { X with same := ?_ }, fun y hy => ?_⟩
  · obtain ⟨h1, h2, h3, h4, h5, h6⟩ := X.same
    refine ⟨h1, h2, h3, h4, h5, fun a k ha => ?_⟩
    obtain ⟨k', q1, q2, q3, -⟩ := h6 a k ha
    refine ⟨k', q1, q2, q3, fun i hi => ?_⟩
    by_cases z : a ∈ ws
    · have hi2 : ¬ i < k.slots.size := fun q => hi (List.mem_flatMap.mpr ⟨a, z, by rw [ha]; simpa using q⟩)
      rw [Array.getElem?_eq_none (by omega), Array.getElem?_eq_none (by omega)]
    · have q4 : T.heap[a]? = some k := K.2.1 a k ha z
      have q5 : k' = k := Option.some.inj (q1.symm.trans q4)
      rw [q5]
  · obtain ⟨a, ha, hy⟩ := List.mem_flatMap.mp hy
    left
    cases hk : s.heap[a]? with
    | none => rw [hk] at hy; exact nomatch hy
    | some k =>
      rw [hk] at hy
      obtain ⟨i, -, rfl⟩ := List.mem_map.mp hy
      exact ha
theorem g_private (C : Cx p s m meth c Z h0 ws own nm bytes maxL ret) {index : Nat} {Cn : String} {y : MethodName} {bytes' : ByteArray} {maxL' : Nat} {ret' : Option FieldType} {a : Addr} (w1 : (Jvm.Cond.methodLink own index y).before a0 Z = true) {y' : MethodName} (w3 : (Jvm.Cond.selects Cn y' y').before a0 Z = true) (hcl : y'.cls = y.cls) (w4 : (Jvm.Cond.instanceMethod y).before a0 Z = true) (w7 : (Jvm.Cond.privateMethod y).before a0 Z = true) (w6 : (Jvm.Cond.code y bytes' maxL' ret').before a0 Z = true) (hy : y.cls ≠ "java/lang/invoke/MethodHandle" ∧ y.cls ≠ "java/lang/invoke/VarHandle") {W kb sb : Nat} {argsL : List Value} {Qb : Option Value → Heap → List Loc → Prop} (B : Bk l R p e below s args y 3 W (.ref a :: argsL).toArray h kb sb Qb) {Ce : String} (E : Exa Z h a Ce) (hsz : Ls.size = maxL) (hlen : ∀ sig, parseMethodDescriptor y.desc = some sig → argsL.length = sig.parameters.length) (hst : st = argsL.reverse ++ .ref a :: rest) (hW : (rest.map fun v => v.category).sum ≤ W) (hd : decode bytes pc = .ok (.invokevirtual index, 3)) (hp : pc + 3 = pc') (hc : cells + kb ≤ R.cells) (hs : slots + sb ≤ R.slots) (k : ∀ v h' L, Qb v h' L → Lw h0.size ws L ∧ G p l e R s m args below meth c ws Φ h' (cells + kb) (slots + sb) pc' Ls (v.toList ++ rest)) : G p l e R s m args below meth c ws Φ h cells slots pc Ls st := by
  intro T locs X e1 N
  subst hp hst
  obtain ⟨hx, hZ, hown, hby, hml, hret, hlk, hnm, rfl, hE, hws⟩ := C
  have hpriv := Cond.privateMethod_at (mvP hZ w7 (args := #[]))
  obtain ⟨c2, r2, m2, -, -, q3, -, kP, hkP, hkPi⟩ := Cond.selects_spec (mvT hZ w3 (args := #[]))
  have hsel := Jvm.Stand.selects_self_of_private (args := args) (by rw [← hcl]; exact findClass_of_methodNamed q3) hkP hkPi hpriv (mvT hZ w4) hy
  obtain ⟨cq, q1, q2⟩ := E.cell
  obtain ⟨v, vm1, ⟨T', L', k', n'⟩, -, X', ⟨L, hQ, hl, hk, hn⟩, stp⟩ := X.privateBack hx hown (mvT hZ w1) (mvT hZ w4) hsel hpriv (mvT hZ w6) hy B (g := mkF m pc Ls (argsL.reverse ++ .ref a :: rest)) rfl (by rw [hml]; exact hsz) (Steps.refl _) (a := a) (cell := cq) (by rw [e1]; exact q1) q2 (argsL := argsL) (rest := rest) hlen rfl (by show 2 * 0 + _ ≤ _; omega) (hb hby hd) (fun _ _ => ⟨rfl, e1, hc, hs⟩)
  dsimp only [Pt.U, Pt.locs, Pt.cells, Pt.slots] at X' hl hk hn stp hQ
  subst hl hk hn
  obtain ⟨hF, k1⟩ := k _ _ _ hQ
  obtain ⟨s2, o, q, r⟩ := k1 T' _ X' rfl (N.app hF)
  exact ⟨s2, o, stp.trans q, r⟩
theorem g_privateC (C : Cx p s m meth c Z h0 ws own nm bytes maxL ret) {index : Nat} {Cn : String} {y : MethodName} {bytes' : ByteArray} {maxL' : Nat} {ret' : Option FieldType} {W : Nat} {argsL : List Value} {a : Addr} {rm : Room} {Q' : Option Value → Heap → Prop} (M : Con l Z ws' y bytes' maxL' ret' rm (.ref a :: argsL).toArray h [] Q') (w1 : (Jvm.Cond.methodLink own index y).before a0 Z = true) {y' : MethodName} (w3 : (Jvm.Cond.selects Cn y' y').before a0 Z = true) (hcl : y'.cls = y.cls) (w4 : (Jvm.Cond.instanceMethod y).before a0 Z = true) (w7 : (Jvm.Cond.privateMethod y).before a0 Z = true) (w5 : (Jvm.Cond.initialized y.cls).before a0 Z = true) (w6 : (Jvm.Cond.code y bytes' maxL' ret').before a0 Z = true) (hy : y.cls ≠ "java/lang/invoke/MethodHandle" ∧ y.cls ≠ "java/lang/invoke/VarHandle") {Ce : String} (E : Exa Z h a Ce) (hsz : Ls.size = maxL) (hlen : ∀ sig, parseMethodDescriptor y.desc = some sig → argsL.length = sig.parameters.length) (hst : st = argsL.reverse ++ .ref a :: rest) (hW : (rest.map fun v => v.category).sum ≤ W) (hd : decode bytes pc = .ok (.invokevirtual index, 3)) (hp : pc + 3 = pc') (hc : cells + rm.cells ≤ R.cells) (hs : slots + rm.slots ≤ R.slots) (hsub : ∀ x ∈ ws', x ∈ ws ∨ h0.size ≤ x) (hf : rm.frames + 1 ≤ R.frames) (hl : W + (maxL' + 11) + rm.locals ≤ R.locals) (k : ∀ v h', Q' v h' → Keep h h' ws' → G p l e R s m args below meth c ws Φ h' (cells + rm.cells) (slots + rm.slots) pc' Ls (v.toList ++ rest)) : G p l e R s m args below meth c ws Φ h cells slots pc Ls st :=
  g_ctx C fun K0 E0 => g_private C w1 w3 hcl w4 w7 w6 hy (M.bk C.2.1 E0 (ws_sub hsub C.2.2.2.2.2.2.2.2.2.2 C.2.2.2.2.2.2.2.2.2.1.1) w6 w5 hf hl) E hsz hlen hst hW hd hp hc hs fun v h' L q => ⟨lw_sub q.2.2 K0.1 hsub, k v h' q.1 q.2.1⟩
theorem g_super (C : Cx p s m meth c Z h0 ws own nm bytes maxL ret) {index : Nat} {y : MethodName} {bytes' : ByteArray} {maxL' : Nat} {ret' : Option FieldType} {a : Addr} (w1 : (Jvm.Cond.methodLink own index y).before a0 Z = true) (w2 : (Jvm.Cond.sameMethod y.cls y.cls y.name y.desc).before a0 Z = true) (w4 : (Jvm.Cond.instanceMethod y).before a0 Z = true) (w7 : (Jvm.Cond.superclass own y.cls).before a0 Z = true) (w6 : (Jvm.Cond.code y bytes' maxL' ret').before a0 Z = true) (hyn : y.name ≠ "<init>") {W kb sb : Nat} {argsL : List Value} {Qb : Option Value → Heap → List Loc → Prop} (B : Bk l R p e below s args y 3 W (.ref a :: argsL).toArray h kb sb Qb) {Ce : String} (E : Exa Z h a Ce) (hsz : Ls.size = maxL) (hlen : ∀ sig, parseMethodDescriptor y.desc = some sig → argsL.length = sig.parameters.length) (hst : st = argsL.reverse ++ .ref a :: rest) (hW : (rest.map fun v => v.category).sum ≤ W) (hd : decode bytes pc = .ok (.invokespecial index, 3)) (hp : pc + 3 = pc') (hc : cells + kb ≤ R.cells) (hs : slots + sb ≤ R.slots) (k : ∀ v h' L, Qb v h' L → Lw h0.size ws L ∧ G p l e R s m args below meth c ws Φ h' (cells + kb) (slots + sb) pc' Ls (v.toList ++ rest)) : G p l e R s m args below meth c ws Φ h cells slots pc Ls st := by
  intro T locs X e1 N
  subst hp hst
  obtain ⟨hx, hZ, hown, hby, hml, hret, hlk, hnm, rfl, hE, hws⟩ := C
  obtain ⟨v, vm1, ⟨T', L', k', n'⟩, -, X', ⟨L, hQ, hl, hk, hn⟩, stp⟩ := superBack X hx hZ hown w1 w2 w4 w7 hyn B e1 (Ins.self E) (g := mkF m pc Ls (argsL.reverse ++ .ref a :: rest)) rfl (by rw [hml]; exact hsz) w6 (argsL := argsL) (rest := rest) hlen rfl (by show 2 * 0 + _ ≤ _; omega) (hb hby hd) (fun _ _ => ⟨rfl, e1, hc, hs⟩)
  dsimp only [Pt.U, Pt.locs, Pt.cells, Pt.slots] at X' hl hk hn stp hQ
  subst hl hk hn
  obtain ⟨hF, k1⟩ := k _ _ _ hQ
  obtain ⟨s2, o, q, r⟩ := k1 T' _ X' rfl (N.app hF)
  exact ⟨s2, o, stp.trans q, r⟩
theorem g_superC (C : Cx p s m meth c Z h0 ws own nm bytes maxL ret) {index : Nat} {y : MethodName} {bytes' : ByteArray} {maxL' : Nat} {ret' : Option FieldType} {W : Nat} {argsL : List Value} {a : Addr} {rm : Room} {Q' : Option Value → Heap → Prop} (M : Con l Z ws' y bytes' maxL' ret' rm (.ref a :: argsL).toArray h [] Q') (w1 : (Jvm.Cond.methodLink own index y).before a0 Z = true) (w2 : (Jvm.Cond.sameMethod y.cls y.cls y.name y.desc).before a0 Z = true) (w4 : (Jvm.Cond.instanceMethod y).before a0 Z = true) (w7 : (Jvm.Cond.superclass own y.cls).before a0 Z = true) (w5 : (Jvm.Cond.initialized y.cls).before a0 Z = true) (w6 : (Jvm.Cond.code y bytes' maxL' ret').before a0 Z = true) (hyn : y.name ≠ "<init>") {Ce : String} (E : Exa Z h a Ce) (hsz : Ls.size = maxL) (hlen : ∀ sig, parseMethodDescriptor y.desc = some sig → argsL.length = sig.parameters.length) (hst : st = argsL.reverse ++ .ref a :: rest) (hW : (rest.map fun v => v.category).sum ≤ W) (hd : decode bytes pc = .ok (.invokespecial index, 3)) (hp : pc + 3 = pc') (hc : cells + rm.cells ≤ R.cells) (hs : slots + rm.slots ≤ R.slots) (hsub : ∀ x ∈ ws', x ∈ ws ∨ h0.size ≤ x) (hf : rm.frames + 1 ≤ R.frames) (hl : W + (maxL' + 11) + rm.locals ≤ R.locals) (k : ∀ v h', Q' v h' → Keep h h' ws' → G p l e R s m args below meth c ws Φ h' (cells + rm.cells) (slots + rm.slots) pc' Ls (v.toList ++ rest)) : G p l e R s m args below meth c ws Φ h cells slots pc Ls st :=
  g_ctx C fun K0 E0 => g_super C w1 w2 w4 w7 w6 hyn (M.bk C.2.1 E0 (ws_sub hsub C.2.2.2.2.2.2.2.2.2.2 C.2.2.2.2.2.2.2.2.2.1.1) w6 w5 hf hl) E hsz hlen hst hW hd hp hc hs fun v h' L q => ⟨lw_sub q.2.2 K0.1 hsub, k v h' q.1 q.2.1⟩
theorem copy_at (l1 l2 : List Value) (d : Value) (f g : Nat → Value) (n n' sp dp nn : Nat) (hs : sp + nn ≤ n) (hd : dp + nn ≤ n') (i : Nat) (hi : i < n') :
    (((List.range n').map g).take dp ++ ((List.range nn).map fun j => ((List.range n).map f).getD (sp + j) d) ++ ((List.range n').map g).drop (dp + nn)).getD i d = if dp ≤ i ∧ i < dp + nn then f (sp + (i - dp)) else g i := by
  by_cases z : i < dp
  · rw [if_neg (by omega)]
    simp [List.getD_eq_getElem?_getD, List.getElem?_append, z, hi, Nat.min_eq_left (show dp ≤ n' by omega), show i < dp + nn by omega]
  · by_cases z2 : i < dp + nn
    · rw [if_pos ⟨by omega, z2⟩]
      simp [List.getD_eq_getElem?_getD, List.getElem?_append, z, z2, hi, Nat.min_eq_left (show dp ≤ n' by omega), show i - dp < nn by omega, show sp + (i - dp) < n by omega]
    · rw [if_neg (by omega)]
      simp [List.getD_eq_getElem?_getD, List.getElem?_append, z, z2, hi, Nat.min_eq_left (show dp ≤ n' by omega), show ¬ i < dp + nn by omega, show ¬ i - dp < nn by omega, show dp + nn + (i - dp - nn) = i by omega, show dp + nn + (i - (dp + nn)) = i by omega]
theorem g_arraycopy (C : Cx p s m meth c Z h0 ws own nm bytes maxL ret) {index : Nat} {a b : Addr} {ty : FieldType} {n n' sp dp nn : Nat} {f g : Nat → Value} {zs zd zn : Int32} (w1 : (Jvm.Cond.methodLink own index Jvm.Stand.acN).before a0 Z = true) (w2 : (Jvm.Cond.native Jvm.Stand.acN).before a0 Z = true) (w3 : (Jvm.Cond.static Jvm.Stand.acN).before a0 Z = true) (w4 : (Jvm.Cond.initialized "java/lang/System").before a0 Z = true) (A : Af Z h a ty n f) (B : Af Z h b ty n' g) (hty : refKind ty = false) (hzs : Int32.ofNat sp = zs) (hzd : Int32.ofNat dp = zd) (hzn : Int32.ofNat nn = zn) (h1 : sp + nn ≤ n) (h2 : dp + nn ≤ n') (hb : b ∈ ws ∨ h0.size ≤ b) (hsz : Ls.size = maxL) (hf : 1 ≤ R.frames) (hlo : (st.map fun v => v.category).sum + (nativeFrameWords "java/lang/System" "arraycopy" 5 + 11) ≤ R.locals) (hd : decode bytes pc = .ok (.invokestatic index, 3)) (hp : pc + 3 = pc') (k : ∀ h', Keep h h' [b] → Af Z h' b ty n' (fun i => if dp ≤ i ∧ i < dp + nn then f (sp + (i - dp)) else g i) → G p l e R s m args below meth c ws Φ h' cells slots pc' Ls st) : G p l e R s m args below meth c ws Φ h cells slots pc Ls (.int zn :: .int zd :: .ref b :: .int zs :: .ref a :: st) := by
  intro T locs X e1 N
  subst hp hzs hzd hzn
  have K0 : Keep s.heap h ws := e1 ▸ keep_of X N
  obtain ⟨hx, hZ, hown, hby, hml, hret, hlk, hnm, rfl, hE, hws⟩ := C
  have hn1 : n < 2 ^ 31 := A.choose_spec.2.2.1
  have hn2 : n' < 2 ^ 31 := B.choose_spec.2.2.1
  obtain ⟨kA, Av⟩ := A.arv (.int 0)
  obtain ⟨kB, Bv⟩ := B.arv (.int 0)
  have c1 : (Int32.ofNat sp).toNatClampNeg = sp := i32_clamp (by omega)
  have c2 : (Int32.ofNat dp).toNatClampNeg = dp := i32_clamp (by omega)
  have c3 : (Int32.ofNat nn).toNatClampNeg = nn := i32_clamp (by omega)
  have c4 : (Int32.ofNat n).toNatClampNeg = n := i32_clamp hn1
  have c5 : (Int32.ofNat n').toNatClampNeg = n' := i32_clamp hn2
  have NF : Fr Z.heap.size locs := fun y hy => (N y hy).elim (hws _) fun q => Nat.le_trans hE.1 q
  have gb : Z.heap.size ≤ b := hb.elim (hws _) fun q => Nat.le_trans hE.1 q
  obtain ⟨T', h', L, X', e2, -, K, R1, stp⟩ := cpA X hx hZ hown w1 w2 w3 w4 e1 Av Bv (us := (List.range nn).map fun j => ((List.range n).map f).getD (sp + j) (.int 0)) (Or.inl ⟨rfl, hty⟩) (i32_nn (by omega)) (i32_nn (by omega)) (i32_nn (by omega)) (by rw [c1, c3, c4]; exact h1) (by rw [c2, c3, c5]; exact h2) (by rw [c1, c3]) (by rw [c2, c3]; simpa using h2) NF gb (g := mkF m pc Ls (.int (Int32.ofNat nn) :: .int (Int32.ofNat dp) :: .ref b :: .int (Int32.ofNat sp) :: .ref a :: st)) rfl (by rw [hml]; exact hsz) rfl (Jvm.hb hby hd) hf (W := (st.map fun v => v.category).sum) (by show 2 * 0 + _ ≤ _; omega) hlo
  rw [c2, c3] at R1
  have K1 : Keep s.heap T'.heap ws := e2 ▸ K0.trans K (fun x hx => by cases List.mem_singleton.mp hx; exact hb)
  obtain ⟨L2, X2, N2⟩ := relist X' K1
  obtain ⟨s2, o, q, r⟩ := k h' K ((Arv.af R1 c5).congr fun i hi => (copy_at [] [] (.int 0) f g n n' sp dp nn h1 h2 i hi).symm) T' L2 X2 e2 N2
  exact ⟨s2, o, stp _ q, r⟩
end OwnMore
theorem lt_c {x y : Int32} {Y : Int} (hy : y.toInt = Y) : (x < y ↔ x.toInt < Y) ∧ (y < x ↔ Y < x.toInt) := by rw [Int32.lt_iff_toInt_lt, Int32.lt_iff_toInt_lt, hy]; exact ⟨Iff.rfl, Iff.rfl⟩
theorem lt_n {n k : Nat} (hn : n < 2 ^ 31) (hk : k < 2 ^ 31) : (Int32.ofNat n < Int32.ofNat k) ↔ n < k := by rw [Int32.lt_iff_toInt_lt, i32_nat hn, i32_nat hk]; omega
theorem eq_n {n k : Nat} (hn : n < 2 ^ 31) (hk : k < 2 ^ 31) : (Int32.ofNat n = Int32.ofNat k) ↔ n = k := ⟨fun q => by have := congrArg Int32.toInt q; rw [i32_nat hn, i32_nat hk] at this; omega, fun q => by rw [q]⟩
theorem sub_n {n k : Nat} (hk : k ≤ n) : Int32.ofNat n - Int32.ofNat k = Int32.ofNat (n - k) := by
  have e : Int32.ofNat n = Int32.ofNat (n - k) + Int32.ofNat k := by rw [← Int32.ofNat_add]; congr 1; omega
  rw [e, Int32.add_sub_cancel]
/-- a char from 0 to 255 -/
def Lt1 (c : Int32) : Prop := 0 ≤ c.toInt ∧ c.toInt ≤ 255
theorem Lt1.ok {c : Int32} (q : Lt1 c) : ¬ c < 0 ∧ ¬ (255 : Int32) < c := by
  rw [(lt_c (y := 0) (Y := 0) rfl).1, (lt_c (y := 255) (Y := 255) rfl).2]
  unfold Lt1 at q; omega
theorem Lt1.of {c : Int32} (q : ¬ c < 0 ∧ ¬ (255 : Int32) < c) : Lt1 c := by
  rw [(lt_c (y := 0) (Y := 0) rfl).1, (lt_c (y := 255) (Y := 255) rfl).2] at q
  unfold Lt1; omega
theorem Lt1.nar {c : Int32} (q : Lt1 c) : RoadKit.nar .char c = c := nar_char_id q.1 (by have := q.2; omega)
theorem Lt1.mask (x : Int32) : Lt1 (RoadKit.nar .char (x &&& 255)) := by
  have q1 := c_mask x 255 8 (by decide) (by decide)
  have l : ((2 ^ 8 : Nat) : Int) = 256 := rfl
  rw [l] at q1
  rw [nar_char_id (x := x &&& 255) (by omega) (by omega)]
  unfold Lt1; omega
theorem idx3 (x : Int32) : ∃ n : Nat, (x &&& 255) % 3 = Int32.ofNat n ∧ n ≤ 2 := by
  have q1 := c_mask x 255 8 (by decide) (by decide)
  have l : ((2 ^ 8 : Nat) : Int) = 256 := rfl
  rw [l] at q1
  have q2 := (c_irem (x &&& 255) 3 3 rfl).1 (by omega)
  refine ⟨((x &&& 255) % 3).toInt.toNat, Int32.toInt_inj.mp ?_, by omega⟩
  rw [i32_nat (by omega)]; omega
theorem nar_b (x : Int32) : RoadKit.nar .byte x.toInt8.toInt32 = x.toInt8.toInt32 := by show x.toInt8.toInt32.toInt8.toInt32 = x.toInt8.toInt32; simp
theorem getD_map {α β : Type} (f : α → β) (l : List α) (i : Nat) (d : α) (e : β) (h : i < l.length) : (l.map f).getD i e = f (l.getD i d) := by
  simp [List.getD_eq_getElem?_getD, h]
theorem str_bytes {Z : State} {h : Heap} {t : Addr} {kb : ClassId} {cs : List Int32} (hl : cs.length ≤ 4000) (A : Arv Z h t kb .byte (Int32.ofNat cs.length) ((cs.map (fun c => c.toInt8.toInt32)).map Value.int) (.int 0)) : Af Z h t .byte cs.length (fun i => .int ((cs.getD i 0).toInt8.toInt32)) :=
  (Arv.af A (i32_clamp (by omega))).congr fun i hi => by
    rw [List.map_map]; exact (getD_map (Value.int ∘ fun c => c.toInt8.toInt32) cs i 0 _ hi).symm
theorem bytes_str {Z : State} {h : Heap} {t : Addr} {cs : List Int32} {f : Nat → Value} (A : Af Z h t .byte cs.length f) (hf : ∀ i, i < cs.length → f i = .int ((cs.getD i 0).toInt8.toInt32)) : ∃ kb, Arv Z h t kb .byte (Int32.ofNat cs.length) ((cs.map (fun c => c.toInt8.toInt32)).map Value.int) (.int 0) := by
  obtain ⟨kb, A'⟩ := A.arv (.int 0)
  refine ⟨kb, ?_⟩
  have e : (List.range cs.length).map f = (cs.map (fun c => c.toInt8.toInt32)).map Value.int := by
    apply List.ext_getElem (by simp)
    intro i h1 h2
    have hi : i < cs.length := by simpa using h1
    simp [hf i hi, List.getD_eq_getElem?_getD, hi]
  rw [e] at A'; exact A'
/-- the literal "" of java/lang/String's entry 7, if it was loaded -/
def LE (Z : State) (h : Heap) (I0 : LL) : Prop := I0 = [] ∨ ∃ a, I0 = [("java/lang/String", 7, "", a)] ∧ Str Z h a []
theorem LE.ext {Z : State} {h h' : Heap} {I0 : LL} (q : LE Z h I0) (X : Ext h h') : LE Z h' I0 := q.imp id fun ⟨a, e, S⟩ => ⟨a, e, S.ext X⟩
theorem LE.keep {Z : State} {h h' : Heap} {I0 : LL} {ws : List Addr} (q : LE Z h I0) (K : Keep h h' ws) (n : ∀ y ∈ ws, Nst Z h y) : LE Z h' I0 := q.imp id fun ⟨a, e, S⟩ => ⟨a, e, S.keep K n⟩
theorem LE.not {Z : State} {h : Heap} {I0 : LL} (q : LE Z h I0) {text : String} (hne : text ≠ "") : text ∉ I0.map fun x => x.2.2.1 := by
  rcases q with rfl | ⟨a, rfl, -⟩
  · simp
  · simpa using hne
/-- a builder of 16 places at b, over the array t, that holds the chars cs -/
def Sb (Z : State) (h : Heap) (b t : Addr) (cs : List Int32) : Prop := Exa Z h b "java/lang/StringBuilder" ∧ Fld Z h b "java/lang/AbstractStringBuilder" "count" "I" (.int (Int32.ofNat cs.length)) ∧ Fld Z h b "java/lang/AbstractStringBuilder" "coder" "B" (.int 0) ∧ Fld Z h b "java/lang/AbstractStringBuilder" "value" "[B" (.ref t) ∧ ∃ f, Af Z h t .byte 16 f ∧ ∀ i, i < cs.length → f i = .int ((cs.getD i 0).toInt8.toInt32)
theorem Sb.ext {Z : State} {h h' : Heap} {b t : Addr} {cs : List Int32} (S : Sb Z h b t cs) (X : Ext h h') : Sb Z h' b t cs := by
  obtain ⟨E, N, Cd, V, f, A, q⟩ := S
  exact ⟨E.ext X, N.ext X, Cd.ext X, V.ext X, f, A.ext X, q⟩
/-- what the law expects at place i -/
def strL (n : Nat) (c d : Int32) : List Int32 := if n = 0 then [] else if n = 1 then [c] else [c, d]
def expF (i sl : Nat) (c0 c1 : Int32) (nl : Nat) (d0 d1 : Int32) : Int32 :=
  if i < sl then (if i = 0 then c0 else c1) else if i - sl = 0 then 32 else if i - sl = 1 then 60 else if i - sl = 2 then 62 else if i - sl = 3 then 32 else if i - sl = 4 then 39 else if i - sl - 5 < nl then (if i - sl - 5 = 0 then d0 else d1) else 39
def allL (sl : Nat) (c0 c1 : Int32) (nl : Nat) (d0 d1 : Int32) : List Int32 := ((strL sl c0 c1 ++ [32, 60, 62, 32, 39]) ++ strL nl d0 d1) ++ [39]
theorem strL_len {n : Nat} (h : n ≤ 2) (c d : Int32) : (strL n c d).length = n := by
  obtain rfl | rfl | rfl : n = 0 ∨ n = 1 ∨ n = 2 := by omega
  all_goals rfl
theorem allL_len {sl nl : Nat} (h : sl ≤ 2) (h' : nl ≤ 2) (c0 c1 d0 d1 : Int32) : (allL sl c0 c1 nl d0 d1).length = sl + nl + 6 := by
  simp only [allL, List.length_append, strL_len h, strL_len h', List.length_cons, List.length_nil]; omega
theorem strL_ok {n : Nat} {c d : Int32} (hc : Lt1 c) (hd : Lt1 d) : ∀ x ∈ strL n c d, ¬ x < 0 ∧ ¬ (255 : Int32) < x := by
  intro x hx
  unfold strL at hx
  split at hx
  · exact nomatch hx
  · split at hx
    · cases List.mem_singleton.mp hx; exact hc.ok
    · simp only [List.mem_cons, List.not_mem_nil, or_false] at hx
      rcases hx with rfl | rfl
      · exact hc.ok
      · exact hd.ok
theorem allL_ok {sl nl : Nat} {c0 c1 d0 d1 : Int32} (h0 : Lt1 c0) (h1 : Lt1 c1) (h2 : Lt1 d0) (h3 : Lt1 d1) : ∀ x ∈ allL sl c0 c1 nl d0 d1, ¬ x < 0 ∧ ¬ (255 : Int32) < x := by
  intro x hx
  simp only [allL, List.mem_append] at hx
  rcases hx with ((hx | hx) | hx) | hx
  · exact strL_ok h0 h1 x hx
  · exact (by decide : ∀ x ∈ ([32, 60, 62, 32, 39] : List Int32), ¬ x < 0 ∧ ¬ (255 : Int32) < x) x hx
  · exact strL_ok h2 h3 x hx
  · exact (by decide : ∀ x ∈ ([39] : List Int32), ¬ x < 0 ∧ ¬ (255 : Int32) < x) x hx
theorem allL_at {sl nl : Nat} (h : sl ≤ 2) (h' : nl ≤ 2) (c0 c1 d0 d1 : Int32) (i : Nat) (hi : i < sl + nl + 6) : expF i sl c0 c1 nl d0 d1 = (allL sl c0 c1 nl d0 d1).getD i 0 := by
  obtain rfl | rfl | rfl : sl = 0 ∨ sl = 1 ∨ sl = 2 := by omega
  all_goals obtain rfl | rfl | rfl : nl = 0 ∨ nl = 1 ∨ nl = 2 := by omega
  all_goals obtain rfl | rfl | rfl | rfl | rfl | rfl | rfl | rfl | rfl | rfl : i = 0 ∨ i = 1 ∨ i = 2 ∨ i = 3 ∨ i = 4 ∨ i = 5 ∨ i = 6 ∨ i = 7 ∨ i = 8 ∨ i = 9 := by omega
  all_goals first | rfl | omega
theorem ap_at {cs ds : List Int32} {f : Nat → Value} (q : ∀ i, i < cs.length → f i = .int ((cs.getD i 0).toInt8.toInt32)) {i : Nat} (hi : i < (cs ++ ds).length) : (if cs.length ≤ i ∧ i < cs.length + ds.length then Value.int ((ds.getD (0 + (i - cs.length)) 0).toInt8.toInt32) else f i) = .int (((cs ++ ds).getD i 0).toInt8.toInt32) := by
  rw [List.length_append] at hi
  by_cases z : i < cs.length
  · rw [if_neg (by omega), q i z]; simp [List.getD_eq_getElem?_getD, List.getElem?_append, z]
  · rw [if_pos (by omega)]; simp [List.getD_eq_getElem?_getD, List.getElem?_append, z]
theorem d_jdk_42_method_149_0 : decode jdk_42_method_149_code 0 = .ok (.aload_n 0, 1) := by decide +kernel
theorem d_jdk_42_method_149_1 : decode jdk_42_method_149_code 1 = .ok (.invokespecial 1, 3) := by decide +kernel
theorem d_jdk_42_method_149_4 : decode jdk_42_method_149_code 4 = .ok (.iload_n 3, 1) := by decide +kernel
theorem d_jdk_42_method_149_5 : decode jdk_42_method_149_code 5 = .ok (.ifCond .ne 22, 3) := by decide +kernel
theorem d_jdk_42_method_149_8 : decode jdk_42_method_149_code 8 = .ok (.aload_n 0, 1) := by decide +kernel
theorem d_jdk_42_method_149_9 : decode jdk_42_method_149_code 9 = .ok (.ldc 7, 2) := by decide +kernel
theorem d_jdk_42_method_149_11 : decode jdk_42_method_149_code 11 = .ok (.getfield 9, 3) := by decide +kernel
theorem d_jdk_42_method_149_14 : decode jdk_42_method_149_code 14 = .ok (.putfield 9, 3) := by decide +kernel
theorem d_jdk_42_method_149_17 : decode jdk_42_method_149_code 17 = .ok (.aload_n 0, 1) := by decide +kernel
theorem d_jdk_42_method_149_18 : decode jdk_42_method_149_code 18 = .ok (.ldc 7, 2) := by decide +kernel
theorem d_jdk_42_method_149_20 : decode jdk_42_method_149_code 20 = .ok (.getfield 15, 3) := by decide +kernel
theorem d_jdk_42_method_149_23 : decode jdk_42_method_149_code 23 = .ok (.putfield 15, 3) := by decide +kernel
theorem d_jdk_42_method_149_26 : decode jdk_42_method_149_code 26 = .ok (.return_, 1) := by decide +kernel
theorem d_jdk_42_method_3_0 : decode jdk_42_method_3_code 0 = .ok (.aload_n 0, 1) := by decide +kernel
theorem d_jdk_42_method_3_1 : decode jdk_42_method_3_code 1 = .ok (.aload_n 1, 1) := by decide +kernel
theorem d_jdk_42_method_3_2 : decode jdk_42_method_3_code 2 = .ok (.iconst 0, 1) := by decide +kernel
theorem d_jdk_42_method_3_3 : decode jdk_42_method_3_code 3 = .ok (.aload_n 1, 1) := by decide +kernel
theorem d_jdk_42_method_3_4 : decode jdk_42_method_3_code 4 = .ok (.arraylength, 1) := by decide +kernel
theorem d_jdk_42_method_3_5 : decode jdk_42_method_3_code 5 = .ok (.aconst_null, 1) := by decide +kernel
theorem d_jdk_42_method_3_6 : decode jdk_42_method_3_code 6 = .ok (.invokespecial 27, 3) := by decide +kernel
theorem d_jdk_42_method_3_9 : decode jdk_42_method_3_code 9 = .ok (.return_, 1) := by decide +kernel
theorem d_jdk_43_method_3_0 : decode jdk_43_method_3_code 0 = .ok (.iload_n 0, 1) := by decide +kernel
theorem d_jdk_43_method_3_1 : decode jdk_43_method_3_code 1 = .ok (.sipush 255, 3) := by decide +kernel
theorem d_jdk_43_method_3_4 : decode jdk_43_method_3_code 4 = .ok (.if_icmp .gt 7, 3) := by decide +kernel
theorem d_jdk_43_method_3_7 : decode jdk_43_method_3_code 7 = .ok (.iconst 1, 1) := by decide +kernel
theorem d_jdk_43_method_3_8 : decode jdk_43_method_3_code 8 = .ok (.goto 4, 3) := by decide +kernel
theorem d_jdk_43_method_3_12 : decode jdk_43_method_3_code 12 = .ok (.ireturn, 1) := by decide +kernel
theorem d_jdk_43_method_46_0 : decode jdk_43_method_46_code 0 = .ok (.iconst 1, 1) := by decide +kernel
theorem d_jdk_43_method_46_1 : decode jdk_43_method_46_code 1 = .ok (.newarray .byte, 2) := by decide +kernel
theorem d_jdk_43_method_46_3 : decode jdk_43_method_46_code 3 = .ok (.dup, 1) := by decide +kernel
theorem d_jdk_43_method_46_4 : decode jdk_43_method_46_code 4 = .ok (.iconst 0, 1) := by decide +kernel
theorem d_jdk_43_method_46_5 : decode jdk_43_method_46_code 5 = .ok (.iload_n 0, 1) := by decide +kernel
theorem d_jdk_43_method_46_6 : decode jdk_43_method_46_code 6 = .ok (.i2b, 1) := by decide +kernel
theorem d_jdk_43_method_46_7 : decode jdk_43_method_46_code 7 = .ok (.bastore, 1) := by decide +kernel
theorem d_jdk_43_method_46_8 : decode jdk_43_method_46_code 8 = .ok (.areturn, 1) := by decide +kernel
theorem d_jdk_42_method_151_0 : decode jdk_42_method_151_code 0 = .ok (.aload_n 0, 1) := by decide +kernel
theorem d_jdk_42_method_151_1 : decode jdk_42_method_151_code 1 = .ok (.invokespecial 1, 3) := by decide +kernel
theorem d_jdk_42_method_151_4 : decode jdk_42_method_151_code 4 = .ok (.aload_n 0, 1) := by decide +kernel
theorem d_jdk_42_method_151_5 : decode jdk_42_method_151_code 5 = .ok (.aload_n 1, 1) := by decide +kernel
theorem d_jdk_42_method_151_6 : decode jdk_42_method_151_code 6 = .ok (.putfield 9, 3) := by decide +kernel
theorem d_jdk_42_method_151_9 : decode jdk_42_method_151_code 9 = .ok (.aload_n 0, 1) := by decide +kernel
theorem d_jdk_42_method_151_10 : decode jdk_42_method_151_code 10 = .ok (.iload_n 2, 1) := by decide +kernel
theorem d_jdk_42_method_151_11 : decode jdk_42_method_151_code 11 = .ok (.putfield 15, 3) := by decide +kernel
theorem d_jdk_42_method_151_14 : decode jdk_42_method_151_code 14 = .ok (.return_, 1) := by decide +kernel
theorem d_jdk_42_method_139_0 : decode jdk_42_method_139_code 0 = .ok (.getstatic 38, 3) := by decide +kernel
theorem d_jdk_42_method_139_3 : decode jdk_42_method_139_code 3 = .ok (.ifCond .eq 23, 3) := by decide +kernel
theorem d_jdk_42_method_139_6 : decode jdk_42_method_139_code 6 = .ok (.iload_n 0, 1) := by decide +kernel
theorem d_jdk_42_method_139_7 : decode jdk_42_method_139_code 7 = .ok (.invokestatic 1015, 3) := by decide +kernel
theorem d_jdk_42_method_139_10 : decode jdk_42_method_139_code 10 = .ok (.ifCond .eq 16, 3) := by decide +kernel
theorem d_jdk_42_method_139_13 : decode jdk_42_method_139_code 13 = .ok (.new 10, 3) := by decide +kernel
theorem d_jdk_42_method_139_16 : decode jdk_42_method_139_code 16 = .ok (.dup, 1) := by decide +kernel
theorem d_jdk_42_method_139_17 : decode jdk_42_method_139_code 17 = .ok (.iload_n 0, 1) := by decide +kernel
theorem d_jdk_42_method_139_18 : decode jdk_42_method_139_code 18 = .ok (.invokestatic 1018, 3) := by decide +kernel
theorem d_jdk_42_method_139_21 : decode jdk_42_method_139_code 21 = .ok (.iconst 0, 1) := by decide +kernel
theorem d_jdk_42_method_139_22 : decode jdk_42_method_139_code 22 = .ok (.invokespecial 209, 3) := by decide +kernel
theorem d_jdk_42_method_139_25 : decode jdk_42_method_139_code 25 = .ok (.areturn, 1) := by decide +kernel
theorem d_method_3_0 : decode method_3_code 0 = .ok (.iload_n 0, 1) := by decide +kernel
theorem d_method_3_1 : decode method_3_code 1 = .ok (.ifCond .ne 14, 3) := by decide +kernel
theorem d_method_3_4 : decode method_3_code 4 = .ok (.new 23, 3) := by decide +kernel
theorem d_method_3_7 : decode method_3_code 7 = .ok (.dup, 1) := by decide +kernel
theorem d_method_3_8 : decode method_3_code 8 = .ok (.iconst 0, 1) := by decide +kernel
theorem d_method_3_9 : decode method_3_code 9 = .ok (.newarray .char, 2) := by decide +kernel
theorem d_method_3_11 : decode method_3_code 11 = .ok (.invokespecial 32, 3) := by decide +kernel
theorem d_method_3_14 : decode method_3_code 14 = .ok (.areturn, 1) := by decide +kernel
theorem d_method_3_15 : decode method_3_code 15 = .ok (.iload_n 0, 1) := by decide +kernel
theorem d_method_3_16 : decode method_3_code 16 = .ok (.iconst 1, 1) := by decide +kernel
theorem d_method_3_17 : decode method_3_code 17 = .ok (.if_icmp .ne 8, 3) := by decide +kernel
theorem d_method_3_20 : decode method_3_code 20 = .ok (.iload_n 1, 1) := by decide +kernel
theorem d_method_3_21 : decode method_3_code 21 = .ok (.invokestatic 35, 3) := by decide +kernel
theorem d_method_3_24 : decode method_3_code 24 = .ok (.areturn, 1) := by decide +kernel
theorem d_method_3_25 : decode method_3_code 25 = .ok (.new 23, 3) := by decide +kernel
theorem d_method_3_28 : decode method_3_code 28 = .ok (.dup, 1) := by decide +kernel
theorem d_method_3_29 : decode method_3_code 29 = .ok (.iconst 2, 1) := by decide +kernel
theorem d_method_3_30 : decode method_3_code 30 = .ok (.newarray .char, 2) := by decide +kernel
theorem d_method_3_32 : decode method_3_code 32 = .ok (.dup, 1) := by decide +kernel
theorem d_method_3_33 : decode method_3_code 33 = .ok (.iconst 0, 1) := by decide +kernel
theorem d_method_3_34 : decode method_3_code 34 = .ok (.iload_n 1, 1) := by decide +kernel
theorem d_method_3_35 : decode method_3_code 35 = .ok (.castore, 1) := by decide +kernel
theorem d_method_3_36 : decode method_3_code 36 = .ok (.dup, 1) := by decide +kernel
theorem d_method_3_37 : decode method_3_code 37 = .ok (.iconst 1, 1) := by decide +kernel
theorem d_method_3_38 : decode method_3_code 38 = .ok (.iload_n 2, 1) := by decide +kernel
theorem d_method_3_39 : decode method_3_code 39 = .ok (.castore, 1) := by decide +kernel
theorem d_method_3_40 : decode method_3_code 40 = .ok (.invokespecial 32, 3) := by decide +kernel
theorem d_method_3_43 : decode method_3_code 43 = .ok (.areturn, 1) := by decide +kernel
theorem d_jdk_30_method_1_0 : decode jdk_30_method_1_code 0 = .ok (.aload_n 0, 1) := by decide +kernel
theorem d_jdk_30_method_1_1 : decode jdk_30_method_1_code 1 = .ok (.invokespecial 1, 3) := by decide +kernel
theorem d_jdk_30_method_1_4 : decode jdk_30_method_1_code 4 = .ok (.return_, 1) := by decide +kernel
theorem d_prog_11_method_1_0 : decode prog_11_method_1_code 0 = .ok (.aload_n 0, 1) := by decide +kernel
theorem d_prog_11_method_1_1 : decode prog_11_method_1_code 1 = .ok (.invokespecial 1, 3) := by decide +kernel
theorem d_prog_11_method_1_4 : decode prog_11_method_1_code 4 = .ok (.aload_n 0, 1) := by decide +kernel
theorem d_prog_11_method_1_5 : decode prog_11_method_1_code 5 = .ok (.aload_n 1, 1) := by decide +kernel
theorem d_prog_11_method_1_6 : decode prog_11_method_1_code 6 = .ok (.putfield 7, 3) := by decide +kernel
theorem d_prog_11_method_1_9 : decode prog_11_method_1_code 9 = .ok (.aload_n 0, 1) := by decide +kernel
theorem d_prog_11_method_1_10 : decode prog_11_method_1_code 10 = .ok (.aload_n 2, 1) := by decide +kernel
theorem d_prog_11_method_1_11 : decode prog_11_method_1_code 11 = .ok (.putfield 13, 3) := by decide +kernel
theorem d_prog_11_method_1_14 : decode prog_11_method_1_code 14 = .ok (.return_, 1) := by decide +kernel
theorem d_jdk_68_method_2_0 : decode jdk_68_method_2_code 0 = .ok (.aload_n 0, 1) := by decide +kernel
theorem d_jdk_68_method_2_1 : decode jdk_68_method_2_code 1 = .ok (.invokespecial 3, 3) := by decide +kernel
theorem d_jdk_68_method_2_4 : decode jdk_68_method_2_code 4 = .ok (.getstatic 18, 3) := by decide +kernel
theorem d_jdk_68_method_2_7 : decode jdk_68_method_2_code 7 = .ok (.ifCond .eq 18, 3) := by decide +kernel
theorem d_jdk_68_method_2_10 : decode jdk_68_method_2_code 10 = .ok (.aload_n 0, 1) := by decide +kernel
theorem d_jdk_68_method_2_11 : decode jdk_68_method_2_code 11 = .ok (.iload_n 1, 1) := by decide +kernel
theorem d_jdk_68_method_2_12 : decode jdk_68_method_2_code 12 = .ok (.newarray .byte, 2) := by decide +kernel
theorem d_jdk_68_method_2_14 : decode jdk_68_method_2_code 14 = .ok (.putfield 15, 3) := by decide +kernel
theorem d_jdk_68_method_2_17 : decode jdk_68_method_2_code 17 = .ok (.aload_n 0, 1) := by decide +kernel
theorem d_jdk_68_method_2_18 : decode jdk_68_method_2_code 18 = .ok (.iconst 0, 1) := by decide +kernel
theorem d_jdk_68_method_2_19 : decode jdk_68_method_2_code 19 = .ok (.putfield 22, 3) := by decide +kernel
theorem d_jdk_68_method_2_22 : decode jdk_68_method_2_code 22 = .ok (.goto 16, 3) := by decide +kernel
theorem d_jdk_68_method_2_38 : decode jdk_68_method_2_code 38 = .ok (.return_, 1) := by decide +kernel
theorem d_jdk_67_method_1_0 : decode jdk_67_method_1_code 0 = .ok (.aload_n 0, 1) := by decide +kernel
theorem d_jdk_67_method_1_1 : decode jdk_67_method_1_code 1 = .ok (.bipush 16, 2) := by decide +kernel
theorem d_jdk_67_method_1_3 : decode jdk_67_method_1_code 3 = .ok (.invokespecial 1, 3) := by decide +kernel
theorem d_jdk_67_method_1_6 : decode jdk_67_method_1_code 6 = .ok (.return_, 1) := by decide +kernel
theorem d_jdk_42_method_152_0 : decode jdk_42_method_152_code 0 = .ok (.getstatic 38, 3) := by decide +kernel
theorem d_jdk_42_method_152_3 : decode jdk_42_method_152_code 3 = .ok (.ifCond .eq 10, 3) := by decide +kernel
theorem d_jdk_42_method_152_6 : decode jdk_42_method_152_code 6 = .ok (.aload_n 0, 1) := by decide +kernel
theorem d_jdk_42_method_152_7 : decode jdk_42_method_152_code 7 = .ok (.getfield 15, 3) := by decide +kernel
theorem d_jdk_42_method_152_10 : decode jdk_42_method_152_code 10 = .ok (.goto 4, 3) := by decide +kernel
theorem d_jdk_42_method_152_14 : decode jdk_42_method_152_code 14 = .ok (.ireturn, 1) := by decide +kernel
theorem d_jdk_68_method_9_0 : decode jdk_68_method_9_code 0 = .ok (.aload_n 0, 1) := by decide +kernel
theorem d_jdk_68_method_9_1 : decode jdk_68_method_9_code 1 = .ok (.getfield 15, 3) := by decide +kernel
theorem d_jdk_68_method_9_4 : decode jdk_68_method_9_code 4 = .ok (.arraylength, 1) := by decide +kernel
theorem d_jdk_68_method_9_5 : decode jdk_68_method_9_code 5 = .ok (.aload_n 0, 1) := by decide +kernel
theorem d_jdk_68_method_9_6 : decode jdk_68_method_9_code 6 = .ok (.getfield 22, 3) := by decide +kernel
theorem d_jdk_68_method_9_9 : decode jdk_68_method_9_code 9 = .ok (.ishr, 1) := by decide +kernel
theorem d_jdk_68_method_9_10 : decode jdk_68_method_9_code 10 = .ok (.istore_n 2, 1) := by decide +kernel
theorem d_jdk_68_method_9_11 : decode jdk_68_method_9_code 11 = .ok (.iload_n 1, 1) := by decide +kernel
theorem d_jdk_68_method_9_12 : decode jdk_68_method_9_code 12 = .ok (.iload_n 2, 1) := by decide +kernel
theorem d_jdk_68_method_9_13 : decode jdk_68_method_9_code 13 = .ok (.isub, 1) := by decide +kernel
theorem d_jdk_68_method_9_14 : decode jdk_68_method_9_code 14 = .ok (.ifCond .le 24, 3) := by decide +kernel
theorem d_jdk_68_method_9_38 : decode jdk_68_method_9_code 38 = .ok (.return_, 1) := by decide +kernel
theorem d_jdk_68_method_71_0 : decode jdk_68_method_71_code 0 = .ok (.getstatic 18, 3) := by decide +kernel
theorem d_jdk_68_method_71_3 : decode jdk_68_method_71_code 3 = .ok (.ifCond .eq 18, 3) := by decide +kernel
theorem d_jdk_68_method_71_6 : decode jdk_68_method_71_code 6 = .ok (.aload_n 0, 1) := by decide +kernel
theorem d_jdk_68_method_71_7 : decode jdk_68_method_71_code 7 = .ok (.getfield 22, 3) := by decide +kernel
theorem d_jdk_68_method_71_10 : decode jdk_68_method_71_code 10 = .ok (.aload_n 1, 1) := by decide +kernel
theorem d_jdk_68_method_71_11 : decode jdk_68_method_71_code 11 = .ok (.invokevirtual 40, 3) := by decide +kernel
theorem d_jdk_68_method_71_14 : decode jdk_68_method_71_code 14 = .ok (.if_icmp .eq 7, 3) := by decide +kernel
theorem d_jdk_68_method_71_21 : decode jdk_68_method_71_code 21 = .ok (.return_, 1) := by decide +kernel
theorem d_jdk_42_method_147_0 : decode jdk_42_method_147_code 0 = .ok (.aload_n 0, 1) := by decide +kernel
theorem d_jdk_42_method_147_1 : decode jdk_42_method_147_code 1 = .ok (.invokevirtual 335, 3) := by decide +kernel
theorem d_jdk_42_method_147_4 : decode jdk_42_method_147_code 4 = .ok (.iload_n 3, 1) := by decide +kernel
theorem d_jdk_42_method_147_5 : decode jdk_42_method_147_code 5 = .ok (.if_icmp .ne 23, 3) := by decide +kernel
theorem d_jdk_42_method_147_8 : decode jdk_42_method_147_code 8 = .ok (.aload_n 0, 1) := by decide +kernel
theorem d_jdk_42_method_147_9 : decode jdk_42_method_147_code 9 = .ok (.getfield 9, 3) := by decide +kernel
theorem d_jdk_42_method_147_12 : decode jdk_42_method_147_code 12 = .ok (.iconst 0, 1) := by decide +kernel
theorem d_jdk_42_method_147_13 : decode jdk_42_method_147_code 13 = .ok (.aload_n 1, 1) := by decide +kernel
theorem d_jdk_42_method_147_14 : decode jdk_42_method_147_code 14 = .ok (.iload_n 2, 1) := by decide +kernel
theorem d_jdk_42_method_147_15 : decode jdk_42_method_147_code 15 = .ok (.iload_n 3, 1) := by decide +kernel
theorem d_jdk_42_method_147_16 : decode jdk_42_method_147_code 16 = .ok (.ishl, 1) := by decide +kernel
theorem d_jdk_42_method_147_17 : decode jdk_42_method_147_code 17 = .ok (.aload_n 0, 1) := by decide +kernel
theorem d_jdk_42_method_147_18 : decode jdk_42_method_147_code 18 = .ok (.getfield 9, 3) := by decide +kernel
theorem d_jdk_42_method_147_21 : decode jdk_42_method_147_code 21 = .ok (.arraylength, 1) := by decide +kernel
theorem d_jdk_42_method_147_22 : decode jdk_42_method_147_code 22 = .ok (.invokestatic 212, 3) := by decide +kernel
theorem d_jdk_42_method_147_25 : decode jdk_42_method_147_code 25 = .ok (.goto 18, 3) := by decide +kernel
theorem d_jdk_42_method_147_43 : decode jdk_42_method_147_code 43 = .ok (.return_, 1) := by decide +kernel
theorem d_jdk_68_method_73_0 : decode jdk_68_method_73_code 0 = .ok (.aload_n 0, 1) := by decide +kernel
theorem d_jdk_68_method_73_1 : decode jdk_68_method_73_code 1 = .ok (.aload_n 2, 1) := by decide +kernel
theorem d_jdk_68_method_73_2 : decode jdk_68_method_73_code 2 = .ok (.invokevirtual 397, 3) := by decide +kernel
theorem d_jdk_68_method_73_5 : decode jdk_68_method_73_code 5 = .ok (.aload_n 2, 1) := by decide +kernel
theorem d_jdk_68_method_73_6 : decode jdk_68_method_73_code 6 = .ok (.aload_n 0, 1) := by decide +kernel
theorem d_jdk_68_method_73_7 : decode jdk_68_method_73_code 7 = .ok (.getfield 15, 3) := by decide +kernel
theorem d_jdk_68_method_73_10 : decode jdk_68_method_73_code 10 = .ok (.iload_n 1, 1) := by decide +kernel
theorem d_jdk_68_method_73_11 : decode jdk_68_method_73_code 11 = .ok (.aload_n 0, 1) := by decide +kernel
theorem d_jdk_68_method_73_12 : decode jdk_68_method_73_code 12 = .ok (.getfield 22, 3) := by decide +kernel
theorem d_jdk_68_method_73_15 : decode jdk_68_method_73_code 15 = .ok (.invokevirtual 399, 3) := by decide +kernel
theorem d_jdk_68_method_73_18 : decode jdk_68_method_73_code 18 = .ok (.return_, 1) := by decide +kernel
theorem d_jdk_68_method_22_0 : decode jdk_68_method_22_code 0 = .ok (.aload_n 1, 1) := by decide +kernel
theorem d_jdk_68_method_22_1 : decode jdk_68_method_22_code 1 = .ok (.ifnonnull 8, 3) := by decide +kernel
theorem d_jdk_68_method_22_9 : decode jdk_68_method_22_code 9 = .ok (.aload_n 1, 1) := by decide +kernel
theorem d_jdk_68_method_22_10 : decode jdk_68_method_22_code 10 = .ok (.invokevirtual 32, 3) := by decide +kernel
theorem d_jdk_68_method_22_13 : decode jdk_68_method_22_code 13 = .ok (.istore_n 2, 1) := by decide +kernel
theorem d_jdk_68_method_22_14 : decode jdk_68_method_22_code 14 = .ok (.aload_n 0, 1) := by decide +kernel
theorem d_jdk_68_method_22_15 : decode jdk_68_method_22_code 15 = .ok (.aload_n 0, 1) := by decide +kernel
theorem d_jdk_68_method_22_16 : decode jdk_68_method_22_code 16 = .ok (.getfield 79, 3) := by decide +kernel
theorem d_jdk_68_method_22_19 : decode jdk_68_method_22_code 19 = .ok (.iload_n 2, 1) := by decide +kernel
theorem d_jdk_68_method_22_20 : decode jdk_68_method_22_code 20 = .ok (.iadd, 1) := by decide +kernel
theorem d_jdk_68_method_22_21 : decode jdk_68_method_22_code 21 = .ok (.invokevirtual 100, 3) := by decide +kernel
theorem d_jdk_68_method_22_24 : decode jdk_68_method_22_code 24 = .ok (.aload_n 0, 1) := by decide +kernel
theorem d_jdk_68_method_22_25 : decode jdk_68_method_22_code 25 = .ok (.aload_n 0, 1) := by decide +kernel
theorem d_jdk_68_method_22_26 : decode jdk_68_method_22_code 26 = .ok (.getfield 79, 3) := by decide +kernel
theorem d_jdk_68_method_22_29 : decode jdk_68_method_22_code 29 = .ok (.aload_n 1, 1) := by decide +kernel
theorem d_jdk_68_method_22_30 : decode jdk_68_method_22_code 30 = .ok (.invokevirtual 208, 3) := by decide +kernel
theorem d_jdk_68_method_22_33 : decode jdk_68_method_22_code 33 = .ok (.aload_n 0, 1) := by decide +kernel
theorem d_jdk_68_method_22_34 : decode jdk_68_method_22_code 34 = .ok (.dup, 1) := by decide +kernel
theorem d_jdk_68_method_22_35 : decode jdk_68_method_22_code 35 = .ok (.getfield 79, 3) := by decide +kernel
theorem d_jdk_68_method_22_38 : decode jdk_68_method_22_code 38 = .ok (.iload_n 2, 1) := by decide +kernel
theorem d_jdk_68_method_22_39 : decode jdk_68_method_22_code 39 = .ok (.iadd, 1) := by decide +kernel
theorem d_jdk_68_method_22_40 : decode jdk_68_method_22_code 40 = .ok (.putfield 79, 3) := by decide +kernel
theorem d_jdk_68_method_22_43 : decode jdk_68_method_22_code 43 = .ok (.aload_n 0, 1) := by decide +kernel
theorem d_jdk_68_method_22_44 : decode jdk_68_method_22_code 44 = .ok (.areturn, 1) := by decide +kernel
theorem d_jdk_67_method_7_0 : decode jdk_67_method_7_code 0 = .ok (.aload_n 0, 1) := by decide +kernel
theorem d_jdk_67_method_7_1 : decode jdk_67_method_7_code 1 = .ok (.aload_n 1, 1) := by decide +kernel
theorem d_jdk_67_method_7_2 : decode jdk_67_method_7_code 2 = .ok (.invokespecial 29, 3) := by decide +kernel
theorem d_jdk_67_method_7_5 : decode jdk_67_method_7_code 5 = .ok (.pop, 1) := by decide +kernel
theorem d_jdk_67_method_7_6 : decode jdk_67_method_7_code 6 = .ok (.aload_n 0, 1) := by decide +kernel
theorem d_jdk_67_method_7_7 : decode jdk_67_method_7_code 7 = .ok (.areturn, 1) := by decide +kernel
theorem d_jdk_68_method_64_0 : decode jdk_68_method_64_code 0 = .ok (.aload_n 0, 1) := by decide +kernel
theorem d_jdk_68_method_64_1 : decode jdk_68_method_64_code 1 = .ok (.getfield 15, 3) := by decide +kernel
theorem d_jdk_68_method_64_4 : decode jdk_68_method_64_code 4 = .ok (.areturn, 1) := by decide +kernel
theorem d_jdk_68_method_6_0 : decode jdk_68_method_6_code 0 = .ok (.aload_n 0, 1) := by decide +kernel
theorem d_jdk_68_method_6_1 : decode jdk_68_method_6_code 1 = .ok (.getfield 79, 3) := by decide +kernel
theorem d_jdk_68_method_6_4 : decode jdk_68_method_6_code 4 = .ok (.ireturn, 1) := by decide +kernel
theorem d_jdk_67_method_93_0 : decode jdk_67_method_93_code 0 = .ok (.aload_n 0, 1) := by decide +kernel
theorem d_jdk_67_method_93_1 : decode jdk_67_method_93_code 1 = .ok (.invokespecial 343, 3) := by decide +kernel
theorem d_jdk_67_method_93_4 : decode jdk_67_method_93_code 4 = .ok (.ireturn, 1) := by decide +kernel
theorem d_jdk_68_method_68_0 : decode jdk_68_method_68_code 0 = .ok (.getstatic 18, 3) := by decide +kernel
theorem d_jdk_68_method_68_3 : decode jdk_68_method_68_code 3 = .ok (.ifCond .eq 14, 3) := by decide +kernel
theorem d_jdk_68_method_68_6 : decode jdk_68_method_68_code 6 = .ok (.aload_n 0, 1) := by decide +kernel
theorem d_jdk_68_method_68_7 : decode jdk_68_method_68_code 7 = .ok (.getfield 22, 3) := by decide +kernel
theorem d_jdk_68_method_68_10 : decode jdk_68_method_68_code 10 = .ok (.ifCond .ne 7, 3) := by decide +kernel
theorem d_jdk_68_method_68_13 : decode jdk_68_method_68_code 13 = .ok (.iconst 1, 1) := by decide +kernel
theorem d_jdk_68_method_68_14 : decode jdk_68_method_68_code 14 = .ok (.goto 4, 3) := by decide +kernel
theorem d_jdk_68_method_68_18 : decode jdk_68_method_68_code 18 = .ok (.ireturn, 1) := by decide +kernel
theorem d_jdk_29_method_69_0 : decode jdk_29_method_69_code 0 = .ok (.iload_n 0, 1) := by decide +kernel
theorem d_jdk_29_method_69_1 : decode jdk_29_method_69_code 1 = .ok (.iload_n 1, 1) := by decide +kernel
theorem d_jdk_29_method_69_2 : decode jdk_29_method_69_code 2 = .ok (.if_icmp .gt 7, 3) := by decide +kernel
theorem d_jdk_29_method_69_9 : decode jdk_29_method_69_code 9 = .ok (.iload_n 1, 1) := by decide +kernel
theorem d_jdk_29_method_69_10 : decode jdk_29_method_69_code 10 = .ok (.ireturn, 1) := by decide +kernel
theorem d_jdk_29_method_69_5 : decode jdk_29_method_69_code 5 = .ok (.iload_n 0, 1) := by decide +kernel
theorem d_jdk_29_method_69_6 : decode jdk_29_method_69_code 6 = .ok (.goto 4, 3) := by decide +kernel
theorem d_jdk_65_method_131_0 : decode jdk_65_method_131_code 0 = .ok (.iload_n 1, 1) := by decide +kernel
theorem d_jdk_65_method_131_1 : decode jdk_65_method_131_code 1 = .ok (.iload_n 0, 1) := by decide +kernel
theorem d_jdk_65_method_131_2 : decode jdk_65_method_131_code 2 = .ok (.if_icmp .ge 35, 3) := by decide +kernel
theorem d_jdk_65_method_131_37 : decode jdk_65_method_131_code 37 = .ok (.return_, 1) := by decide +kernel
theorem d_jdk_65_method_133_0 : decode jdk_65_method_133_code 0 = .ok (.iload_n 1, 1) := by decide +kernel
theorem d_jdk_65_method_133_1 : decode jdk_65_method_133_code 1 = .ok (.iload_n 2, 1) := by decide +kernel
theorem d_jdk_65_method_133_2 : decode jdk_65_method_133_code 2 = .ok (.invokestatic 343, 3) := by decide +kernel
theorem d_jdk_65_method_133_5 : decode jdk_65_method_133_code 5 = .ok (.iload_n 2, 1) := by decide +kernel
theorem d_jdk_65_method_133_6 : decode jdk_65_method_133_code 6 = .ok (.iload_n 1, 1) := by decide +kernel
theorem d_jdk_65_method_133_7 : decode jdk_65_method_133_code 7 = .ok (.isub, 1) := by decide +kernel
theorem d_jdk_65_method_133_8 : decode jdk_65_method_133_code 8 = .ok (.istore_n 3, 1) := by decide +kernel
theorem d_jdk_65_method_133_9 : decode jdk_65_method_133_code 9 = .ok (.iload_n 3, 1) := by decide +kernel
theorem d_jdk_65_method_133_10 : decode jdk_65_method_133_code 10 = .ok (.newarray .byte, 2) := by decide +kernel
theorem d_jdk_65_method_133_12 : decode jdk_65_method_133_code 12 = .ok (.astore 4, 2) := by decide +kernel
theorem d_jdk_65_method_133_14 : decode jdk_65_method_133_code 14 = .ok (.aload_n 0, 1) := by decide +kernel
theorem d_jdk_65_method_133_15 : decode jdk_65_method_133_code 15 = .ok (.iload_n 1, 1) := by decide +kernel
theorem d_jdk_65_method_133_16 : decode jdk_65_method_133_code 16 = .ok (.aload 4, 2) := by decide +kernel
theorem d_jdk_65_method_133_18 : decode jdk_65_method_133_code 18 = .ok (.iconst 0, 1) := by decide +kernel
theorem d_jdk_65_method_133_19 : decode jdk_65_method_133_code 19 = .ok (.aload_n 0, 1) := by decide +kernel
theorem d_jdk_65_method_133_20 : decode jdk_65_method_133_code 20 = .ok (.arraylength, 1) := by decide +kernel
theorem d_jdk_65_method_133_21 : decode jdk_65_method_133_code 21 = .ok (.iload_n 1, 1) := by decide +kernel
theorem d_jdk_65_method_133_22 : decode jdk_65_method_133_code 22 = .ok (.isub, 1) := by decide +kernel
theorem d_jdk_65_method_133_23 : decode jdk_65_method_133_code 23 = .ok (.iload_n 3, 1) := by decide +kernel
theorem d_jdk_65_method_133_24 : decode jdk_65_method_133_code 24 = .ok (.invokestatic 304, 3) := by decide +kernel
theorem d_jdk_65_method_133_27 : decode jdk_65_method_133_code 27 = .ok (.invokestatic 150, 3) := by decide +kernel
theorem d_jdk_65_method_133_30 : decode jdk_65_method_133_code 30 = .ok (.aload 4, 2) := by decide +kernel
theorem d_jdk_65_method_133_32 : decode jdk_65_method_133_code 32 = .ok (.areturn, 1) := by decide +kernel
theorem d_jdk_65_method_132_0 : decode jdk_65_method_132_code 0 = .ok (.iload_n 1, 1) := by decide +kernel
theorem d_jdk_65_method_132_1 : decode jdk_65_method_132_code 1 = .ok (.ifCond .ne 9, 3) := by decide +kernel
theorem d_jdk_65_method_132_4 : decode jdk_65_method_132_code 4 = .ok (.iload_n 2, 1) := by decide +kernel
theorem d_jdk_65_method_132_5 : decode jdk_65_method_132_code 5 = .ok (.aload_n 0, 1) := by decide +kernel
theorem d_jdk_65_method_132_6 : decode jdk_65_method_132_code 6 = .ok (.arraylength, 1) := by decide +kernel
theorem d_jdk_65_method_132_7 : decode jdk_65_method_132_code 7 = .ok (.if_icmp .eq 10, 3) := by decide +kernel
theorem d_jdk_65_method_132_10 : decode jdk_65_method_132_code 10 = .ok (.aload_n 0, 1) := by decide +kernel
theorem d_jdk_65_method_132_11 : decode jdk_65_method_132_code 11 = .ok (.iload_n 1, 1) := by decide +kernel
theorem d_jdk_65_method_132_12 : decode jdk_65_method_132_code 12 = .ok (.iload_n 2, 1) := by decide +kernel
theorem d_jdk_65_method_132_13 : decode jdk_65_method_132_code 13 = .ok (.invokestatic 339, 3) := by decide +kernel
theorem d_jdk_65_method_132_16 : decode jdk_65_method_132_code 16 = .ok (.areturn, 1) := by decide +kernel
theorem d_jdk_42_method_150_0 : decode jdk_42_method_150_code 0 = .ok (.aload_n 0, 1) := by decide +kernel
theorem d_jdk_42_method_150_1 : decode jdk_42_method_150_code 1 = .ok (.invokespecial 1, 3) := by decide +kernel
theorem d_jdk_42_method_150_4 : decode jdk_42_method_150_code 4 = .ok (.aload_n 1, 1) := by decide +kernel
theorem d_jdk_42_method_150_5 : decode jdk_42_method_150_code 5 = .ok (.invokevirtual 552, 3) := by decide +kernel
theorem d_jdk_42_method_150_8 : decode jdk_42_method_150_code 8 = .ok (.astore_n 3, 1) := by decide +kernel
theorem d_jdk_42_method_150_9 : decode jdk_42_method_150_code 9 = .ok (.aload_n 1, 1) := by decide +kernel
theorem d_jdk_42_method_150_10 : decode jdk_42_method_150_code 10 = .ok (.invokevirtual 549, 3) := by decide +kernel
theorem d_jdk_42_method_150_13 : decode jdk_42_method_150_code 13 = .ok (.istore 4, 2) := by decide +kernel
theorem d_jdk_42_method_150_15 : decode jdk_42_method_150_code 15 = .ok (.aload_n 1, 1) := by decide +kernel
theorem d_jdk_42_method_150_16 : decode jdk_42_method_150_code 16 = .ok (.invokevirtual 1047, 3) := by decide +kernel
theorem d_jdk_42_method_150_19 : decode jdk_42_method_150_code 19 = .ok (.ifCond .eq 22, 3) := by decide +kernel
theorem d_jdk_42_method_150_22 : decode jdk_42_method_150_code 22 = .ok (.aload_n 0, 1) := by decide +kernel
theorem d_jdk_42_method_150_23 : decode jdk_42_method_150_code 23 = .ok (.iconst 0, 1) := by decide +kernel
theorem d_jdk_42_method_150_24 : decode jdk_42_method_150_code 24 = .ok (.putfield 15, 3) := by decide +kernel
theorem d_jdk_42_method_150_27 : decode jdk_42_method_150_code 27 = .ok (.aload_n 0, 1) := by decide +kernel
theorem d_jdk_42_method_150_28 : decode jdk_42_method_150_code 28 = .ok (.aload_n 3, 1) := by decide +kernel
theorem d_jdk_42_method_150_29 : decode jdk_42_method_150_code 29 = .ok (.iconst 0, 1) := by decide +kernel
theorem d_jdk_42_method_150_30 : decode jdk_42_method_150_code 30 = .ok (.iload 4, 2) := by decide +kernel
theorem d_jdk_42_method_150_32 : decode jdk_42_method_150_code 32 = .ok (.invokestatic 54, 3) := by decide +kernel
theorem d_jdk_42_method_150_35 : decode jdk_42_method_150_code 35 = .ok (.putfield 9, 3) := by decide +kernel
theorem d_jdk_42_method_150_38 : decode jdk_42_method_150_code 38 = .ok (.goto 59, 3) := by decide +kernel
theorem d_jdk_42_method_150_97 : decode jdk_42_method_150_code 97 = .ok (.return_, 1) := by decide +kernel
theorem d_jdk_42_method_53_0 : decode jdk_42_method_53_code 0 = .ok (.aload_n 0, 1) := by decide +kernel
theorem d_jdk_42_method_53_1 : decode jdk_42_method_53_code 1 = .ok (.aload_n 1, 1) := by decide +kernel
theorem d_jdk_42_method_53_2 : decode jdk_42_method_53_code 2 = .ok (.aconst_null, 1) := by decide +kernel
theorem d_jdk_42_method_53_3 : decode jdk_42_method_53_code 3 = .ok (.invokespecial 489, 3) := by decide +kernel
theorem d_jdk_42_method_53_6 : decode jdk_42_method_53_code 6 = .ok (.return_, 1) := by decide +kernel
theorem d_jdk_67_method_42_0 : decode jdk_67_method_42_code 0 = .ok (.new 18, 3) := by decide +kernel
theorem d_jdk_67_method_42_3 : decode jdk_67_method_42_code 3 = .ok (.dup, 1) := by decide +kernel
theorem d_jdk_67_method_42_4 : decode jdk_67_method_42_code 4 = .ok (.aload_n 0, 1) := by decide +kernel
theorem d_jdk_67_method_42_5 : decode jdk_67_method_42_code 5 = .ok (.invokespecial 137, 3) := by decide +kernel
theorem d_jdk_67_method_42_8 : decode jdk_67_method_42_code 8 = .ok (.areturn, 1) := by decide +kernel
theorem d_prog_11_method_2_0 : decode prog_11_method_2_code 0 = .ok (.new 16, 3) := by decide +kernel
theorem d_prog_11_method_2_3 : decode prog_11_method_2_code 3 = .ok (.dup, 1) := by decide +kernel
theorem d_prog_11_method_2_4 : decode prog_11_method_2_code 4 = .ok (.invokespecial 18, 3) := by decide +kernel
theorem d_prog_11_method_2_7 : decode prog_11_method_2_code 7 = .ok (.aload_n 0, 1) := by decide +kernel
theorem d_prog_11_method_2_8 : decode prog_11_method_2_code 8 = .ok (.getfield 7, 3) := by decide +kernel
theorem d_prog_11_method_2_11 : decode prog_11_method_2_code 11 = .ok (.invokevirtual 19, 3) := by decide +kernel
theorem d_prog_11_method_2_14 : decode prog_11_method_2_code 14 = .ok (.ldc 23, 2) := by decide +kernel
theorem d_prog_11_method_2_16 : decode prog_11_method_2_code 16 = .ok (.invokevirtual 19, 3) := by decide +kernel
theorem d_prog_11_method_2_19 : decode prog_11_method_2_code 19 = .ok (.aload_n 0, 1) := by decide +kernel
theorem d_prog_11_method_2_20 : decode prog_11_method_2_code 20 = .ok (.getfield 13, 3) := by decide +kernel
theorem d_prog_11_method_2_23 : decode prog_11_method_2_code 23 = .ok (.invokevirtual 19, 3) := by decide +kernel
theorem d_prog_11_method_2_26 : decode prog_11_method_2_code 26 = .ok (.ldc 25, 2) := by decide +kernel
theorem d_prog_11_method_2_28 : decode prog_11_method_2_code 28 = .ok (.invokevirtual 19, 3) := by decide +kernel
theorem d_prog_11_method_2_31 : decode prog_11_method_2_code 31 = .ok (.invokevirtual 27, 3) := by decide +kernel
theorem d_prog_11_method_2_34 : decode prog_11_method_2_code 34 = .ok (.areturn, 1) := by decide +kernel
theorem d_method_5_0 : decode method_5_code 0 = .ok (.iload_n 0, 1) := by decide +kernel
theorem d_method_5_1 : decode method_5_code 1 = .ok (.iload_n 1, 1) := by decide +kernel
theorem d_method_5_2 : decode method_5_code 2 = .ok (.if_icmp .ge 13, 3) := by decide +kernel
theorem d_method_5_15 : decode method_5_code 15 = .ok (.iload_n 0, 1) := by decide +kernel
theorem d_method_5_16 : decode method_5_code 16 = .ok (.iload_n 1, 1) := by decide +kernel
theorem d_method_5_17 : decode method_5_code 17 = .ok (.isub, 1) := by decide +kernel
theorem d_method_5_18 : decode method_5_code 18 = .ok (.istore 7, 2) := by decide +kernel
theorem d_method_5_20 : decode method_5_code 20 = .ok (.iload 7, 2) := by decide +kernel
theorem d_method_5_22 : decode method_5_code 22 = .ok (.ifCond .ne 6, 3) := by decide +kernel
theorem d_method_5_25 : decode method_5_code 25 = .ok (.bipush 32, 2) := by decide +kernel
theorem d_method_5_27 : decode method_5_code 27 = .ok (.ireturn, 1) := by decide +kernel
theorem d_method_5_28 : decode method_5_code 28 = .ok (.iload 7, 2) := by decide +kernel
theorem d_method_5_30 : decode method_5_code 30 = .ok (.iconst 1, 1) := by decide +kernel
theorem d_method_5_31 : decode method_5_code 31 = .ok (.if_icmp .ne 6, 3) := by decide +kernel
theorem d_method_5_34 : decode method_5_code 34 = .ok (.bipush 60, 2) := by decide +kernel
theorem d_method_5_36 : decode method_5_code 36 = .ok (.ireturn, 1) := by decide +kernel
theorem d_method_5_37 : decode method_5_code 37 = .ok (.iload 7, 2) := by decide +kernel
theorem d_method_5_39 : decode method_5_code 39 = .ok (.iconst 2, 1) := by decide +kernel
theorem d_method_5_40 : decode method_5_code 40 = .ok (.if_icmp .ne 6, 3) := by decide +kernel
theorem d_method_5_43 : decode method_5_code 43 = .ok (.bipush 62, 2) := by decide +kernel
theorem d_method_5_45 : decode method_5_code 45 = .ok (.ireturn, 1) := by decide +kernel
theorem d_method_5_46 : decode method_5_code 46 = .ok (.iload 7, 2) := by decide +kernel
theorem d_method_5_48 : decode method_5_code 48 = .ok (.iconst 3, 1) := by decide +kernel
theorem d_method_5_49 : decode method_5_code 49 = .ok (.if_icmp .ne 6, 3) := by decide +kernel
theorem d_method_5_52 : decode method_5_code 52 = .ok (.bipush 32, 2) := by decide +kernel
theorem d_method_5_54 : decode method_5_code 54 = .ok (.ireturn, 1) := by decide +kernel
theorem d_method_5_55 : decode method_5_code 55 = .ok (.iload 7, 2) := by decide +kernel
theorem d_method_5_57 : decode method_5_code 57 = .ok (.iconst 4, 1) := by decide +kernel
theorem d_method_5_58 : decode method_5_code 58 = .ok (.if_icmp .ne 6, 3) := by decide +kernel
theorem d_method_5_61 : decode method_5_code 61 = .ok (.bipush 39, 2) := by decide +kernel
theorem d_method_5_63 : decode method_5_code 63 = .ok (.ireturn, 1) := by decide +kernel
theorem d_method_5_64 : decode method_5_code 64 = .ok (.iload 7, 2) := by decide +kernel
theorem d_method_5_66 : decode method_5_code 66 = .ok (.iconst 5, 1) := by decide +kernel
theorem d_method_5_67 : decode method_5_code 67 = .ok (.isub, 1) := by decide +kernel
theorem d_method_5_68 : decode method_5_code 68 = .ok (.istore 8, 2) := by decide +kernel
theorem d_method_5_70 : decode method_5_code 70 = .ok (.iload 8, 2) := by decide +kernel
theorem d_method_5_72 : decode method_5_code 72 = .ok (.iload 4, 2) := by decide +kernel
theorem d_method_5_74 : decode method_5_code 74 = .ok (.if_icmp .ge 16, 3) := by decide +kernel
theorem d_method_5_90 : decode method_5_code 90 = .ok (.bipush 39, 2) := by decide +kernel
theorem d_method_5_92 : decode method_5_code 92 = .ok (.ireturn, 1) := by decide +kernel
theorem d_method_5_77 : decode method_5_code 77 = .ok (.iload 8, 2) := by decide +kernel
theorem d_method_5_79 : decode method_5_code 79 = .ok (.ifCond .ne 8, 3) := by decide +kernel
theorem d_method_5_87 : decode method_5_code 87 = .ok (.iload 6, 2) := by decide +kernel
theorem d_method_5_89 : decode method_5_code 89 = .ok (.ireturn, 1) := by decide +kernel
theorem d_method_5_82 : decode method_5_code 82 = .ok (.iload 5, 2) := by decide +kernel
theorem d_method_5_84 : decode method_5_code 84 = .ok (.goto 5, 3) := by decide +kernel
theorem d_method_5_5 : decode method_5_code 5 = .ok (.iload_n 0, 1) := by decide +kernel
theorem d_method_5_6 : decode method_5_code 6 = .ok (.ifCond .ne 7, 3) := by decide +kernel
theorem d_method_5_13 : decode method_5_code 13 = .ok (.iload_n 3, 1) := by decide +kernel
theorem d_method_5_14 : decode method_5_code 14 = .ok (.ireturn, 1) := by decide +kernel
theorem d_method_5_9 : decode method_5_code 9 = .ok (.iload_n 2, 1) := by decide +kernel
theorem d_method_5_10 : decode method_5_code 10 = .ok (.goto 4, 3) := by decide +kernel
theorem d_method_4_0 : decode method_4_code 0 = .ok (.iload_n 1, 1) := by decide +kernel
theorem d_method_4_1 : decode method_4_code 1 = .ok (.iload_n 2, 1) := by decide +kernel
theorem d_method_4_2 : decode method_4_code 2 = .ok (.if_icmp .lt 5, 3) := by decide +kernel
theorem d_method_4_5 : decode method_4_code 5 = .ok (.iconst 1, 1) := by decide +kernel
theorem d_method_4_6 : decode method_4_code 6 = .ok (.ireturn, 1) := by decide +kernel
theorem d_method_4_7 : decode method_4_code 7 = .ok (.aload_n 0, 1) := by decide +kernel
theorem d_method_4_8 : decode method_4_code 8 = .ok (.iload_n 1, 1) := by decide +kernel
theorem d_method_4_9 : decode method_4_code 9 = .ok (.invokevirtual 39, 3) := by decide +kernel
theorem d_method_4_12 : decode method_4_code 12 = .ok (.iload_n 1, 1) := by decide +kernel
theorem d_method_4_13 : decode method_4_code 13 = .ok (.iload_n 3, 1) := by decide +kernel
theorem d_method_4_14 : decode method_4_code 14 = .ok (.iload 4, 2) := by decide +kernel
theorem d_method_4_16 : decode method_4_code 16 = .ok (.iload 5, 2) := by decide +kernel
theorem d_method_4_18 : decode method_4_code 18 = .ok (.iload 6, 2) := by decide +kernel
theorem d_method_4_20 : decode method_4_code 20 = .ok (.iload 7, 2) := by decide +kernel
theorem d_method_4_22 : decode method_4_code 22 = .ok (.iload 8, 2) := by decide +kernel
theorem d_method_4_24 : decode method_4_code 24 = .ok (.invokestatic 43, 3) := by decide +kernel
theorem d_method_4_27 : decode method_4_code 27 = .ok (.if_icmp .ne 7, 3) := by decide +kernel
theorem d_method_4_30 : decode method_4_code 30 = .ok (.iconst 1, 1) := by decide +kernel
theorem d_method_4_31 : decode method_4_code 31 = .ok (.goto 4, 3) := by decide +kernel
theorem d_method_4_35 : decode method_4_code 35 = .ok (.ireturn, 1) := by decide +kernel
theorem pd0 : parseMethodDescriptor "([CIILjava/lang/Void;)V" = some ⟨[(.array .char), .int, .int, (.object "java/lang/Void")], none⟩ := by decide +kernel
theorem pd1 : parseMethodDescriptor "(C)Z" = some ⟨[.char], some .boolean⟩ := by decide +kernel
theorem pd2 : parseMethodDescriptor "(C)[B" = some ⟨[.char], some (.array .byte)⟩ := by decide +kernel
theorem pd3 : parseMethodDescriptor "([BB)V" = some ⟨[(.array .byte), .byte], none⟩ := by decide +kernel
theorem pd4 : parseMethodDescriptor "([C)V" = some ⟨[(.array .char)], none⟩ := by decide +kernel
theorem pd5 : parseMethodDescriptor "(C)Ljava/lang/String;" = some ⟨[.char], some (.object "java/lang/String")⟩ := by decide +kernel
theorem pd6 : parseMethodDescriptor "()V" = some ⟨[], none⟩ := by decide +kernel
theorem pd7 : parseMethodDescriptor "(I)V" = some ⟨[.int], none⟩ := by decide +kernel
theorem pd8 : parseMethodDescriptor "()B" = some ⟨[], some .byte⟩ := by decide +kernel
theorem pd9 : parseMethodDescriptor "(Ljava/lang/String;)V" = some ⟨[(.object "java/lang/String")], none⟩ := by decide +kernel
theorem pd10 : parseMethodDescriptor "([BIB)V" = some ⟨[(.array .byte), .int, .byte], none⟩ := by decide +kernel
theorem pd11 : parseMethodDescriptor "(ILjava/lang/String;)V" = some ⟨[.int, (.object "java/lang/String")], none⟩ := by decide +kernel
theorem pd12 : parseMethodDescriptor "(Ljava/lang/String;)Ljava/lang/AbstractStringBuilder;" = some ⟨[(.object "java/lang/String")], some (.object "java/lang/AbstractStringBuilder")⟩ := by decide +kernel
theorem pd13 : parseMethodDescriptor "()I" = some ⟨[], some .int⟩ := by decide +kernel
theorem pd14 : parseMethodDescriptor "(II)V" = some ⟨[.int, .int], none⟩ := by decide +kernel
theorem pd15 : parseMethodDescriptor "(II)I" = some ⟨[.int, .int], some .int⟩ := by decide +kernel
theorem pd16 : parseMethodDescriptor "([BII)[B" = some ⟨[(.array .byte), .int, .int], some (.array .byte)⟩ := by decide +kernel
theorem pd17 : parseMethodDescriptor "()[B" = some ⟨[], some (.array .byte)⟩ := by decide +kernel
theorem pd18 : parseMethodDescriptor "()Z" = some ⟨[], some .boolean⟩ := by decide +kernel
theorem pd19 : parseMethodDescriptor "(Ljava/lang/AbstractStringBuilder;Ljava/lang/Void;)V" = some ⟨[(.object "java/lang/AbstractStringBuilder"), (.object "java/lang/Void")], none⟩ := by decide +kernel
theorem pd20 : parseMethodDescriptor "(Ljava/lang/StringBuilder;)V" = some ⟨[(.object "java/lang/StringBuilder")], none⟩ := by decide +kernel
theorem pd21 : parseMethodDescriptor "(Ljava/lang/String;)Ljava/lang/StringBuilder;" = some ⟨[(.object "java/lang/String")], some (.object "java/lang/StringBuilder")⟩ := by decide +kernel
theorem pd22 : parseMethodDescriptor "()Ljava/lang/String;" = some ⟨[], some (.object "java/lang/String")⟩ := by decide +kernel
theorem pd23 : parseMethodDescriptor "(IICCICC)C" = some ⟨[.int, .int, .char, .char, .int, .char, .char], some .char⟩ := by decide +kernel
theorem pd24 : parseMethodDescriptor "(ICC)Ljava/lang/String;" = some ⟨[.int, .char, .char], some (.object "java/lang/String")⟩ := by decide +kernel
theorem pd25 : parseMethodDescriptor "(Ljava/lang/String;Ljava/lang/String;)V" = some ⟨[(.object "java/lang/String"), (.object "java/lang/String")], none⟩ := by decide +kernel
theorem pd26 : parseMethodDescriptor "(Ljava/lang/String;IIICCICC)Z" = some ⟨[(.object "java/lang/String"), .int, .int, .int, .char, .char, .int, .char, .char], some .boolean⟩ := by decide +kernel
theorem pn0 : plainName "java/lang/String" = true := by first | (simp [plainName, overriddenIn]; done) | decide +kernel
theorem pn1 : plainName "java/lang/StringLatin1" = true := by first | (simp [plainName, overriddenIn]; done) | decide +kernel
theorem pn2 : plainName "com/example/naviglio/naviglio/DirtyReadsReadsCommittedPinLaw" = true := by first | (simp [plainName, overriddenIn]; done) | decide +kernel
theorem pn3 : plainName "java/lang/Record" = true := by first | (simp [plainName, overriddenIn]; done) | decide +kernel
theorem pn4 : plainName "com/example/naviglio/naviglio/Dialect$DirtyReads" = true := by first | (simp [plainName, overriddenIn]; done) | decide +kernel
theorem pn5 : plainName "java/lang/AbstractStringBuilder" = true := by first | (simp [plainName, overriddenIn]; done) | decide +kernel
theorem pn6 : plainName "java/lang/StringBuilder" = true := by first | (simp [plainName, overriddenIn]; done) | decide +kernel
theorem pn7 : plainName "java/util/Arrays" = true := by first | (simp [plainName, overriddenIn]; done) | decide +kernel
theorem Wx0 {Z : State} {a0 : Array Value} (hw : ∀ d ∈ tables_1, d.before a0 Z = true) : (Jvm.Cond.methodLink "com/example/naviglio/naviglio/DirtyReadsReadsCommittedPinLaw" (7 : Nat) ({ cls := "com/example/naviglio/naviglio/DirtyReadsReadsCommittedPinLaw", name := "str", desc := "(ICC)Ljava/lang/String;" } : Jvm.MethodName)).before a0 Z = true := hw _ (List.mem_of_getElem? (i := 0) rfl)
theorem Wx1 {Z : State} {a0 : Array Value} (hw : ∀ d ∈ tables_1, d.before a0 Z = true) : (Jvm.Cond.static ({ cls := "com/example/naviglio/naviglio/DirtyReadsReadsCommittedPinLaw", name := "str", desc := "(ICC)Ljava/lang/String;" } : Jvm.MethodName)).before a0 Z = true := hw _ (List.mem_of_getElem? (i := 1) rfl)
theorem Wx2 {Z : State} {a0 : Array Value} (hw : ∀ d ∈ tables_1, d.before a0 Z = true) : (Jvm.Cond.initialized "com/example/naviglio/naviglio/DirtyReadsReadsCommittedPinLaw").before a0 Z = true := hw _ (List.mem_of_getElem? (i := 2) rfl)
theorem Wx3 {Z : State} {a0 : Array Value} (hw : ∀ d ∈ tables_1, d.before a0 Z = true) : (Jvm.Cond.code ({ cls := "com/example/naviglio/naviglio/DirtyReadsReadsCommittedPinLaw", name := "str", desc := "(ICC)Ljava/lang/String;" } : Jvm.MethodName) method_3_code (3 : Nat) (Option.some (Jvm.ClassFile.FieldType.object "java/lang/String"))).before a0 Z = true := hw _ (List.mem_of_getElem? (i := 3) rfl)
theorem Wx4 {Z : State} {a0 : Array Value} (hw : ∀ d ∈ tables_1, d.before a0 Z = true) : (Jvm.Cond.classLink "com/example/naviglio/naviglio/DirtyReadsReadsCommittedPinLaw" (23 : Nat) "java/lang/String").before a0 Z = true := hw _ (List.mem_of_getElem? (i := 4) rfl)
theorem Wx5 {Z : State} {a0 : Array Value} (hw : ∀ d ∈ tables_1, d.before a0 Z = true) : (Jvm.Cond.instantiable "java/lang/String" (4 : Nat)).before a0 Z = true := hw _ (List.mem_of_getElem? (i := 5) rfl)
theorem Wx6 {Z : State} {a0 : Array Value} (hw : ∀ d ∈ tables_1, d.before a0 Z = true) : (Jvm.Cond.initialized "java/lang/String").before a0 Z = true := hw _ (List.mem_of_getElem? (i := 6) rfl)
theorem Wx7 {Z : State} {a0 : Array Value} (hw : ∀ d ∈ tables_1, d.before a0 Z = true) : (Jvm.Cond.arrayClass Jvm.ClassFile.FieldType.char).before a0 Z = true := hw _ (List.mem_of_getElem? (i := 7) rfl)
theorem Wx8 {Z : State} {a0 : Array Value} (hw : ∀ d ∈ tables_1, d.before a0 Z = true) : (Jvm.Cond.methodLink "com/example/naviglio/naviglio/DirtyReadsReadsCommittedPinLaw" (32 : Nat) ({ cls := "java/lang/String", name := "<init>", desc := "([C)V" } : Jvm.MethodName)).before a0 Z = true := hw _ (List.mem_of_getElem? (i := 8) rfl)
theorem Wx9 {Z : State} {a0 : Array Value} (hw : ∀ d ∈ tables_1, d.before a0 Z = true) : (Jvm.Cond.instanceMethod ({ cls := "java/lang/String", name := "<init>", desc := "([C)V" } : Jvm.MethodName)).before a0 Z = true := hw _ (List.mem_of_getElem? (i := 9) rfl)
theorem Wx10 {Z : State} {a0 : Array Value} (hw : ∀ d ∈ tables_1, d.before a0 Z = true) : (Jvm.Cond.code ({ cls := "java/lang/String", name := "<init>", desc := "([C)V" } : Jvm.MethodName) jdk_42_method_3_code (2 : Nat) (Option.none : Option Jvm.ClassFile.FieldType)).before a0 Z = true := hw _ (List.mem_of_getElem? (i := 10) rfl)
theorem Wx11 {Z : State} {a0 : Array Value} (hw : ∀ d ∈ tables_1, d.before a0 Z = true) : (Jvm.Cond.methodLink "java/lang/String" (27 : Nat) ({ cls := "java/lang/String", name := "<init>", desc := "([CIILjava/lang/Void;)V" } : Jvm.MethodName)).before a0 Z = true := hw _ (List.mem_of_getElem? (i := 11) rfl)
theorem Wx12 {Z : State} {a0 : Array Value} (hw : ∀ d ∈ tables_1, d.before a0 Z = true) : (Jvm.Cond.instanceMethod ({ cls := "java/lang/String", name := "<init>", desc := "([CIILjava/lang/Void;)V" } : Jvm.MethodName)).before a0 Z = true := hw _ (List.mem_of_getElem? (i := 12) rfl)
theorem Wx14 {Z : State} {a0 : Array Value} (hw : ∀ d ∈ tables_1, d.before a0 Z = true) : (Jvm.Cond.code ({ cls := "java/lang/String", name := "<init>", desc := "([CIILjava/lang/Void;)V" } : Jvm.MethodName) jdk_42_method_149_code (6 : Nat) (Option.none : Option Jvm.ClassFile.FieldType)).before a0 Z = true := hw _ (List.mem_of_getElem? (i := 14) rfl)
theorem Wx15 {Z : State} {a0 : Array Value} (hw : ∀ d ∈ tables_1, d.before a0 Z = true) : (Jvm.Cond.methodLink "java/lang/String" (1 : Nat) ({ cls := "java/lang/Object", name := "<init>", desc := "()V" } : Jvm.MethodName)).before a0 Z = true := hw _ (List.mem_of_getElem? (i := 15) rfl)
theorem Wx16 {Z : State} {a0 : Array Value} (hw : ∀ d ∈ tables_1, d.before a0 Z = true) : (Jvm.Cond.instanceMethod ({ cls := "java/lang/Object", name := "<init>", desc := "()V" } : Jvm.MethodName)).before a0 Z = true := hw _ (List.mem_of_getElem? (i := 16) rfl)
theorem Wx17 {Z : State} {a0 : Array Value} (hw : ∀ d ∈ tables_1, d.before a0 Z = true) : (Jvm.Cond.code ({ cls := "java/lang/Object", name := "<init>", desc := "()V" } : Jvm.MethodName) object_method_1_code (1 : Nat) (Option.none : Option Jvm.ClassFile.FieldType)).before a0 Z = true := hw _ (List.mem_of_getElem? (i := 17) rfl)
theorem Wx18 {Z : State} {a0 : Array Value} (hw : ∀ d ∈ tables_1, d.before a0 Z = true) : (Jvm.Cond.stringLink "java/lang/String" (7 : Nat) "").before a0 Z = true := hw _ (List.mem_of_getElem? (i := 18) rfl)
theorem Wx19 {Z : State} {a0 : Array Value} (hw : ∀ d ∈ tables_1, d.before a0 Z = true) : (Jvm.Cond.arrayClass Jvm.ClassFile.FieldType.byte).before a0 Z = true := hw _ (List.mem_of_getElem? (i := 19) rfl)
theorem Wx20 {Z : State} {a0 : Array Value} (hw : ∀ d ∈ tables_1, d.before a0 Z = true) : (Jvm.Cond.laysFinal "java/lang/String" "java/lang/String" "value" "[B").before a0 Z = true := hw _ (List.mem_of_getElem? (i := 20) rfl)
theorem Wx21 {Z : State} {a0 : Array Value} (hw : ∀ d ∈ tables_1, d.before a0 Z = true) : (Jvm.Cond.laysFinal "java/lang/String" "java/lang/String" "coder" "B").before a0 Z = true := hw _ (List.mem_of_getElem? (i := 21) rfl)
theorem Wx24 {Z : State} {a0 : Array Value} (hw : ∀ d ∈ tables_1, d.before a0 Z = true) : (Jvm.Cond.fieldLink "java/lang/String" (9 : Nat) "java/lang/String" "value" "[B").before a0 Z = true := hw _ (List.mem_of_getElem? (i := 24) rfl)
theorem Wx25 {Z : State} {a0 : Array Value} (hw : ∀ d ∈ tables_1, d.before a0 Z = true) : (Jvm.Cond.fieldLink "java/lang/String" (15 : Nat) "java/lang/String" "coder" "B").before a0 Z = true := hw _ (List.mem_of_getElem? (i := 25) rfl)
theorem Wx26 {Z : State} {a0 : Array Value} (hw : ∀ d ∈ tables_1, d.before a0 Z = true) : (Jvm.Cond.classLink "com/example/naviglio/naviglio/DirtyReadsReadsCommittedPinLaw" (13 : Nat) "com/example/naviglio/naviglio/Dialect$DirtyReads").before a0 Z = true := hw _ (List.mem_of_getElem? (i := 26) rfl)
theorem Wx27 {Z : State} {a0 : Array Value} (hw : ∀ d ∈ tables_1, d.before a0 Z = true) : (Jvm.Cond.instantiable "com/example/naviglio/naviglio/Dialect$DirtyReads" (2 : Nat)).before a0 Z = true := hw _ (List.mem_of_getElem? (i := 27) rfl)
theorem Wx28 {Z : State} {a0 : Array Value} (hw : ∀ d ∈ tables_1, d.before a0 Z = true) : (Jvm.Cond.initialized "com/example/naviglio/naviglio/Dialect$DirtyReads").before a0 Z = true := hw _ (List.mem_of_getElem? (i := 28) rfl)
theorem Wx29 {Z : State} {a0 : Array Value} (hw : ∀ d ∈ tables_1, d.before a0 Z = true) : (Jvm.Cond.methodLink "com/example/naviglio/naviglio/DirtyReadsReadsCommittedPinLaw" (15 : Nat) ({ cls := "com/example/naviglio/naviglio/Dialect$DirtyReads", name := "<init>", desc := "(Ljava/lang/String;Ljava/lang/String;)V" } : Jvm.MethodName)).before a0 Z = true := hw _ (List.mem_of_getElem? (i := 29) rfl)
theorem Wx30 {Z : State} {a0 : Array Value} (hw : ∀ d ∈ tables_1, d.before a0 Z = true) : (Jvm.Cond.instanceMethod ({ cls := "com/example/naviglio/naviglio/Dialect$DirtyReads", name := "<init>", desc := "(Ljava/lang/String;Ljava/lang/String;)V" } : Jvm.MethodName)).before a0 Z = true := hw _ (List.mem_of_getElem? (i := 30) rfl)
theorem Wx31 {Z : State} {a0 : Array Value} (hw : ∀ d ∈ tables_1, d.before a0 Z = true) : (Jvm.Cond.code ({ cls := "com/example/naviglio/naviglio/Dialect$DirtyReads", name := "<init>", desc := "(Ljava/lang/String;Ljava/lang/String;)V" } : Jvm.MethodName) prog_11_method_1_code (3 : Nat) (Option.none : Option Jvm.ClassFile.FieldType)).before a0 Z = true := hw _ (List.mem_of_getElem? (i := 31) rfl)
theorem Wx32 {Z : State} {a0 : Array Value} (hw : ∀ d ∈ tables_1, d.before a0 Z = true) : (Jvm.Cond.methodLink "com/example/naviglio/naviglio/Dialect$DirtyReads" (1 : Nat) ({ cls := "java/lang/Record", name := "<init>", desc := "()V" } : Jvm.MethodName)).before a0 Z = true := hw _ (List.mem_of_getElem? (i := 32) rfl)
theorem Wx33 {Z : State} {a0 : Array Value} (hw : ∀ d ∈ tables_1, d.before a0 Z = true) : (Jvm.Cond.instanceMethod ({ cls := "java/lang/Record", name := "<init>", desc := "()V" } : Jvm.MethodName)).before a0 Z = true := hw _ (List.mem_of_getElem? (i := 33) rfl)
theorem Wx35 {Z : State} {a0 : Array Value} (hw : ∀ d ∈ tables_1, d.before a0 Z = true) : (Jvm.Cond.initialized "java/lang/Record").before a0 Z = true := hw _ (List.mem_of_getElem? (i := 35) rfl)
theorem Wx36 {Z : State} {a0 : Array Value} (hw : ∀ d ∈ tables_1, d.before a0 Z = true) : (Jvm.Cond.code ({ cls := "java/lang/Record", name := "<init>", desc := "()V" } : Jvm.MethodName) jdk_30_method_1_code (1 : Nat) (Option.none : Option Jvm.ClassFile.FieldType)).before a0 Z = true := hw _ (List.mem_of_getElem? (i := 36) rfl)
theorem Wx37 {Z : State} {a0 : Array Value} (hw : ∀ d ∈ tables_1, d.before a0 Z = true) : (Jvm.Cond.methodLink "java/lang/Record" (1 : Nat) ({ cls := "java/lang/Object", name := "<init>", desc := "()V" } : Jvm.MethodName)).before a0 Z = true := hw _ (List.mem_of_getElem? (i := 37) rfl)
theorem Wx38 {Z : State} {a0 : Array Value} (hw : ∀ d ∈ tables_1, d.before a0 Z = true) : (Jvm.Cond.fieldLink "com/example/naviglio/naviglio/Dialect$DirtyReads" (7 : Nat) "com/example/naviglio/naviglio/Dialect$DirtyReads" "isolation" "Ljava/lang/String;").before a0 Z = true := hw _ (List.mem_of_getElem? (i := 38) rfl)
theorem Wx39 {Z : State} {a0 : Array Value} (hw : ∀ d ∈ tables_1, d.before a0 Z = true) : (Jvm.Cond.laysFinal "com/example/naviglio/naviglio/Dialect$DirtyReads" "com/example/naviglio/naviglio/Dialect$DirtyReads" "isolation" "Ljava/lang/String;").before a0 Z = true := hw _ (List.mem_of_getElem? (i := 39) rfl)
theorem Wx40 {Z : State} {a0 : Array Value} (hw : ∀ d ∈ tables_1, d.before a0 Z = true) : (Jvm.Cond.fieldLink "com/example/naviglio/naviglio/Dialect$DirtyReads" (13 : Nat) "com/example/naviglio/naviglio/Dialect$DirtyReads" "readUncommitted" "Ljava/lang/String;").before a0 Z = true := hw _ (List.mem_of_getElem? (i := 40) rfl)
theorem Wx41 {Z : State} {a0 : Array Value} (hw : ∀ d ∈ tables_1, d.before a0 Z = true) : (Jvm.Cond.laysFinal "com/example/naviglio/naviglio/Dialect$DirtyReads" "com/example/naviglio/naviglio/Dialect$DirtyReads" "readUncommitted" "Ljava/lang/String;").before a0 Z = true := hw _ (List.mem_of_getElem? (i := 41) rfl)
theorem Wx42 {Z : State} {a0 : Array Value} (hw : ∀ d ∈ tables_1, d.before a0 Z = true) : (Jvm.Cond.methodLink "com/example/naviglio/naviglio/DirtyReadsReadsCommittedPinLaw" (18 : Nat) ({ cls := "com/example/naviglio/naviglio/Dialect$DirtyReads", name := "readsCommitted", desc := "()Ljava/lang/String;" } : Jvm.MethodName)).before a0 Z = true := hw _ (List.mem_of_getElem? (i := 42) rfl)
theorem Wx43 {Z : State} {a0 : Array Value} (hw : ∀ d ∈ tables_1, d.before a0 Z = true) : (Jvm.Cond.declares ({ cls := "com/example/naviglio/naviglio/Dialect$DirtyReads", name := "readsCommitted", desc := "()Ljava/lang/String;" } : Jvm.MethodName)).before a0 Z = true := hw _ (List.mem_of_getElem? (i := 43) rfl)
theorem Wx44 {Z : State} {a0 : Array Value} (hw : ∀ d ∈ tables_1, d.before a0 Z = true) : (Jvm.Cond.instanceMethod ({ cls := "com/example/naviglio/naviglio/Dialect$DirtyReads", name := "readsCommitted", desc := "()Ljava/lang/String;" } : Jvm.MethodName)).before a0 Z = true := hw _ (List.mem_of_getElem? (i := 44) rfl)
theorem Wx45 {Z : State} {a0 : Array Value} (hw : ∀ d ∈ tables_1, d.before a0 Z = true) : (Jvm.Cond.selects "com/example/naviglio/naviglio/Dialect$DirtyReads" ({ cls := "com/example/naviglio/naviglio/Dialect$DirtyReads", name := "readsCommitted", desc := "()Ljava/lang/String;" } : Jvm.MethodName) ({ cls := "com/example/naviglio/naviglio/Dialect$DirtyReads", name := "readsCommitted", desc := "()Ljava/lang/String;" } : Jvm.MethodName)).before a0 Z = true := hw _ (List.mem_of_getElem? (i := 45) rfl)
theorem Wx46 {Z : State} {a0 : Array Value} (hw : ∀ d ∈ tables_1, d.before a0 Z = true) : (Jvm.Cond.code ({ cls := "com/example/naviglio/naviglio/Dialect$DirtyReads", name := "readsCommitted", desc := "()Ljava/lang/String;" } : Jvm.MethodName) prog_11_method_2_code (1 : Nat) (Option.some (Jvm.ClassFile.FieldType.object "java/lang/String"))).before a0 Z = true := hw _ (List.mem_of_getElem? (i := 46) rfl)
theorem Wx47 {Z : State} {a0 : Array Value} (hw : ∀ d ∈ tables_1, d.before a0 Z = true) : (Jvm.Cond.classLink "com/example/naviglio/naviglio/Dialect$DirtyReads" (16 : Nat) "java/lang/StringBuilder").before a0 Z = true := hw _ (List.mem_of_getElem? (i := 47) rfl)
theorem Wx48 {Z : State} {a0 : Array Value} (hw : ∀ d ∈ tables_1, d.before a0 Z = true) : (Jvm.Cond.instantiable "java/lang/StringBuilder" (4 : Nat)).before a0 Z = true := hw _ (List.mem_of_getElem? (i := 48) rfl)
theorem Wx49 {Z : State} {a0 : Array Value} (hw : ∀ d ∈ tables_1, d.before a0 Z = true) : (Jvm.Cond.initialized "java/lang/StringBuilder").before a0 Z = true := hw _ (List.mem_of_getElem? (i := 49) rfl)
theorem Wx50 {Z : State} {a0 : Array Value} (hw : ∀ d ∈ tables_1, d.before a0 Z = true) : (Jvm.Cond.methodLink "com/example/naviglio/naviglio/Dialect$DirtyReads" (18 : Nat) ({ cls := "java/lang/StringBuilder", name := "<init>", desc := "()V" } : Jvm.MethodName)).before a0 Z = true := hw _ (List.mem_of_getElem? (i := 50) rfl)
theorem Wx51 {Z : State} {a0 : Array Value} (hw : ∀ d ∈ tables_1, d.before a0 Z = true) : (Jvm.Cond.instanceMethod ({ cls := "java/lang/StringBuilder", name := "<init>", desc := "()V" } : Jvm.MethodName)).before a0 Z = true := hw _ (List.mem_of_getElem? (i := 51) rfl)
theorem Wx52 {Z : State} {a0 : Array Value} (hw : ∀ d ∈ tables_1, d.before a0 Z = true) : (Jvm.Cond.code ({ cls := "java/lang/StringBuilder", name := "<init>", desc := "()V" } : Jvm.MethodName) jdk_67_method_1_code (1 : Nat) (Option.none : Option Jvm.ClassFile.FieldType)).before a0 Z = true := hw _ (List.mem_of_getElem? (i := 52) rfl)
theorem Wx53 {Z : State} {a0 : Array Value} (hw : ∀ d ∈ tables_1, d.before a0 Z = true) : (Jvm.Cond.methodLink "java/lang/StringBuilder" (1 : Nat) ({ cls := "java/lang/AbstractStringBuilder", name := "<init>", desc := "(I)V" } : Jvm.MethodName)).before a0 Z = true := hw _ (List.mem_of_getElem? (i := 53) rfl)
theorem Wx54 {Z : State} {a0 : Array Value} (hw : ∀ d ∈ tables_1, d.before a0 Z = true) : (Jvm.Cond.instanceMethod ({ cls := "java/lang/AbstractStringBuilder", name := "<init>", desc := "(I)V" } : Jvm.MethodName)).before a0 Z = true := hw _ (List.mem_of_getElem? (i := 54) rfl)
theorem Wx57 {Z : State} {a0 : Array Value} (hw : ∀ d ∈ tables_1, d.before a0 Z = true) : (Jvm.Cond.initialized "java/lang/AbstractStringBuilder").before a0 Z = true := hw _ (List.mem_of_getElem? (i := 57) rfl)
theorem Wx58 {Z : State} {a0 : Array Value} (hw : ∀ d ∈ tables_1, d.before a0 Z = true) : (Jvm.Cond.code ({ cls := "java/lang/AbstractStringBuilder", name := "<init>", desc := "(I)V" } : Jvm.MethodName) jdk_68_method_2_code (2 : Nat) (Option.none : Option Jvm.ClassFile.FieldType)).before a0 Z = true := hw _ (List.mem_of_getElem? (i := 58) rfl)
theorem Wx59 {Z : State} {a0 : Array Value} (hw : ∀ d ∈ tables_1, d.before a0 Z = true) : (Jvm.Cond.methodLink "java/lang/AbstractStringBuilder" (3 : Nat) ({ cls := "java/lang/Object", name := "<init>", desc := "()V" } : Jvm.MethodName)).before a0 Z = true := hw _ (List.mem_of_getElem? (i := 59) rfl)
theorem Wx60 {Z : State} {a0 : Array Value} (hw : ∀ d ∈ tables_1, d.before a0 Z = true) : (Jvm.Cond.fieldLink "java/lang/AbstractStringBuilder" (18 : Nat) "java/lang/String" "COMPACT_STRINGS" "Z").before a0 Z = true := hw _ (List.mem_of_getElem? (i := 60) rfl)
theorem Wx61 {Z : State} {a0 : Array Value} (hw : ∀ d ∈ tables_1, d.before a0 Z = true) : (Jvm.Cond.fieldLink "java/lang/AbstractStringBuilder" (15 : Nat) "java/lang/AbstractStringBuilder" "value" "[B").before a0 Z = true := hw _ (List.mem_of_getElem? (i := 61) rfl)
theorem Wx62 {Z : State} {a0 : Array Value} (hw : ∀ d ∈ tables_1, d.before a0 Z = true) : (Jvm.Cond.lays "java/lang/StringBuilder" "java/lang/AbstractStringBuilder" "value" "[B").before a0 Z = true := hw _ (List.mem_of_getElem? (i := 62) rfl)
theorem Wx63 {Z : State} {a0 : Array Value} (hw : ∀ d ∈ tables_1, d.before a0 Z = true) : (Jvm.Cond.fieldLink "java/lang/AbstractStringBuilder" (22 : Nat) "java/lang/AbstractStringBuilder" "coder" "B").before a0 Z = true := hw _ (List.mem_of_getElem? (i := 63) rfl)
theorem Wx64 {Z : State} {a0 : Array Value} (hw : ∀ d ∈ tables_1, d.before a0 Z = true) : (Jvm.Cond.lays "java/lang/StringBuilder" "java/lang/AbstractStringBuilder" "coder" "B").before a0 Z = true := hw _ (List.mem_of_getElem? (i := 64) rfl)
theorem Wx65 {Z : State} {a0 : Array Value} (hw : ∀ d ∈ tables_1, d.before a0 Z = true) : (Jvm.Cond.methodLink "com/example/naviglio/naviglio/Dialect$DirtyReads" (19 : Nat) ({ cls := "java/lang/StringBuilder", name := "append", desc := "(Ljava/lang/String;)Ljava/lang/StringBuilder;" } : Jvm.MethodName)).before a0 Z = true := hw _ (List.mem_of_getElem? (i := 65) rfl)
theorem Wx66 {Z : State} {a0 : Array Value} (hw : ∀ d ∈ tables_1, d.before a0 Z = true) : (Jvm.Cond.declares ({ cls := "java/lang/StringBuilder", name := "append", desc := "(Ljava/lang/String;)Ljava/lang/StringBuilder;" } : Jvm.MethodName)).before a0 Z = true := hw _ (List.mem_of_getElem? (i := 66) rfl)
theorem Wx67 {Z : State} {a0 : Array Value} (hw : ∀ d ∈ tables_1, d.before a0 Z = true) : (Jvm.Cond.instanceMethod ({ cls := "java/lang/StringBuilder", name := "append", desc := "(Ljava/lang/String;)Ljava/lang/StringBuilder;" } : Jvm.MethodName)).before a0 Z = true := hw _ (List.mem_of_getElem? (i := 67) rfl)
theorem Wx68 {Z : State} {a0 : Array Value} (hw : ∀ d ∈ tables_1, d.before a0 Z = true) : (Jvm.Cond.selects "java/lang/StringBuilder" ({ cls := "java/lang/StringBuilder", name := "append", desc := "(Ljava/lang/String;)Ljava/lang/StringBuilder;" } : Jvm.MethodName) ({ cls := "java/lang/StringBuilder", name := "append", desc := "(Ljava/lang/String;)Ljava/lang/StringBuilder;" } : Jvm.MethodName)).before a0 Z = true := hw _ (List.mem_of_getElem? (i := 68) rfl)
theorem Wx69 {Z : State} {a0 : Array Value} (hw : ∀ d ∈ tables_1, d.before a0 Z = true) : (Jvm.Cond.code ({ cls := "java/lang/StringBuilder", name := "append", desc := "(Ljava/lang/String;)Ljava/lang/StringBuilder;" } : Jvm.MethodName) jdk_67_method_7_code (2 : Nat) (Option.some (Jvm.ClassFile.FieldType.object "java/lang/StringBuilder"))).before a0 Z = true := hw _ (List.mem_of_getElem? (i := 69) rfl)
theorem Wx70 {Z : State} {a0 : Array Value} (hw : ∀ d ∈ tables_1, d.before a0 Z = true) : (Jvm.Cond.methodLink "java/lang/StringBuilder" (29 : Nat) ({ cls := "java/lang/AbstractStringBuilder", name := "append", desc := "(Ljava/lang/String;)Ljava/lang/AbstractStringBuilder;" } : Jvm.MethodName)).before a0 Z = true := hw _ (List.mem_of_getElem? (i := 70) rfl)
theorem Wx71 {Z : State} {a0 : Array Value} (hw : ∀ d ∈ tables_1, d.before a0 Z = true) : (Jvm.Cond.instanceMethod ({ cls := "java/lang/AbstractStringBuilder", name := "append", desc := "(Ljava/lang/String;)Ljava/lang/AbstractStringBuilder;" } : Jvm.MethodName)).before a0 Z = true := hw _ (List.mem_of_getElem? (i := 71) rfl)
theorem Wx72 {Z : State} {a0 : Array Value} (hw : ∀ d ∈ tables_1, d.before a0 Z = true) : (Jvm.Cond.superclass "java/lang/StringBuilder" "java/lang/AbstractStringBuilder").before a0 Z = true := hw _ (List.mem_of_getElem? (i := 72) rfl)
theorem Wx74 {Z : State} {a0 : Array Value} (hw : ∀ d ∈ tables_1, d.before a0 Z = true) : (Jvm.Cond.code ({ cls := "java/lang/AbstractStringBuilder", name := "append", desc := "(Ljava/lang/String;)Ljava/lang/AbstractStringBuilder;" } : Jvm.MethodName) jdk_68_method_22_code (3 : Nat) (Option.some (Jvm.ClassFile.FieldType.object "java/lang/AbstractStringBuilder"))).before a0 Z = true := hw _ (List.mem_of_getElem? (i := 74) rfl)
theorem Wx75 {Z : State} {a0 : Array Value} (hw : ∀ d ∈ tables_1, d.before a0 Z = true) : (Jvm.Cond.methodLink "java/lang/AbstractStringBuilder" (32 : Nat) ({ cls := "java/lang/String", name := "length", desc := "()I" } : Jvm.MethodName)).before a0 Z = true := hw _ (List.mem_of_getElem? (i := 75) rfl)
theorem Wx76 {Z : State} {a0 : Array Value} (hw : ∀ d ∈ tables_1, d.before a0 Z = true) : (Jvm.Cond.declares ({ cls := "java/lang/String", name := "length", desc := "()I" } : Jvm.MethodName)).before a0 Z = true := hw _ (List.mem_of_getElem? (i := 76) rfl)
theorem Wx77 {Z : State} {a0 : Array Value} (hw : ∀ d ∈ tables_1, d.before a0 Z = true) : (Jvm.Cond.instanceMethod ({ cls := "java/lang/String", name := "length", desc := "()I" } : Jvm.MethodName)).before a0 Z = true := hw _ (List.mem_of_getElem? (i := 77) rfl)
theorem Wx78 {Z : State} {a0 : Array Value} (hw : ∀ d ∈ tables_1, d.before a0 Z = true) : (Jvm.Cond.selects "java/lang/String" ({ cls := "java/lang/String", name := "length", desc := "()I" } : Jvm.MethodName) ({ cls := "java/lang/String", name := "length", desc := "()I" } : Jvm.MethodName)).before a0 Z = true := hw _ (List.mem_of_getElem? (i := 78) rfl)
theorem Wx80 {Z : State} {a0 : Array Value} (hw : ∀ d ∈ tables_1, d.before a0 Z = true) : (Jvm.Cond.methodLink "java/lang/String" (335 : Nat) ({ cls := "java/lang/String", name := "coder", desc := "()B" } : Jvm.MethodName)).before a0 Z = true := hw _ (List.mem_of_getElem? (i := 80) rfl)
theorem Wx81 {Z : State} {a0 : Array Value} (hw : ∀ d ∈ tables_1, d.before a0 Z = true) : (Jvm.Cond.declares ({ cls := "java/lang/String", name := "coder", desc := "()B" } : Jvm.MethodName)).before a0 Z = true := hw _ (List.mem_of_getElem? (i := 81) rfl)
theorem Wx82 {Z : State} {a0 : Array Value} (hw : ∀ d ∈ tables_1, d.before a0 Z = true) : (Jvm.Cond.instanceMethod ({ cls := "java/lang/String", name := "coder", desc := "()B" } : Jvm.MethodName)).before a0 Z = true := hw _ (List.mem_of_getElem? (i := 82) rfl)
theorem Wx83 {Z : State} {a0 : Array Value} (hw : ∀ d ∈ tables_1, d.before a0 Z = true) : (Jvm.Cond.selects "java/lang/String" ({ cls := "java/lang/String", name := "coder", desc := "()B" } : Jvm.MethodName) ({ cls := "java/lang/String", name := "coder", desc := "()B" } : Jvm.MethodName)).before a0 Z = true := hw _ (List.mem_of_getElem? (i := 83) rfl)
theorem Wx84 {Z : State} {a0 : Array Value} (hw : ∀ d ∈ tables_1, d.before a0 Z = true) : (Jvm.Cond.code ({ cls := "java/lang/String", name := "coder", desc := "()B" } : Jvm.MethodName) jdk_42_method_152_code (1 : Nat) (Option.some Jvm.ClassFile.FieldType.byte)).before a0 Z = true := hw _ (List.mem_of_getElem? (i := 84) rfl)
theorem Wx85 {Z : State} {a0 : Array Value} (hw : ∀ d ∈ tables_1, d.before a0 Z = true) : (Jvm.Cond.fieldLink "java/lang/String" (38 : Nat) "java/lang/String" "COMPACT_STRINGS" "Z").before a0 Z = true := hw _ (List.mem_of_getElem? (i := 85) rfl)
theorem Wx86 {Z : State} {a0 : Array Value} (hw : ∀ d ∈ tables_1, d.before a0 Z = true) : (Jvm.Cond.fieldLink "java/lang/AbstractStringBuilder" (79 : Nat) "java/lang/AbstractStringBuilder" "count" "I").before a0 Z = true := hw _ (List.mem_of_getElem? (i := 86) rfl)
theorem Wx87 {Z : State} {a0 : Array Value} (hw : ∀ d ∈ tables_1, d.before a0 Z = true) : (Jvm.Cond.lays "java/lang/StringBuilder" "java/lang/AbstractStringBuilder" "count" "I").before a0 Z = true := hw _ (List.mem_of_getElem? (i := 87) rfl)
theorem Wx88 {Z : State} {a0 : Array Value} (hw : ∀ d ∈ tables_1, d.before a0 Z = true) : (Jvm.Cond.methodLink "java/lang/AbstractStringBuilder" (100 : Nat) ({ cls := "java/lang/AbstractStringBuilder", name := "ensureCapacityInternal", desc := "(I)V" } : Jvm.MethodName)).before a0 Z = true := hw _ (List.mem_of_getElem? (i := 88) rfl)
theorem Wx89 {Z : State} {a0 : Array Value} (hw : ∀ d ∈ tables_1, d.before a0 Z = true) : (Jvm.Cond.instanceMethod ({ cls := "java/lang/AbstractStringBuilder", name := "ensureCapacityInternal", desc := "(I)V" } : Jvm.MethodName)).before a0 Z = true := hw _ (List.mem_of_getElem? (i := 89) rfl)
theorem Wx90 {Z : State} {a0 : Array Value} (hw : ∀ d ∈ tables_1, d.before a0 Z = true) : (Jvm.Cond.privateMethod ({ cls := "java/lang/AbstractStringBuilder", name := "ensureCapacityInternal", desc := "(I)V" } : Jvm.MethodName)).before a0 Z = true := hw _ (List.mem_of_getElem? (i := 90) rfl)
theorem Wx91 {Z : State} {a0 : Array Value} (hw : ∀ d ∈ tables_1, d.before a0 Z = true) : (Jvm.Cond.selects "java/lang/StringBuilder" ({ cls := "java/lang/AbstractStringBuilder", name := "ensureCapacityInternal", desc := "(I)V" } : Jvm.MethodName) ({ cls := "java/lang/AbstractStringBuilder", name := "ensureCapacityInternal", desc := "(I)V" } : Jvm.MethodName)).before a0 Z = true := hw _ (List.mem_of_getElem? (i := 91) rfl)
theorem Wx92 {Z : State} {a0 : Array Value} (hw : ∀ d ∈ tables_1, d.before a0 Z = true) : (Jvm.Cond.code ({ cls := "java/lang/AbstractStringBuilder", name := "ensureCapacityInternal", desc := "(I)V" } : Jvm.MethodName) jdk_68_method_9_code (3 : Nat) (Option.none : Option Jvm.ClassFile.FieldType)).before a0 Z = true := hw _ (List.mem_of_getElem? (i := 92) rfl)
theorem Wx93 {Z : State} {a0 : Array Value} (hw : ∀ d ∈ tables_1, d.before a0 Z = true) : (Jvm.Cond.methodLink "java/lang/AbstractStringBuilder" (208 : Nat) ({ cls := "java/lang/AbstractStringBuilder", name := "putStringAt", desc := "(ILjava/lang/String;)V" } : Jvm.MethodName)).before a0 Z = true := hw _ (List.mem_of_getElem? (i := 93) rfl)
theorem Wx94 {Z : State} {a0 : Array Value} (hw : ∀ d ∈ tables_1, d.before a0 Z = true) : (Jvm.Cond.instanceMethod ({ cls := "java/lang/AbstractStringBuilder", name := "putStringAt", desc := "(ILjava/lang/String;)V" } : Jvm.MethodName)).before a0 Z = true := hw _ (List.mem_of_getElem? (i := 94) rfl)
theorem Wx95 {Z : State} {a0 : Array Value} (hw : ∀ d ∈ tables_1, d.before a0 Z = true) : (Jvm.Cond.privateMethod ({ cls := "java/lang/AbstractStringBuilder", name := "putStringAt", desc := "(ILjava/lang/String;)V" } : Jvm.MethodName)).before a0 Z = true := hw _ (List.mem_of_getElem? (i := 95) rfl)
theorem Wx97 {Z : State} {a0 : Array Value} (hw : ∀ d ∈ tables_1, d.before a0 Z = true) : (Jvm.Cond.code ({ cls := "java/lang/AbstractStringBuilder", name := "putStringAt", desc := "(ILjava/lang/String;)V" } : Jvm.MethodName) jdk_68_method_73_code (3 : Nat) (Option.none : Option Jvm.ClassFile.FieldType)).before a0 Z = true := hw _ (List.mem_of_getElem? (i := 97) rfl)
theorem Wx98 {Z : State} {a0 : Array Value} (hw : ∀ d ∈ tables_1, d.before a0 Z = true) : (Jvm.Cond.methodLink "java/lang/AbstractStringBuilder" (397 : Nat) ({ cls := "java/lang/AbstractStringBuilder", name := "inflateIfNeededFor", desc := "(Ljava/lang/String;)V" } : Jvm.MethodName)).before a0 Z = true := hw _ (List.mem_of_getElem? (i := 98) rfl)
theorem Wx99 {Z : State} {a0 : Array Value} (hw : ∀ d ∈ tables_1, d.before a0 Z = true) : (Jvm.Cond.instanceMethod ({ cls := "java/lang/AbstractStringBuilder", name := "inflateIfNeededFor", desc := "(Ljava/lang/String;)V" } : Jvm.MethodName)).before a0 Z = true := hw _ (List.mem_of_getElem? (i := 99) rfl)
theorem Wx100 {Z : State} {a0 : Array Value} (hw : ∀ d ∈ tables_1, d.before a0 Z = true) : (Jvm.Cond.privateMethod ({ cls := "java/lang/AbstractStringBuilder", name := "inflateIfNeededFor", desc := "(Ljava/lang/String;)V" } : Jvm.MethodName)).before a0 Z = true := hw _ (List.mem_of_getElem? (i := 100) rfl)
theorem Wx102 {Z : State} {a0 : Array Value} (hw : ∀ d ∈ tables_1, d.before a0 Z = true) : (Jvm.Cond.code ({ cls := "java/lang/AbstractStringBuilder", name := "inflateIfNeededFor", desc := "(Ljava/lang/String;)V" } : Jvm.MethodName) jdk_68_method_71_code (2 : Nat) (Option.none : Option Jvm.ClassFile.FieldType)).before a0 Z = true := hw _ (List.mem_of_getElem? (i := 102) rfl)
theorem Wx103 {Z : State} {a0 : Array Value} (hw : ∀ d ∈ tables_1, d.before a0 Z = true) : (Jvm.Cond.methodLink "java/lang/AbstractStringBuilder" (40 : Nat) ({ cls := "java/lang/String", name := "coder", desc := "()B" } : Jvm.MethodName)).before a0 Z = true := hw _ (List.mem_of_getElem? (i := 103) rfl)
theorem Wx104 {Z : State} {a0 : Array Value} (hw : ∀ d ∈ tables_1, d.before a0 Z = true) : (Jvm.Cond.methodLink "java/lang/AbstractStringBuilder" (399 : Nat) ({ cls := "java/lang/String", name := "getBytes", desc := "([BIB)V" } : Jvm.MethodName)).before a0 Z = true := hw _ (List.mem_of_getElem? (i := 104) rfl)
theorem Wx105 {Z : State} {a0 : Array Value} (hw : ∀ d ∈ tables_1, d.before a0 Z = true) : (Jvm.Cond.declares ({ cls := "java/lang/String", name := "getBytes", desc := "([BIB)V" } : Jvm.MethodName)).before a0 Z = true := hw _ (List.mem_of_getElem? (i := 105) rfl)
theorem Wx106 {Z : State} {a0 : Array Value} (hw : ∀ d ∈ tables_1, d.before a0 Z = true) : (Jvm.Cond.instanceMethod ({ cls := "java/lang/String", name := "getBytes", desc := "([BIB)V" } : Jvm.MethodName)).before a0 Z = true := hw _ (List.mem_of_getElem? (i := 106) rfl)
theorem Wx107 {Z : State} {a0 : Array Value} (hw : ∀ d ∈ tables_1, d.before a0 Z = true) : (Jvm.Cond.selects "java/lang/String" ({ cls := "java/lang/String", name := "getBytes", desc := "([BIB)V" } : Jvm.MethodName) ({ cls := "java/lang/String", name := "getBytes", desc := "([BIB)V" } : Jvm.MethodName)).before a0 Z = true := hw _ (List.mem_of_getElem? (i := 107) rfl)
theorem Wx108 {Z : State} {a0 : Array Value} (hw : ∀ d ∈ tables_1, d.before a0 Z = true) : (Jvm.Cond.code ({ cls := "java/lang/String", name := "getBytes", desc := "([BIB)V" } : Jvm.MethodName) jdk_42_method_147_code (4 : Nat) (Option.none : Option Jvm.ClassFile.FieldType)).before a0 Z = true := hw _ (List.mem_of_getElem? (i := 108) rfl)
theorem Wx109 {Z : State} {a0 : Array Value} (hw : ∀ d ∈ tables_1, d.before a0 Z = true) : (Jvm.Cond.methodLink "java/lang/String" (212 : Nat) ({ cls := "java/lang/System", name := "arraycopy", desc := "(Ljava/lang/Object;ILjava/lang/Object;II)V" } : Jvm.MethodName)).before a0 Z = true := hw _ (List.mem_of_getElem? (i := 109) rfl)
theorem Wx110 {Z : State} {a0 : Array Value} (hw : ∀ d ∈ tables_1, d.before a0 Z = true) : (Jvm.Cond.static ({ cls := "java/lang/System", name := "arraycopy", desc := "(Ljava/lang/Object;ILjava/lang/Object;II)V" } : Jvm.MethodName)).before a0 Z = true := hw _ (List.mem_of_getElem? (i := 110) rfl)
theorem Wx111 {Z : State} {a0 : Array Value} (hw : ∀ d ∈ tables_1, d.before a0 Z = true) : (Jvm.Cond.initialized "java/lang/System").before a0 Z = true := hw _ (List.mem_of_getElem? (i := 111) rfl)
theorem Wx112 {Z : State} {a0 : Array Value} (hw : ∀ d ∈ tables_1, d.before a0 Z = true) : (Jvm.Cond.native ({ cls := "java/lang/System", name := "arraycopy", desc := "(Ljava/lang/Object;ILjava/lang/Object;II)V" } : Jvm.MethodName)).before a0 Z = true := hw _ (List.mem_of_getElem? (i := 112) rfl)
theorem Wx113 {Z : State} {a0 : Array Value} (hw : ∀ d ∈ tables_1, d.before a0 Z = true) : (Jvm.Cond.stringLink "com/example/naviglio/naviglio/Dialect$DirtyReads" (23 : Nat) " <> '").before a0 Z = true := hw _ (List.mem_of_getElem? (i := 113) rfl)
theorem Wx114 {Z : State} {a0 : Array Value} (hw : ∀ d ∈ tables_1, d.before a0 Z = true) : (Jvm.Cond.stringLink "com/example/naviglio/naviglio/Dialect$DirtyReads" (25 : Nat) "'").before a0 Z = true := hw _ (List.mem_of_getElem? (i := 114) rfl)
theorem Wx115 {Z : State} {a0 : Array Value} (hw : ∀ d ∈ tables_1, d.before a0 Z = true) : (Jvm.Cond.methodLink "com/example/naviglio/naviglio/Dialect$DirtyReads" (27 : Nat) ({ cls := "java/lang/StringBuilder", name := "toString", desc := "()Ljava/lang/String;" } : Jvm.MethodName)).before a0 Z = true := hw _ (List.mem_of_getElem? (i := 115) rfl)
theorem Wx116 {Z : State} {a0 : Array Value} (hw : ∀ d ∈ tables_1, d.before a0 Z = true) : (Jvm.Cond.declares ({ cls := "java/lang/StringBuilder", name := "toString", desc := "()Ljava/lang/String;" } : Jvm.MethodName)).before a0 Z = true := hw _ (List.mem_of_getElem? (i := 116) rfl)
theorem Wx117 {Z : State} {a0 : Array Value} (hw : ∀ d ∈ tables_1, d.before a0 Z = true) : (Jvm.Cond.instanceMethod ({ cls := "java/lang/StringBuilder", name := "toString", desc := "()Ljava/lang/String;" } : Jvm.MethodName)).before a0 Z = true := hw _ (List.mem_of_getElem? (i := 117) rfl)
theorem Wx118 {Z : State} {a0 : Array Value} (hw : ∀ d ∈ tables_1, d.before a0 Z = true) : (Jvm.Cond.selects "java/lang/StringBuilder" ({ cls := "java/lang/StringBuilder", name := "toString", desc := "()Ljava/lang/String;" } : Jvm.MethodName) ({ cls := "java/lang/StringBuilder", name := "toString", desc := "()Ljava/lang/String;" } : Jvm.MethodName)).before a0 Z = true := hw _ (List.mem_of_getElem? (i := 118) rfl)
theorem Wx119 {Z : State} {a0 : Array Value} (hw : ∀ d ∈ tables_1, d.before a0 Z = true) : (Jvm.Cond.code ({ cls := "java/lang/StringBuilder", name := "toString", desc := "()Ljava/lang/String;" } : Jvm.MethodName) jdk_67_method_42_code (1 : Nat) (Option.some (Jvm.ClassFile.FieldType.object "java/lang/String"))).before a0 Z = true := hw _ (List.mem_of_getElem? (i := 119) rfl)
theorem Wx120 {Z : State} {a0 : Array Value} (hw : ∀ d ∈ tables_1, d.before a0 Z = true) : (Jvm.Cond.classLink "java/lang/StringBuilder" (18 : Nat) "java/lang/String").before a0 Z = true := hw _ (List.mem_of_getElem? (i := 120) rfl)
theorem Wx121 {Z : State} {a0 : Array Value} (hw : ∀ d ∈ tables_1, d.before a0 Z = true) : (Jvm.Cond.methodLink "java/lang/StringBuilder" (137 : Nat) ({ cls := "java/lang/String", name := "<init>", desc := "(Ljava/lang/StringBuilder;)V" } : Jvm.MethodName)).before a0 Z = true := hw _ (List.mem_of_getElem? (i := 121) rfl)
theorem Wx122 {Z : State} {a0 : Array Value} (hw : ∀ d ∈ tables_1, d.before a0 Z = true) : (Jvm.Cond.instanceMethod ({ cls := "java/lang/String", name := "<init>", desc := "(Ljava/lang/StringBuilder;)V" } : Jvm.MethodName)).before a0 Z = true := hw _ (List.mem_of_getElem? (i := 122) rfl)
theorem Wx123 {Z : State} {a0 : Array Value} (hw : ∀ d ∈ tables_1, d.before a0 Z = true) : (Jvm.Cond.code ({ cls := "java/lang/String", name := "<init>", desc := "(Ljava/lang/StringBuilder;)V" } : Jvm.MethodName) jdk_42_method_53_code (2 : Nat) (Option.none : Option Jvm.ClassFile.FieldType)).before a0 Z = true := hw _ (List.mem_of_getElem? (i := 123) rfl)
theorem Wx124 {Z : State} {a0 : Array Value} (hw : ∀ d ∈ tables_1, d.before a0 Z = true) : (Jvm.Cond.methodLink "java/lang/String" (489 : Nat) ({ cls := "java/lang/String", name := "<init>", desc := "(Ljava/lang/AbstractStringBuilder;Ljava/lang/Void;)V" } : Jvm.MethodName)).before a0 Z = true := hw _ (List.mem_of_getElem? (i := 124) rfl)
theorem Wx125 {Z : State} {a0 : Array Value} (hw : ∀ d ∈ tables_1, d.before a0 Z = true) : (Jvm.Cond.instanceMethod ({ cls := "java/lang/String", name := "<init>", desc := "(Ljava/lang/AbstractStringBuilder;Ljava/lang/Void;)V" } : Jvm.MethodName)).before a0 Z = true := hw _ (List.mem_of_getElem? (i := 125) rfl)
theorem Wx126 {Z : State} {a0 : Array Value} (hw : ∀ d ∈ tables_1, d.before a0 Z = true) : (Jvm.Cond.code ({ cls := "java/lang/String", name := "<init>", desc := "(Ljava/lang/AbstractStringBuilder;Ljava/lang/Void;)V" } : Jvm.MethodName) jdk_42_method_150_code (5 : Nat) (Option.none : Option Jvm.ClassFile.FieldType)).before a0 Z = true := hw _ (List.mem_of_getElem? (i := 126) rfl)
theorem Wx127 {Z : State} {a0 : Array Value} (hw : ∀ d ∈ tables_1, d.before a0 Z = true) : (Jvm.Cond.methodLink "java/lang/String" (552 : Nat) ({ cls := "java/lang/AbstractStringBuilder", name := "getValue", desc := "()[B" } : Jvm.MethodName)).before a0 Z = true := hw _ (List.mem_of_getElem? (i := 127) rfl)
theorem Wx128 {Z : State} {a0 : Array Value} (hw : ∀ d ∈ tables_1, d.before a0 Z = true) : (Jvm.Cond.declares ({ cls := "java/lang/AbstractStringBuilder", name := "getValue", desc := "()[B" } : Jvm.MethodName)).before a0 Z = true := hw _ (List.mem_of_getElem? (i := 128) rfl)
theorem Wx129 {Z : State} {a0 : Array Value} (hw : ∀ d ∈ tables_1, d.before a0 Z = true) : (Jvm.Cond.instanceMethod ({ cls := "java/lang/AbstractStringBuilder", name := "getValue", desc := "()[B" } : Jvm.MethodName)).before a0 Z = true := hw _ (List.mem_of_getElem? (i := 129) rfl)
theorem Wx130 {Z : State} {a0 : Array Value} (hw : ∀ d ∈ tables_1, d.before a0 Z = true) : (Jvm.Cond.selects "java/lang/StringBuilder" ({ cls := "java/lang/AbstractStringBuilder", name := "getValue", desc := "()[B" } : Jvm.MethodName) ({ cls := "java/lang/AbstractStringBuilder", name := "getValue", desc := "()[B" } : Jvm.MethodName)).before a0 Z = true := hw _ (List.mem_of_getElem? (i := 130) rfl)
theorem Wx131 {Z : State} {a0 : Array Value} (hw : ∀ d ∈ tables_1, d.before a0 Z = true) : (Jvm.Cond.code ({ cls := "java/lang/AbstractStringBuilder", name := "getValue", desc := "()[B" } : Jvm.MethodName) jdk_68_method_64_code (1 : Nat) (Option.some (Jvm.ClassFile.FieldType.array Jvm.ClassFile.FieldType.byte))).before a0 Z = true := hw _ (List.mem_of_getElem? (i := 131) rfl)
theorem Wx132 {Z : State} {a0 : Array Value} (hw : ∀ d ∈ tables_1, d.before a0 Z = true) : (Jvm.Cond.methodLink "java/lang/String" (549 : Nat) ({ cls := "java/lang/AbstractStringBuilder", name := "length", desc := "()I" } : Jvm.MethodName)).before a0 Z = true := hw _ (List.mem_of_getElem? (i := 132) rfl)
theorem Wx133 {Z : State} {a0 : Array Value} (hw : ∀ d ∈ tables_1, d.before a0 Z = true) : (Jvm.Cond.declares ({ cls := "java/lang/AbstractStringBuilder", name := "length", desc := "()I" } : Jvm.MethodName)).before a0 Z = true := hw _ (List.mem_of_getElem? (i := 133) rfl)
theorem Wx134 {Z : State} {a0 : Array Value} (hw : ∀ d ∈ tables_1, d.before a0 Z = true) : (Jvm.Cond.instanceMethod ({ cls := "java/lang/AbstractStringBuilder", name := "length", desc := "()I" } : Jvm.MethodName)).before a0 Z = true := hw _ (List.mem_of_getElem? (i := 134) rfl)
theorem Wx135 {Z : State} {a0 : Array Value} (hw : ∀ d ∈ tables_1, d.before a0 Z = true) : (Jvm.Cond.selects "java/lang/StringBuilder" ({ cls := "java/lang/AbstractStringBuilder", name := "length", desc := "()I" } : Jvm.MethodName) ({ cls := "java/lang/StringBuilder", name := "length", desc := "()I" } : Jvm.MethodName)).before a0 Z = true := hw _ (List.mem_of_getElem? (i := 135) rfl)
theorem Wx136 {Z : State} {a0 : Array Value} (hw : ∀ d ∈ tables_1, d.before a0 Z = true) : (Jvm.Cond.instanceMethod ({ cls := "java/lang/StringBuilder", name := "length", desc := "()I" } : Jvm.MethodName)).before a0 Z = true := hw _ (List.mem_of_getElem? (i := 136) rfl)
theorem Wx137 {Z : State} {a0 : Array Value} (hw : ∀ d ∈ tables_1, d.before a0 Z = true) : (Jvm.Cond.code ({ cls := "java/lang/StringBuilder", name := "length", desc := "()I" } : Jvm.MethodName) jdk_67_method_93_code (1 : Nat) (Option.some Jvm.ClassFile.FieldType.int)).before a0 Z = true := hw _ (List.mem_of_getElem? (i := 137) rfl)
theorem Wx138 {Z : State} {a0 : Array Value} (hw : ∀ d ∈ tables_1, d.before a0 Z = true) : (Jvm.Cond.methodLink "java/lang/StringBuilder" (343 : Nat) ({ cls := "java/lang/AbstractStringBuilder", name := "length", desc := "()I" } : Jvm.MethodName)).before a0 Z = true := hw _ (List.mem_of_getElem? (i := 138) rfl)
theorem Wx139 {Z : State} {a0 : Array Value} (hw : ∀ d ∈ tables_1, d.before a0 Z = true) : (Jvm.Cond.code ({ cls := "java/lang/AbstractStringBuilder", name := "length", desc := "()I" } : Jvm.MethodName) jdk_68_method_6_code (1 : Nat) (Option.some Jvm.ClassFile.FieldType.int)).before a0 Z = true := hw _ (List.mem_of_getElem? (i := 139) rfl)
theorem Wx140 {Z : State} {a0 : Array Value} (hw : ∀ d ∈ tables_1, d.before a0 Z = true) : (Jvm.Cond.methodLink "java/lang/String" (1047 : Nat) ({ cls := "java/lang/AbstractStringBuilder", name := "isLatin1", desc := "()Z" } : Jvm.MethodName)).before a0 Z = true := hw _ (List.mem_of_getElem? (i := 140) rfl)
theorem Wx141 {Z : State} {a0 : Array Value} (hw : ∀ d ∈ tables_1, d.before a0 Z = true) : (Jvm.Cond.declares ({ cls := "java/lang/AbstractStringBuilder", name := "isLatin1", desc := "()Z" } : Jvm.MethodName)).before a0 Z = true := hw _ (List.mem_of_getElem? (i := 141) rfl)
theorem Wx142 {Z : State} {a0 : Array Value} (hw : ∀ d ∈ tables_1, d.before a0 Z = true) : (Jvm.Cond.instanceMethod ({ cls := "java/lang/AbstractStringBuilder", name := "isLatin1", desc := "()Z" } : Jvm.MethodName)).before a0 Z = true := hw _ (List.mem_of_getElem? (i := 142) rfl)
theorem Wx143 {Z : State} {a0 : Array Value} (hw : ∀ d ∈ tables_1, d.before a0 Z = true) : (Jvm.Cond.selects "java/lang/StringBuilder" ({ cls := "java/lang/AbstractStringBuilder", name := "isLatin1", desc := "()Z" } : Jvm.MethodName) ({ cls := "java/lang/AbstractStringBuilder", name := "isLatin1", desc := "()Z" } : Jvm.MethodName)).before a0 Z = true := hw _ (List.mem_of_getElem? (i := 143) rfl)
theorem Wx144 {Z : State} {a0 : Array Value} (hw : ∀ d ∈ tables_1, d.before a0 Z = true) : (Jvm.Cond.code ({ cls := "java/lang/AbstractStringBuilder", name := "isLatin1", desc := "()Z" } : Jvm.MethodName) jdk_68_method_68_code (1 : Nat) (Option.some Jvm.ClassFile.FieldType.boolean)).before a0 Z = true := hw _ (List.mem_of_getElem? (i := 144) rfl)
theorem Wx145 {Z : State} {a0 : Array Value} (hw : ∀ d ∈ tables_1, d.before a0 Z = true) : (Jvm.Cond.methodLink "java/lang/String" (54 : Nat) ({ cls := "java/util/Arrays", name := "copyOfRange", desc := "([BII)[B" } : Jvm.MethodName)).before a0 Z = true := hw _ (List.mem_of_getElem? (i := 145) rfl)
theorem Wx146 {Z : State} {a0 : Array Value} (hw : ∀ d ∈ tables_1, d.before a0 Z = true) : (Jvm.Cond.static ({ cls := "java/util/Arrays", name := "copyOfRange", desc := "([BII)[B" } : Jvm.MethodName)).before a0 Z = true := hw _ (List.mem_of_getElem? (i := 146) rfl)
theorem Wx147 {Z : State} {a0 : Array Value} (hw : ∀ d ∈ tables_1, d.before a0 Z = true) : (Jvm.Cond.initialized "java/util/Arrays").before a0 Z = true := hw _ (List.mem_of_getElem? (i := 147) rfl)
theorem Wx148 {Z : State} {a0 : Array Value} (hw : ∀ d ∈ tables_1, d.before a0 Z = true) : (Jvm.Cond.code ({ cls := "java/util/Arrays", name := "copyOfRange", desc := "([BII)[B" } : Jvm.MethodName) jdk_65_method_132_code (3 : Nat) (Option.some (Jvm.ClassFile.FieldType.array Jvm.ClassFile.FieldType.byte))).before a0 Z = true := hw _ (List.mem_of_getElem? (i := 148) rfl)
theorem Wx149 {Z : State} {a0 : Array Value} (hw : ∀ d ∈ tables_1, d.before a0 Z = true) : (Jvm.Cond.methodLink "java/util/Arrays" (339 : Nat) ({ cls := "java/util/Arrays", name := "copyOfRangeByte", desc := "([BII)[B" } : Jvm.MethodName)).before a0 Z = true := hw _ (List.mem_of_getElem? (i := 149) rfl)
theorem Wx150 {Z : State} {a0 : Array Value} (hw : ∀ d ∈ tables_1, d.before a0 Z = true) : (Jvm.Cond.static ({ cls := "java/util/Arrays", name := "copyOfRangeByte", desc := "([BII)[B" } : Jvm.MethodName)).before a0 Z = true := hw _ (List.mem_of_getElem? (i := 150) rfl)
theorem Wx151 {Z : State} {a0 : Array Value} (hw : ∀ d ∈ tables_1, d.before a0 Z = true) : (Jvm.Cond.code ({ cls := "java/util/Arrays", name := "copyOfRangeByte", desc := "([BII)[B" } : Jvm.MethodName) jdk_65_method_133_code (5 : Nat) (Option.some (Jvm.ClassFile.FieldType.array Jvm.ClassFile.FieldType.byte))).before a0 Z = true := hw _ (List.mem_of_getElem? (i := 151) rfl)
theorem Wx152 {Z : State} {a0 : Array Value} (hw : ∀ d ∈ tables_1, d.before a0 Z = true) : (Jvm.Cond.methodLink "java/util/Arrays" (343 : Nat) ({ cls := "java/util/Arrays", name := "checkLength", desc := "(II)V" } : Jvm.MethodName)).before a0 Z = true := hw _ (List.mem_of_getElem? (i := 152) rfl)
theorem Wx153 {Z : State} {a0 : Array Value} (hw : ∀ d ∈ tables_1, d.before a0 Z = true) : (Jvm.Cond.static ({ cls := "java/util/Arrays", name := "checkLength", desc := "(II)V" } : Jvm.MethodName)).before a0 Z = true := hw _ (List.mem_of_getElem? (i := 153) rfl)
theorem Wx154 {Z : State} {a0 : Array Value} (hw : ∀ d ∈ tables_1, d.before a0 Z = true) : (Jvm.Cond.code ({ cls := "java/util/Arrays", name := "checkLength", desc := "(II)V" } : Jvm.MethodName) jdk_65_method_131_code (2 : Nat) (Option.none : Option Jvm.ClassFile.FieldType)).before a0 Z = true := hw _ (List.mem_of_getElem? (i := 154) rfl)
theorem Wx155 {Z : State} {a0 : Array Value} (hw : ∀ d ∈ tables_1, d.before a0 Z = true) : (Jvm.Cond.methodLink "java/util/Arrays" (304 : Nat) ({ cls := "java/lang/Math", name := "min", desc := "(II)I" } : Jvm.MethodName)).before a0 Z = true := hw _ (List.mem_of_getElem? (i := 155) rfl)
theorem Wx156 {Z : State} {a0 : Array Value} (hw : ∀ d ∈ tables_1, d.before a0 Z = true) : (Jvm.Cond.static ({ cls := "java/lang/Math", name := "min", desc := "(II)I" } : Jvm.MethodName)).before a0 Z = true := hw _ (List.mem_of_getElem? (i := 156) rfl)
theorem Wx157 {Z : State} {a0 : Array Value} (hw : ∀ d ∈ tables_1, d.before a0 Z = true) : (Jvm.Cond.initialized "java/lang/Math").before a0 Z = true := hw _ (List.mem_of_getElem? (i := 157) rfl)
theorem Wx158 {Z : State} {a0 : Array Value} (hw : ∀ d ∈ tables_1, d.before a0 Z = true) : (Jvm.Cond.code ({ cls := "java/lang/Math", name := "min", desc := "(II)I" } : Jvm.MethodName) jdk_29_method_69_code (2 : Nat) (Option.some Jvm.ClassFile.FieldType.int)).before a0 Z = true := hw _ (List.mem_of_getElem? (i := 158) rfl)
theorem Wx159 {Z : State} {a0 : Array Value} (hw : ∀ d ∈ tables_1, d.before a0 Z = true) : (Jvm.Cond.methodLink "java/util/Arrays" (150 : Nat) ({ cls := "java/lang/System", name := "arraycopy", desc := "(Ljava/lang/Object;ILjava/lang/Object;II)V" } : Jvm.MethodName)).before a0 Z = true := hw _ (List.mem_of_getElem? (i := 159) rfl)
theorem Wx160 {Z : State} {a0 : Array Value} (hw : ∀ d ∈ tables_1, d.before a0 Z = true) : (Jvm.Cond.methodLink "com/example/naviglio/naviglio/DirtyReadsReadsCommittedPinLaw" (22 : Nat) ({ cls := "java/lang/String", name := "length", desc := "()I" } : Jvm.MethodName)).before a0 Z = true := hw _ (List.mem_of_getElem? (i := 160) rfl)
theorem Wx161 {Z : State} {a0 : Array Value} (hw : ∀ d ∈ tables_1, d.before a0 Z = true) : (Jvm.Cond.methodLink "com/example/naviglio/naviglio/DirtyReadsReadsCommittedPinLaw" (28 : Nat) ({ cls := "com/example/naviglio/naviglio/DirtyReadsReadsCommittedPinLaw", name := "at", desc := "(Ljava/lang/String;IIICCICC)Z" } : Jvm.MethodName)).before a0 Z = true := hw _ (List.mem_of_getElem? (i := 161) rfl)
theorem Wx162 {Z : State} {a0 : Array Value} (hw : ∀ d ∈ tables_1, d.before a0 Z = true) : (Jvm.Cond.static ({ cls := "com/example/naviglio/naviglio/DirtyReadsReadsCommittedPinLaw", name := "at", desc := "(Ljava/lang/String;IIICCICC)Z" } : Jvm.MethodName)).before a0 Z = true := hw _ (List.mem_of_getElem? (i := 162) rfl)
theorem Wx163 {Z : State} {a0 : Array Value} (hw : ∀ d ∈ tables_1, d.before a0 Z = true) : (Jvm.Cond.code ({ cls := "com/example/naviglio/naviglio/DirtyReadsReadsCommittedPinLaw", name := "at", desc := "(Ljava/lang/String;IIICCICC)Z" } : Jvm.MethodName) method_4_code (9 : Nat) (Option.some Jvm.ClassFile.FieldType.boolean)).before a0 Z = true := hw _ (List.mem_of_getElem? (i := 163) rfl)
theorem Wx164 {Z : State} {a0 : Array Value} (hw : ∀ d ∈ tables_1, d.before a0 Z = true) : (Jvm.Cond.methodLink "com/example/naviglio/naviglio/DirtyReadsReadsCommittedPinLaw" (39 : Nat) ({ cls := "java/lang/String", name := "charAt", desc := "(I)C" } : Jvm.MethodName)).before a0 Z = true := hw _ (List.mem_of_getElem? (i := 164) rfl)
theorem Wx165 {Z : State} {a0 : Array Value} (hw : ∀ d ∈ tables_1, d.before a0 Z = true) : (Jvm.Cond.declares ({ cls := "java/lang/String", name := "charAt", desc := "(I)C" } : Jvm.MethodName)).before a0 Z = true := hw _ (List.mem_of_getElem? (i := 165) rfl)
theorem Wx166 {Z : State} {a0 : Array Value} (hw : ∀ d ∈ tables_1, d.before a0 Z = true) : (Jvm.Cond.instanceMethod ({ cls := "java/lang/String", name := "charAt", desc := "(I)C" } : Jvm.MethodName)).before a0 Z = true := hw _ (List.mem_of_getElem? (i := 166) rfl)
theorem Wx167 {Z : State} {a0 : Array Value} (hw : ∀ d ∈ tables_1, d.before a0 Z = true) : (Jvm.Cond.selects "java/lang/String" ({ cls := "java/lang/String", name := "charAt", desc := "(I)C" } : Jvm.MethodName) ({ cls := "java/lang/String", name := "charAt", desc := "(I)C" } : Jvm.MethodName)).before a0 Z = true := hw _ (List.mem_of_getElem? (i := 167) rfl)
theorem Wx176 {Z : State} {a0 : Array Value} (hw : ∀ d ∈ tables_1, d.before a0 Z = true) : (Jvm.Cond.initialized "java/lang/StringLatin1").before a0 Z = true := hw _ (List.mem_of_getElem? (i := 176) rfl)
theorem Wx186 {Z : State} {a0 : Array Value} (hw : ∀ d ∈ tables_1, d.before a0 Z = true) : (Jvm.Cond.methodLink "com/example/naviglio/naviglio/DirtyReadsReadsCommittedPinLaw" (43 : Nat) ({ cls := "com/example/naviglio/naviglio/DirtyReadsReadsCommittedPinLaw", name := "exp", desc := "(IICCICC)C" } : Jvm.MethodName)).before a0 Z = true := hw _ (List.mem_of_getElem? (i := 186) rfl)
theorem Wx187 {Z : State} {a0 : Array Value} (hw : ∀ d ∈ tables_1, d.before a0 Z = true) : (Jvm.Cond.static ({ cls := "com/example/naviglio/naviglio/DirtyReadsReadsCommittedPinLaw", name := "exp", desc := "(IICCICC)C" } : Jvm.MethodName)).before a0 Z = true := hw _ (List.mem_of_getElem? (i := 187) rfl)
theorem Wx188 {Z : State} {a0 : Array Value} (hw : ∀ d ∈ tables_1, d.before a0 Z = true) : (Jvm.Cond.code ({ cls := "com/example/naviglio/naviglio/DirtyReadsReadsCommittedPinLaw", name := "exp", desc := "(IICCICC)C" } : Jvm.MethodName) method_5_code (9 : Nat) (Option.some Jvm.ClassFile.FieldType.char)).before a0 Z = true := hw _ (List.mem_of_getElem? (i := 188) rfl)
theorem Wx199 {Z : State} {a0 : Array Value} (hw : ∀ d ∈ tables_1, d.before a0 Z = true) : (Jvm.Cond.methodLink "com/example/naviglio/naviglio/DirtyReadsReadsCommittedPinLaw" (35 : Nat) ({ cls := "java/lang/String", name := "valueOf", desc := "(C)Ljava/lang/String;" } : Jvm.MethodName)).before a0 Z = true := hw _ (List.mem_of_getElem? (i := 199) rfl)
theorem Wx200 {Z : State} {a0 : Array Value} (hw : ∀ d ∈ tables_1, d.before a0 Z = true) : (Jvm.Cond.static ({ cls := "java/lang/String", name := "valueOf", desc := "(C)Ljava/lang/String;" } : Jvm.MethodName)).before a0 Z = true := hw _ (List.mem_of_getElem? (i := 200) rfl)
theorem Wx201 {Z : State} {a0 : Array Value} (hw : ∀ d ∈ tables_1, d.before a0 Z = true) : (Jvm.Cond.code ({ cls := "java/lang/String", name := "valueOf", desc := "(C)Ljava/lang/String;" } : Jvm.MethodName) jdk_42_method_139_code (1 : Nat) (Option.some (Jvm.ClassFile.FieldType.object "java/lang/String"))).before a0 Z = true := hw _ (List.mem_of_getElem? (i := 201) rfl)
theorem Wx202 {Z : State} {a0 : Array Value} (hw : ∀ d ∈ tables_1, d.before a0 Z = true) : (Jvm.Cond.methodLink "java/lang/String" (1015 : Nat) ({ cls := "java/lang/StringLatin1", name := "canEncode", desc := "(C)Z" } : Jvm.MethodName)).before a0 Z = true := hw _ (List.mem_of_getElem? (i := 202) rfl)
theorem Wx203 {Z : State} {a0 : Array Value} (hw : ∀ d ∈ tables_1, d.before a0 Z = true) : (Jvm.Cond.static ({ cls := "java/lang/StringLatin1", name := "canEncode", desc := "(C)Z" } : Jvm.MethodName)).before a0 Z = true := hw _ (List.mem_of_getElem? (i := 203) rfl)
theorem Wx204 {Z : State} {a0 : Array Value} (hw : ∀ d ∈ tables_1, d.before a0 Z = true) : (Jvm.Cond.code ({ cls := "java/lang/StringLatin1", name := "canEncode", desc := "(C)Z" } : Jvm.MethodName) jdk_43_method_3_code (1 : Nat) (Option.some Jvm.ClassFile.FieldType.boolean)).before a0 Z = true := hw _ (List.mem_of_getElem? (i := 204) rfl)
theorem Wx205 {Z : State} {a0 : Array Value} (hw : ∀ d ∈ tables_1, d.before a0 Z = true) : (Jvm.Cond.classLink "java/lang/String" (10 : Nat) "java/lang/String").before a0 Z = true := hw _ (List.mem_of_getElem? (i := 205) rfl)
theorem Wx206 {Z : State} {a0 : Array Value} (hw : ∀ d ∈ tables_1, d.before a0 Z = true) : (Jvm.Cond.methodLink "java/lang/String" (1018 : Nat) ({ cls := "java/lang/StringLatin1", name := "toBytes", desc := "(C)[B" } : Jvm.MethodName)).before a0 Z = true := hw _ (List.mem_of_getElem? (i := 206) rfl)
theorem Wx207 {Z : State} {a0 : Array Value} (hw : ∀ d ∈ tables_1, d.before a0 Z = true) : (Jvm.Cond.static ({ cls := "java/lang/StringLatin1", name := "toBytes", desc := "(C)[B" } : Jvm.MethodName)).before a0 Z = true := hw _ (List.mem_of_getElem? (i := 207) rfl)
theorem Wx208 {Z : State} {a0 : Array Value} (hw : ∀ d ∈ tables_1, d.before a0 Z = true) : (Jvm.Cond.code ({ cls := "java/lang/StringLatin1", name := "toBytes", desc := "(C)[B" } : Jvm.MethodName) jdk_43_method_46_code (1 : Nat) (Option.some (Jvm.ClassFile.FieldType.array Jvm.ClassFile.FieldType.byte))).before a0 Z = true := hw _ (List.mem_of_getElem? (i := 208) rfl)
theorem Wx209 {Z : State} {a0 : Array Value} (hw : ∀ d ∈ tables_1, d.before a0 Z = true) : (Jvm.Cond.methodLink "java/lang/String" (209 : Nat) ({ cls := "java/lang/String", name := "<init>", desc := "([BB)V" } : Jvm.MethodName)).before a0 Z = true := hw _ (List.mem_of_getElem? (i := 209) rfl)
theorem Wx210 {Z : State} {a0 : Array Value} (hw : ∀ d ∈ tables_1, d.before a0 Z = true) : (Jvm.Cond.instanceMethod ({ cls := "java/lang/String", name := "<init>", desc := "([BB)V" } : Jvm.MethodName)).before a0 Z = true := hw _ (List.mem_of_getElem? (i := 210) rfl)
theorem Wx211 {Z : State} {a0 : Array Value} (hw : ∀ d ∈ tables_1, d.before a0 Z = true) : (Jvm.Cond.code ({ cls := "java/lang/String", name := "<init>", desc := "([BB)V" } : Jvm.MethodName) jdk_42_method_151_code (3 : Nat) (Option.none : Option Jvm.ClassFile.FieldType)).before a0 Z = true := hw _ (List.mem_of_getElem? (i := 211) rfl)
theorem Sb.neA {Z : State} {a0 : Array Value} (hw : ∀ d ∈ tables_1, d.before a0 Z = true) {h : Heap} {b t : Addr} {cs : List Int32} (S : Sb Z h b t cs) : b ≠ t := by
  obtain ⟨E, -, -, -, f, A, -⟩ := S
  obtain ⟨k, A'⟩ := A.arv (.int 0)
  exact Exa.neArv E A' (Wx48 hw)
set_option maxRecDepth 65536 in
set_option maxHeartbeats 40000000 in
theorem con_iv0 (l : Launch) (Z : State) (a0 : Array Value) (hw : ∀ d ∈ tables_1, d.before a0 Z = true)  (h : Heap) (hS : SS Z) (hH : Jvm.Lit.constsHeld consts_1 Z) (hcw : Jvm.Lit.compactW.before a0 Z = true) (x b : Addr) (E : Exa Z h x "java/lang/String") (V : Fld Z h x "java/lang/String" "value" "[B" .null) (Cd : Fld Z h x "java/lang/String" "coder" "B" (.int 0)) (I0 : LL) (hL : LE Z h I0) : ConS l Z [x] (⟨"java/lang/String", "<init>", "([CIILjava/lang/Void;)V"⟩ : MethodName) jdk_42_method_149_code 6 (none) ({ frames := 1, cells := 2, slots := 4, locals := 12 } : Room) #[(.ref x), (.ref b), (.int (0 : Int32)), (.int (0 : Int32)), .null] h [] (some I0) (fun v h' J => v = none ∧ Str Z h' x [] ∧ ∃ J0, J = some J0 ∧ LE Z h' J0) := by
  refine ConS.of (plainFor_of_name pn0) (Ls := #[.val (.ref x), .val (.ref b), .val (.int (0 : Int32)), .val (.int (0 : Int32)), .val .null, .unset]) (fun m => by first | (simp [entryFrame, mkF, argsToLocals, Value.category]; done) | rfl) ?_
  intro p_ e_ s_ m_ bel_ mt_ cd_ vm0 C B0
  refine g_aload_n C d_jdk_42_method_149_0 rfl rfl (pc' := 1) rfl ?_
  refine g_objinit C (Wx15 hw) (Wx16 hw) (Wx17 hw) rfl (by first | decide | exact Nat.le_of_ble_eq_true rfl) (by first | decide | exact Nat.le_of_ble_eq_true rfl) d_jdk_42_method_149_1 (pc' := 4) rfl ?_
  refine g_iload_n C d_jdk_42_method_149_4 rfl (pc' := 5) rfl ?_
  refine g_ifne C d_jdk_42_method_149_5 (by first | decide | exact Nat.le_of_ble_eq_true rfl) (pcT := 27) rfl (pcF := 8) rfl (fun zz_ => absurd (rfl) zz_) (fun _ => ?_)
  refine g_aload_n C d_jdk_42_method_149_8 rfl rfl (pc' := 9) rfl ?_
  rcases hL with rfl | ⟨a, rfl, Sa⟩
  · refine g_ldcNew C (text := "") (fun _ _ q => q) B0 (Nat.le_refl _) (Wx18 hw) (Ws_str hw) (by simp) (hH ("java/lang/String", 7) (by first | decide | exact Nat.le_of_ble_eq_true rfl)) hcw (cs := []) ⟨by decide, by decide⟩ (fun c hc => nomatch hc) (by first | decide | exact Nat.le_of_ble_eq_true rfl) d_jdk_42_method_149_9 (pc' := 11) rfl (n := 0) (by first | decide | exact Nat.le_of_ble_eq_true rfl) (by first | decide | exact Nat.le_of_ble_eq_true rfl) (by first | decide | exact Nat.le_of_ble_eq_true rfl) (by first | decide | exact Nat.le_of_ble_eq_true rfl) ?_
    intro vm1 h1 a C1 B1 X1 Sa
    refine g_norm (cells' := 2) (slots' := 4) (st' := [(.ref a), (.ref x)]) (by first | decide | exact Nat.le_of_ble_eq_true rfl) (by first | decide | exact Nat.le_of_ble_eq_true rfl) rfl ?_
    have E1 := E.ext X1
    have V1 := V.ext X1
    have D1 := Cd.ext X1
    obtain ⟨k1, k2, Ea, Ca, t, kb, Va, Aa⟩ := id Sa
    refine g_getfield C1 (Wx24 hw) Via.refl (Va) d_jdk_42_method_149_11 (pc' := 14) rfl ?_
    refine g_putfield C1 (Wx24 hw) Via.refl (v' := (.ref t)) (V1) (E1) (Or.inr ⟨(Wx20 hw), rfl, rfl⟩) (Wx5 hw) (ty := (.array .byte)) (by first | decide | exact Nat.le_of_ble_eq_true rfl) rfl rfl (Or.inl (List.mem_cons_self ..)) d_jdk_42_method_149_14 (pc' := 17) rfl ?_
    intro h2 W1
    have hax : a ≠ x := Fld.ne Va V1 (by simp)
    have hxt : x ≠ t := Exa.neArv E1 Aa (Wx5 hw)
    have Ca2 := Fld.other W1 Ca (Or.inl hax)
    have E2 := Exa.wr W1 E1
    have V2 := Fld.same W1 V1
    have D2 := Fld.other W1 D1 (Or.inr (slot_ne (Or.inr (Wx21 hw)) (Or.inr (Wx20 hw)) (by first | decide | exact Nat.le_of_ble_eq_true rfl) (t := .byte) (by first | decide | exact Nat.le_of_ble_eq_true rfl) (t' := (.array .byte)) (by first | decide | exact Nat.le_of_ble_eq_true rfl)))
    have Va2 := Fld.other W1 Va (Or.inl hax)
    have Ea2 := Exa.wr W1 Ea
    have Aa2 := Arv.other Aa W1 hxt.symm
    refine g_aload_n C1 d_jdk_42_method_149_17 rfl rfl (pc' := 18) rfl ?_
    refine g_ldcAgain C1 (text := "") (index := 7) (a := a) B1 (List.mem_cons_self ..) (Wx18 hw) d_jdk_42_method_149_18 (pc' := 20) rfl ?_
    refine g_getfield C1 (Wx25 hw) Via.refl (Ca2) d_jdk_42_method_149_20 (pc' := 23) rfl ?_
    refine g_putfield C1 (Wx25 hw) Via.refl (v' := (.int (0 : Int32))) (D2) (E2) (Or.inr ⟨(Wx21 hw), rfl, rfl⟩) (Wx5 hw) (ty := .byte) (by first | decide | exact Nat.le_of_ble_eq_true rfl) rfl rfl (Or.inl (List.mem_cons_self ..)) d_jdk_42_method_149_23 (pc' := 26) rfl ?_
    intro h3 W2
    have E3 := Exa.wr W2 E2
    have D3 := Fld.same W2 D2
    have V3 := Fld.other W2 V2 (Or.inr (slot_ne (Or.inr (Wx20 hw)) (Or.inr (Wx21 hw)) (by first | decide | exact Nat.le_of_ble_eq_true rfl) (t := (.array .byte)) (by first | decide | exact Nat.le_of_ble_eq_true rfl) (t' := .byte) (by first | decide | exact Nat.le_of_ble_eq_true rfl)))
    have Ca3 := Fld.other W2 Ca2 (Or.inl hax)
    have Va3 := Fld.other W2 Va2 (Or.inl hax)
    have Ea3 := Exa.wr W2 Ea2
    have Aa3 := Arv.other Aa2 W2 hxt.symm
    have S3 : Str Z h3 x [] := ⟨Nat.zero_le _, by simp, E3, D3, t, kb, V3, Aa3⟩
    have Sa3 : Str Z h3 a [] := ⟨Nat.zero_le _, by simp, Ea3, Ca3, t, kb, Va3, Aa3⟩
    have L3 : LE Z h3 [("java/lang/String", 7, "", a)] := Or.inr ⟨a, rfl, Sa3⟩
    exact b_return C1 B1 (by have q0 := (W1).size; have q1 := (W2).size; omega) d_jdk_42_method_149_26 (⟨rfl, S3, _, rfl, L3⟩) (by first | decide | exact Nat.le_of_ble_eq_true rfl) (by first | decide | exact Nat.le_of_ble_eq_true rfl)
  · refine g_ldcAgain C (text := "") (index := 7) (a := a) B0 (List.mem_cons_self ..) (Wx18 hw) d_jdk_42_method_149_9 (pc' := 11) rfl ?_
    have E1 := E
    have V1 := V
    have D1 := Cd
    obtain ⟨k1, k2, Ea, Ca, t, kb, Va, Aa⟩ := id Sa
    refine g_getfield C (Wx24 hw) Via.refl (Va) d_jdk_42_method_149_11 (pc' := 14) rfl ?_
    refine g_putfield C (Wx24 hw) Via.refl (v' := (.ref t)) (V1) (E1) (Or.inr ⟨(Wx20 hw), rfl, rfl⟩) (Wx5 hw) (ty := (.array .byte)) (by first | decide | exact Nat.le_of_ble_eq_true rfl) rfl rfl (Or.inl (List.mem_cons_self ..)) d_jdk_42_method_149_14 (pc' := 17) rfl ?_
    intro h2 W1
    have hax : a ≠ x := Fld.ne Va V1 (by simp)
    have hxt : x ≠ t := Exa.neArv E1 Aa (Wx5 hw)
    have Ca2 := Fld.other W1 Ca (Or.inl hax)
    have E2 := Exa.wr W1 E1
    have V2 := Fld.same W1 V1
    have D2 := Fld.other W1 D1 (Or.inr (slot_ne (Or.inr (Wx21 hw)) (Or.inr (Wx20 hw)) (by first | decide | exact Nat.le_of_ble_eq_true rfl) (t := .byte) (by first | decide | exact Nat.le_of_ble_eq_true rfl) (t' := (.array .byte)) (by first | decide | exact Nat.le_of_ble_eq_true rfl)))
    have Va2 := Fld.other W1 Va (Or.inl hax)
    have Ea2 := Exa.wr W1 Ea
    have Aa2 := Arv.other Aa W1 hxt.symm
    refine g_aload_n C d_jdk_42_method_149_17 rfl rfl (pc' := 18) rfl ?_
    refine g_ldcAgain C (text := "") (index := 7) (a := a) B0 (List.mem_cons_self ..) (Wx18 hw) d_jdk_42_method_149_18 (pc' := 20) rfl ?_
    refine g_getfield C (Wx25 hw) Via.refl (Ca2) d_jdk_42_method_149_20 (pc' := 23) rfl ?_
    refine g_putfield C (Wx25 hw) Via.refl (v' := (.int (0 : Int32))) (D2) (E2) (Or.inr ⟨(Wx21 hw), rfl, rfl⟩) (Wx5 hw) (ty := .byte) (by first | decide | exact Nat.le_of_ble_eq_true rfl) rfl rfl (Or.inl (List.mem_cons_self ..)) d_jdk_42_method_149_23 (pc' := 26) rfl ?_
    intro h3 W2
    have E3 := Exa.wr W2 E2
    have D3 := Fld.same W2 D2
    have V3 := Fld.other W2 V2 (Or.inr (slot_ne (Or.inr (Wx20 hw)) (Or.inr (Wx21 hw)) (by first | decide | exact Nat.le_of_ble_eq_true rfl) (t := (.array .byte)) (by first | decide | exact Nat.le_of_ble_eq_true rfl) (t' := .byte) (by first | decide | exact Nat.le_of_ble_eq_true rfl)))
    have Ca3 := Fld.other W2 Ca2 (Or.inl hax)
    have Va3 := Fld.other W2 Va2 (Or.inl hax)
    have Ea3 := Exa.wr W2 Ea2
    have Aa3 := Arv.other Aa2 W2 hxt.symm
    have S3 : Str Z h3 x [] := ⟨Nat.zero_le _, by simp, E3, D3, t, kb, V3, Aa3⟩
    have Sa3 : Str Z h3 a [] := ⟨Nat.zero_le _, by simp, Ea3, Ca3, t, kb, Va3, Aa3⟩
    have L3 : LE Z h3 [("java/lang/String", 7, "", a)] := Or.inr ⟨a, rfl, Sa3⟩
    exact b_return C B0 (by have q0 := (W1).size; have q1 := (W2).size; omega) d_jdk_42_method_149_26 (⟨rfl, S3, _, rfl, L3⟩) (by first | decide | exact Nat.le_of_ble_eq_true rfl) (by first | decide | exact Nat.le_of_ble_eq_true rfl)
set_option maxRecDepth 65536 in
set_option maxHeartbeats 40000000 in
theorem con_i0 (l : Launch) (Z : State) (a0 : Array Value) (hw : ∀ d ∈ tables_1, d.before a0 Z = true)  (h : Heap) (hS : SS Z) (hH : Jvm.Lit.constsHeld consts_1 Z) (hcw : Jvm.Lit.compactW.before a0 Z = true) (x b : Addr) (E : Exa Z h x "java/lang/String") (V : Fld Z h x "java/lang/String" "value" "[B" .null) (Cd : Fld Z h x "java/lang/String" "coder" "B" (.int 0)) (I0 : LL) (hL : LE Z h I0) (A : Af Z h b .char 0 (fun _ => .int 0)) : ConS l Z [x] (⟨"java/lang/String", "<init>", "([C)V"⟩ : MethodName) jdk_42_method_3_code 2 (none) ({ frames := 2, cells := 2, slots := 4, locals := 29 } : Room) #[(.ref x), (.ref b)] h [] (some I0) (fun v h' J => v = none ∧ Str Z h' x [] ∧ ∃ J0, J = some J0 ∧ LE Z h' J0) := by
  refine ConS.of (plainFor_of_name pn0) (Ls := #[.val (.ref x), .val (.ref b)]) (fun m => by first | (simp [entryFrame, mkF, argsToLocals, Value.category]; done) | rfl) ?_
  intro p_ e_ s_ m_ bel_ mt_ cd_ vm0 C B0
  refine g_aload_n C d_jdk_42_method_3_0 rfl rfl (pc' := 1) rfl ?_
  refine g_aload_n C d_jdk_42_method_3_1 rfl rfl (pc' := 2) rfl ?_
  refine g_iconst C d_jdk_42_method_3_2 (x := (0 : Int32)) rfl (pc' := 3) rfl ?_
  refine g_aload_n C d_jdk_42_method_3_3 rfl rfl (pc' := 4) rfl ?_
  refine g_arraylength C (A) (z := (0 : Int32)) rfl d_jdk_42_method_3_4 (pc' := 5) rfl ?_
  refine g_aconst_null C d_jdk_42_method_3_5 (pc' := 6) rfl ?_
  refine b_special C B0 (Nat.le_refl _) (W := 0) (argsL := [(.ref b), (.int (0 : Int32)), (.int (0 : Int32)), .null]) (rest := []) (con_iv0 l Z a0 hw h hS hH hcw x b E V Cd I0 hL) rfl (Wx11 hw) (Wx12 hw) (Wx6 hw) (Wx14 hw) (by first | decide | exact Nat.le_of_ble_eq_true rfl) rfl (lenOf pd0 rfl) rfl (Nat.le_of_eq rfl) d_jdk_42_method_3_6 (pc' := 9) rfl (by first | decide | exact Nat.le_of_ble_eq_true rfl) (by first | decide | exact Nat.le_of_ble_eq_true rfl) (fun y q => Or.inl q) (by first | decide | exact Nat.le_of_ble_eq_true rfl) (by first | decide | exact Nat.le_of_ble_eq_true rfl) ?_
  rintro vm1 _ h1 J C1 B1 ⟨rfl, S, J0, rfl, L1⟩ K
  refine g_norm (cells' := 2) (slots' := 4) (st' := []) (by first | decide | exact Nat.le_of_ble_eq_true rfl) (by first | decide | exact Nat.le_of_ble_eq_true rfl) rfl ?_
  exact b_return C1 B1 (Nat.le_refl _) d_jdk_42_method_3_9 (⟨rfl, S, J0, rfl, L1⟩) (by first | decide | exact Nat.le_of_ble_eq_true rfl) (by first | decide | exact Nat.le_of_ble_eq_true rfl)
set_option maxRecDepth 65536 in
set_option maxHeartbeats 40000000 in
theorem con_can (l : Launch) (Z : State) (a0 : Array Value) (hw : ∀ d ∈ tables_1, d.before a0 Z = true)  (h : Heap) (c : Int32) (hc : ¬ c < 0 ∧ ¬ (255 : Int32) < c) : Con l Z [] (⟨"java/lang/StringLatin1", "canEncode", "(C)Z"⟩ : MethodName) jdk_43_method_3_code 1 ((some Jvm.ClassFile.FieldType.boolean)) ({ frames := 0, cells := 0, slots := 0, locals := 0 } : Room) #[(.int c)] h [] (fun v h' => v = some (.int 1) ∧ h' = h) := by
  refine Con.of (plainFor_of_name pn1) (Ls := #[.val (.int c)]) (fun m => by first | (simp [entryFrame, mkF, argsToLocals, Value.category]; done) | rfl) ?_
  intro p_ e_ s_ m_ bel_ mt_ cd_ C
  refine g_iload_n C d_jdk_43_method_3_0 rfl (pc' := 1) rfl ?_
  refine g_sipush C d_jdk_43_method_3_1 (x := (255 : Int32)) rfl (pc' := 4) rfl ?_
  refine g_if_icmpgt C d_jdk_43_method_3_4 (by first | decide | exact Nat.le_of_ble_eq_true rfl) (pcT := 11) rfl (pcF := 7) rfl (fun zz_ => absurd zz_ (hc.2)) (fun _ => ?_)
  refine g_iconst C d_jdk_43_method_3_7 (x := (1 : Int32)) rfl (pc' := 8) rfl ?_
  refine g_goto C d_jdk_43_method_3_8 (by first | decide | exact Nat.le_of_ble_eq_true rfl) (pc' := 12) rfl ?_
  exact g_ireturnN C (by simp) d_jdk_43_method_3_12 (⟨rfl, rfl⟩) (by first | decide | exact Nat.le_of_ble_eq_true rfl) (by first | decide | exact Nat.le_of_ble_eq_true rfl)
set_option maxRecDepth 65536 in
set_option maxHeartbeats 40000000 in
theorem con_tb (l : Launch) (Z : State) (a0 : Array Value) (hw : ∀ d ∈ tables_1, d.before a0 Z = true)  (h : Heap) (c : Int32) : Con l Z [] (⟨"java/lang/StringLatin1", "toBytes", "(C)[B"⟩ : MethodName) jdk_43_method_46_code 1 ((some (Jvm.ClassFile.FieldType.array Jvm.ClassFile.FieldType.byte))) ({ frames := 0, cells := 1, slots := 1, locals := 0 } : Room) #[(.int c)] h [] (fun v h' => ∃ t, v = some (.ref t) ∧ h.size ≤ t ∧ Af Z h' t .byte 1 (fun _ => .int (c.toInt8.toInt32))) := by
  refine Con.of (plainFor_of_name pn1) (Ls := #[.val (.int c)]) (fun m => by first | (simp [entryFrame, mkF, argsToLocals, Value.category]; done) | rfl) ?_
  intro p_ e_ s_ m_ bel_ mt_ cd_ C
  refine g_iconst C d_jdk_43_method_46_0 (x := (1 : Int32)) rfl (pc' := 1) rfl ?_
  refine g_newarray C (aty := .byte) (n := 1) (Wx19 hw) (by first | decide | exact Nat.le_of_ble_eq_true rfl) rfl (by first | decide | exact Nat.le_of_ble_eq_true rfl) d_jdk_43_method_46_1 (pc' := 3) rfl (by first | decide | exact Nat.le_of_ble_eq_true rfl) (by first | decide | exact Nat.le_of_ble_eq_true rfl) ?_
  intro h1 t ht ht0 X1 A1
  refine g_norm (cells' := 1) (slots' := 1) (st' := [(.ref t)]) (by first | decide | exact Nat.le_of_ble_eq_true rfl) (by first | decide | exact Nat.le_of_ble_eq_true rfl) rfl ?_
  refine g_dup C d_jdk_43_method_46_3 rfl (pc' := 4) rfl ?_
  refine g_iconst C d_jdk_43_method_46_4 (x := (0 : Int32)) rfl (pc' := 5) rfl ?_
  refine g_iload_n C d_jdk_43_method_46_5 rfl (pc' := 6) rfl ?_
  refine g_i2b C d_jdk_43_method_46_6 (pc' := 7) rfl ?_
  refine g_bastore C (A1) (by first | decide | exact Nat.le_of_ble_eq_true rfl) (i := 0) rfl (by first | decide | exact Nat.le_of_ble_eq_true rfl) (Or.inr ht0) d_jdk_43_method_46_7 (pc' := 8) rfl ?_
  intro h2 W1 A2
  exact g_areturn C rfl rfl d_jdk_43_method_46_8 (⟨t, rfl, ht0, A2.congr (g := fun _ => .int (c.toInt8.toInt32)) fun i hi => by obtain rfl : i = 0 := (by omega); rw [upd_same, nar_b]⟩) (by first | decide | exact Nat.le_of_ble_eq_true rfl) (by first | decide | exact Nat.le_of_ble_eq_true rfl)
set_option maxRecDepth 65536 in
set_option maxHeartbeats 40000000 in
theorem con_ibb (l : Launch) (Z : State) (a0 : Array Value) (hw : ∀ d ∈ tables_1, d.before a0 Z = true)  (h : Heap) (x t : Addr) (E : Exa Z h x "java/lang/String") (V : Fld Z h x "java/lang/String" "value" "[B" .null) (Cd : Fld Z h x "java/lang/String" "coder" "B" (.int 0)) : Con l Z [x] (⟨"java/lang/String", "<init>", "([BB)V"⟩ : MethodName) jdk_42_method_151_code 3 (none) ({ frames := 1, cells := 0, slots := 0, locals := 12 } : Room) #[(.ref x), (.ref t), (.int (0 : Int32))] h [] (fun v h' => v = none ∧ Exa Z h' x "java/lang/String" ∧ Fld Z h' x "java/lang/String" "coder" "B" (.int 0) ∧ Fld Z h' x "java/lang/String" "value" "[B" (.ref t)) := by
  refine Con.of (plainFor_of_name pn0) (Ls := #[.val (.ref x), .val (.ref t), .val (.int (0 : Int32))]) (fun m => by first | (simp [entryFrame, mkF, argsToLocals, Value.category]; done) | rfl) ?_
  intro p_ e_ s_ m_ bel_ mt_ cd_ C
  refine g_aload_n C d_jdk_42_method_151_0 rfl rfl (pc' := 1) rfl ?_
  refine g_objinit C (Wx15 hw) (Wx16 hw) (Wx17 hw) rfl (by first | decide | exact Nat.le_of_ble_eq_true rfl) (by first | decide | exact Nat.le_of_ble_eq_true rfl) d_jdk_42_method_151_1 (pc' := 4) rfl ?_
  refine g_aload_n C d_jdk_42_method_151_4 rfl rfl (pc' := 5) rfl ?_
  refine g_aload_n C d_jdk_42_method_151_5 rfl rfl (pc' := 6) rfl ?_
  refine g_putfield C (Wx24 hw) Via.refl (v' := (.ref t)) (V) (E) (Or.inr ⟨(Wx20 hw), rfl, rfl⟩) (Wx5 hw) (ty := (.array .byte)) (by first | decide | exact Nat.le_of_ble_eq_true rfl) rfl rfl (Or.inl (List.mem_cons_self ..)) d_jdk_42_method_151_6 (pc' := 9) rfl ?_
  intro h1 W1
  have E1 := Exa.wr W1 E
  have V1 := Fld.same W1 V
  have D1 := Fld.other W1 Cd (Or.inr (slot_ne (Or.inr (Wx21 hw)) (Or.inr (Wx20 hw)) (by first | decide | exact Nat.le_of_ble_eq_true rfl) (t := .byte) (by first | decide | exact Nat.le_of_ble_eq_true rfl) (t' := (.array .byte)) (by first | decide | exact Nat.le_of_ble_eq_true rfl)))
  refine g_aload_n C d_jdk_42_method_151_9 rfl rfl (pc' := 10) rfl ?_
  refine g_iload_n C d_jdk_42_method_151_10 rfl (pc' := 11) rfl ?_
  refine g_putfield C (Wx25 hw) Via.refl (v' := (.int (0 : Int32))) (D1) (E1) (Or.inr ⟨(Wx21 hw), rfl, rfl⟩) (Wx5 hw) (ty := .byte) (by first | decide | exact Nat.le_of_ble_eq_true rfl) rfl rfl (Or.inl (List.mem_cons_self ..)) d_jdk_42_method_151_11 (pc' := 14) rfl ?_
  intro h2 W2
  have E2 := Exa.wr W2 E1
  have D2 := Fld.same W2 D1
  have V2 := Fld.other W2 V1 (Or.inr (slot_ne (Or.inr (Wx20 hw)) (Or.inr (Wx21 hw)) (by first | decide | exact Nat.le_of_ble_eq_true rfl) (t := (.array .byte)) (by first | decide | exact Nat.le_of_ble_eq_true rfl) (t' := .byte) (by first | decide | exact Nat.le_of_ble_eq_true rfl)))
  exact g_return C d_jdk_42_method_151_14 (⟨rfl, E2, D2, V2⟩) (by first | decide | exact Nat.le_of_ble_eq_true rfl) (by first | decide | exact Nat.le_of_ble_eq_true rfl)
set_option maxRecDepth 65536 in
set_option maxHeartbeats 40000000 in
theorem con_vo (l : Launch) (Z : State) (a0 : Array Value) (hw : ∀ d ∈ tables_1, d.before a0 Z = true)  (h : Heap) (hS : SS Z) (c : Int32) (hc : ¬ c < 0 ∧ ¬ (255 : Int32) < c) : Con l Z [] (⟨"java/lang/String", "valueOf", "(C)Ljava/lang/String;"⟩ : MethodName) jdk_42_method_139_code 1 ((some (Jvm.ClassFile.FieldType.object "java/lang/String"))) ({ frames := 2, cells := 2, slots := 5, locals := 27 } : Room) #[(.int c)] h [] (fun v h' => ∃ x, v = some (.ref x) ∧ Str Z h' x [c]) := by
  refine Con.of (plainFor_of_name pn0) (Ls := #[.val (.int c)]) (fun m => by first | (simp [entryFrame, mkF, argsToLocals, Value.category]; done) | rfl) ?_
  intro p_ e_ s_ m_ bel_ mt_ cd_ C
  obtain ⟨z, fm, O2, P5, O4, rf⟩ := hS
  refine g_ctx C fun K0 E0 => ?_
  refine g_getstatic C (Wx85 hw) Via.refl (O2.ext E0) d_jdk_42_method_139_0 (pc' := 3) rfl ?_
  refine g_ifeq C d_jdk_42_method_139_3 (by first | decide | exact Nat.le_of_ble_eq_true rfl) (pcT := 26) rfl (pcF := 6) rfl (fun zz_ => absurd zz_ (P5)) (fun _ => ?_)
  refine g_iload_n C d_jdk_42_method_139_6 rfl (pc' := 7) rfl ?_
  refine g_staticC C (W := 0) (argsL := [(.int c)]) (rest := []) (con_can l Z a0 hw h c hc) (Wx202 hw) (Wx203 hw) (Wx176 hw) (Wx204 hw) (by first | decide | exact Nat.le_of_ble_eq_true rfl) rfl (lenOf pd1 rfl) rfl (Nat.le_of_eq rfl) d_jdk_42_method_139_7 (pc' := 10) rfl (by first | decide | exact Nat.le_of_ble_eq_true rfl) (by first | decide | exact Nat.le_of_ble_eq_true rfl) (fun _ q => nomatch q) (by first | decide | exact Nat.le_of_ble_eq_true rfl) (by first | decide | exact Nat.le_of_ble_eq_true rfl) ?_
  rintro _ hh ⟨rfl, eh_⟩ K
  subst hh
  refine g_norm (cells' := 0) (slots' := 0) (st' := [(.int (1 : Int32))]) (by first | decide | exact Nat.le_of_ble_eq_true rfl) (by first | decide | exact Nat.le_of_ble_eq_true rfl) rfl ?_
  refine g_ifeq C d_jdk_42_method_139_10 (by first | decide | exact Nat.le_of_ble_eq_true rfl) (pcT := 26) rfl (pcF := 13) rfl (fun zz_ => absurd zz_ (by first | decide | exact Nat.le_of_ble_eq_true rfl)) (fun _ => ?_)
  refine g_new C (Wx205 hw) (Wx5 hw) (Wx6 hw) d_jdk_42_method_139_13 (pc' := 16) rfl (by first | decide | exact Nat.le_of_ble_eq_true rfl) (by first | decide | exact Nat.le_of_ble_eq_true rfl) ?_
  intro h1 x hx hx0 X1 E1 D1
  refine g_norm (cells' := 1) (slots' := 4) (st' := [(.ref x)]) (by first | decide | exact Nat.le_of_ble_eq_true rfl) (by first | decide | exact Nat.le_of_ble_eq_true rfl) rfl ?_
  refine g_dup C d_jdk_42_method_139_16 rfl (pc' := 17) rfl ?_
  refine g_iload_n C d_jdk_42_method_139_17 rfl (pc' := 18) rfl ?_
  refine g_staticC C (W := 2) (argsL := [(.int c)]) (rest := [(.ref x), (.ref x)]) (con_tb l Z a0 hw h1 c) (Wx206 hw) (Wx207 hw) (Wx176 hw) (Wx208 hw) (by first | decide | exact Nat.le_of_ble_eq_true rfl) rfl (lenOf pd2 rfl) rfl (Nat.le_of_eq rfl) d_jdk_42_method_139_18 (pc' := 21) rfl (by first | decide | exact Nat.le_of_ble_eq_true rfl) (by first | decide | exact Nat.le_of_ble_eq_true rfl) (fun _ q => nomatch q) (by first | decide | exact Nat.le_of_ble_eq_true rfl) (by first | decide | exact Nat.le_of_ble_eq_true rfl) ?_
  rintro _ h2 ⟨t, rfl, ht0, At⟩ K2
  refine g_norm (cells' := 2) (slots' := 5) (st' := [(.ref t), (.ref x), (.ref x)]) (by first | decide | exact Nat.le_of_ble_eq_true rfl) (by first | decide | exact Nat.le_of_ble_eq_true rfl) rfl ?_
  have E2 := E1.keep K2
  have V2 := (D1 (Or.inr (Wx20 hw)) (ty := (.array .byte)) (by first | decide | exact Nat.le_of_ble_eq_true rfl)).keep K2 (by simp)
  have G2 := (D1 (Or.inr (Wx21 hw)) (ty := .byte) (by first | decide | exact Nat.le_of_ble_eq_true rfl)).keep K2 (by simp)
  refine g_iconst C d_jdk_42_method_139_21 (x := (0 : Int32)) rfl (pc' := 22) rfl ?_
  refine g_specialC C (W := 1) (argsL := [(.ref t), (.int (0 : Int32))]) (rest := [(.ref x)]) (con_ibb l Z a0 hw h2 x t E2 V2 G2) rfl (Wx209 hw) (Wx210 hw) (Wx6 hw) (Wx211 hw) (by first | decide | exact Nat.le_of_ble_eq_true rfl) rfl (lenOf pd3 rfl) rfl (Nat.le_of_eq rfl) d_jdk_42_method_139_22 (pc' := 25) rfl (by first | decide | exact Nat.le_of_ble_eq_true rfl) (by first | decide | exact Nat.le_of_ble_eq_true rfl) (fun y q => by cases List.mem_singleton.mp q; exact Or.inr hx0) (by first | decide | exact Nat.le_of_ble_eq_true rfl) (by first | decide | exact Nat.le_of_ble_eq_true rfl) ?_
  rintro _ h3 ⟨rfl, E3, G3, V3⟩ K3
  refine g_norm (cells' := 2) (slots' := 5) (st' := [(.ref x)]) (by first | decide | exact Nat.le_of_ble_eq_true rfl) (by first | decide | exact Nat.le_of_ble_eq_true rfl) rfl ?_
  have hxt : t ∉ [x] := fun q => by cases List.mem_singleton.mp q; exact absurd E1.lt (Nat.not_lt.mpr ht0)
  have A3 := At.keep K3 hxt
  obtain ⟨kb, A4⟩ := bytes_str (cs := [c]) A3 (fun i hi => by obtain rfl : i = 0 := (by simpa using hi); rfl)
  exact g_areturn C rfl rfl d_jdk_42_method_139_25 (⟨x, rfl, by simp, fun d hd => by cases List.mem_singleton.mp hd; exact hc, E3, G3, t, kb, V3, A4⟩) (by first | decide | exact Nat.le_of_ble_eq_true rfl) (by first | decide | exact Nat.le_of_ble_eq_true rfl)
set_option maxRecDepth 65536 in
set_option maxHeartbeats 40000000 in
theorem con_str (l : Launch) (Z : State) (a0 : Array Value) (hw : ∀ d ∈ tables_1, d.before a0 Z = true)  (h : Heap) (hS : SS Z) (hH : Jvm.Lit.constsHeld consts_1 Z) (hcw : Jvm.Lit.compactW.before a0 Z = true) (n : Nat) (hn : n ≤ 2) (c0 c1 : Int32) (g0 : Lt1 c0) (g1 : Lt1 c1) (I0 : LL) (hL : LE Z h I0) : ConS l Z [] (⟨"com/example/naviglio/naviglio/DirtyReadsReadsCommittedPinLaw", "str", "(ICC)Ljava/lang/String;"⟩ : MethodName) method_3_code 3 ((some (Jvm.ClassFile.FieldType.object "java/lang/String"))) ({ frames := 4, cells := 4, slots := 8, locals := 66 } : Room) #[(.int (Int32.ofNat n)), (.int c0), (.int c1)] h [] (some I0) (fun v h' J => ∃ x, v = some (.ref x) ∧ Str Z h' x (strL n c0 c1) ∧ ∃ J0, J = some J0 ∧ LE Z h' J0) := by
  refine ConS.of (plainFor_of_name pn2) (Ls := #[.val (.int (Int32.ofNat n)), .val (.int c0), .val (.int c1)]) (fun m => by first | (simp [entryFrame, mkF, argsToLocals, Value.category]; done) | rfl) ?_
  intro p_ e_ s_ m_ bel_ mt_ cd_ vm0 C B0
  obtain rfl | rfl | rfl : n = 0 ∨ n = 1 ∨ n = 2 := by omega
  · show G p_ l e_ _ (s_.setVm vm0) m_ _ bel_ mt_ cd_ _ _ h 0 0 0 #[.val (.int (0 : Int32)), .val (.int c0), .val (.int c1)] []
    refine g_iload_n C d_method_3_0 rfl (pc' := 1) rfl ?_
    refine g_ifne C d_method_3_1 (by first | decide | exact Nat.le_of_ble_eq_true rfl) (pcT := 15) rfl (pcF := 4) rfl (fun zz_ => absurd (rfl) zz_) (fun _ => ?_)
    refine g_new C (Wx4 hw) (Wx5 hw) (Wx6 hw) d_method_3_4 (pc' := 7) rfl (by first | decide | exact Nat.le_of_ble_eq_true rfl) (by first | decide | exact Nat.le_of_ble_eq_true rfl) ?_
    intro h1 x hx hx0 X1 E1 D1
    refine g_norm (cells' := 1) (slots' := 4) (st' := [(.ref x)]) (by first | decide | exact Nat.le_of_ble_eq_true rfl) (by first | decide | exact Nat.le_of_ble_eq_true rfl) rfl ?_
    refine g_dup C d_method_3_7 rfl (pc' := 8) rfl ?_
    refine g_iconst C d_method_3_8 (x := (0 : Int32)) rfl (pc' := 9) rfl ?_
    refine g_newarray C (aty := .char) (n := 0) (Wx7 hw) (by first | decide | exact Nat.le_of_ble_eq_true rfl) rfl (by first | decide | exact Nat.le_of_ble_eq_true rfl) d_method_3_9 (pc' := 11) rfl (by first | decide | exact Nat.le_of_ble_eq_true rfl) (by first | decide | exact Nat.le_of_ble_eq_true rfl) ?_
    intro h2 bb hb2 hb0 X2 A2
    refine g_norm (cells' := 2) (slots' := 4) (st' := [(.ref bb), (.ref x), (.ref x)]) (by first | decide | exact Nat.le_of_ble_eq_true rfl) (by first | decide | exact Nat.le_of_ble_eq_true rfl) rfl ?_
    have E2 := E1.ext X2
    have V2 := (D1 (Or.inr (Wx20 hw)) (ty := (.array .byte)) (by first | decide | exact Nat.le_of_ble_eq_true rfl)).ext X2
    have G2 := (D1 (Or.inr (Wx21 hw)) (ty := .byte) (by first | decide | exact Nat.le_of_ble_eq_true rfl)).ext X2
    refine b_special C B0 (by have q0 := (X1).1; have q1 := (X2).1; omega) (W := 1) (argsL := [(.ref bb)]) (rest := [(.ref x)]) (con_i0 l Z a0 hw h2 hS hH hcw x bb E2 V2 G2 I0 ((hL.ext X1).ext X2) A2) rfl (Wx8 hw) (Wx9 hw) (Wx6 hw) (Wx10 hw) (by first | decide | exact Nat.le_of_ble_eq_true rfl) rfl (lenOf pd4 rfl) rfl (Nat.le_of_eq rfl) d_method_3_11 (pc' := 14) rfl (by first | decide | exact Nat.le_of_ble_eq_true rfl) (by first | decide | exact Nat.le_of_ble_eq_true rfl) (fun y q => by cases List.mem_singleton.mp q; exact Or.inr hx0) (by first | decide | exact Nat.le_of_ble_eq_true rfl) (by first | decide | exact Nat.le_of_ble_eq_true rfl) ?_
    rintro vm1 _ h3 J C1 B1 ⟨rfl, S, J0, rfl, L1⟩ K
    refine g_norm (cells' := 4) (slots' := 8) (st' := [(.ref x)]) (by first | decide | exact Nat.le_of_ble_eq_true rfl) (by first | decide | exact Nat.le_of_ble_eq_true rfl) rfl ?_
    exact b_areturn C1 B1 (Nat.le_refl _) rfl rfl d_method_3_14 (⟨x, rfl, S, J0, rfl, L1⟩) (by first | decide | exact Nat.le_of_ble_eq_true rfl) (by first | decide | exact Nat.le_of_ble_eq_true rfl)
  · show G p_ l e_ _ (s_.setVm vm0) m_ _ bel_ mt_ cd_ _ _ h 0 0 0 #[.val (.int (1 : Int32)), .val (.int c0), .val (.int c1)] []
    refine g_iload_n C d_method_3_0 rfl (pc' := 1) rfl ?_
    refine g_ifne C d_method_3_1 (by first | decide | exact Nat.le_of_ble_eq_true rfl) (pcT := 15) rfl (pcF := 4) rfl (fun _ => ?_) (fun zz_ => absurd zz_ (by first | decide | exact Nat.le_of_ble_eq_true rfl))
    refine g_iload_n C d_method_3_15 rfl (pc' := 16) rfl ?_
    refine g_iconst C d_method_3_16 (x := (1 : Int32)) rfl (pc' := 17) rfl ?_
    refine g_if_icmpne C d_method_3_17 (by first | decide | exact Nat.le_of_ble_eq_true rfl) (pcT := 25) rfl (pcF := 20) rfl (fun zz_ => absurd (by first | decide | exact Nat.le_of_ble_eq_true rfl) zz_) (fun _ => ?_)
    refine g_iload_n C d_method_3_20 rfl (pc' := 21) rfl ?_
    refine g_staticC C (W := 0) (argsL := [(.int c0)]) (rest := []) (con_vo l Z a0 hw h hS c0 g0.ok) (Wx199 hw) (Wx200 hw) (Wx6 hw) (Wx201 hw) (by first | decide | exact Nat.le_of_ble_eq_true rfl) rfl (lenOf pd5 rfl) rfl (Nat.le_of_eq rfl) d_method_3_21 (pc' := 24) rfl (by first | decide | exact Nat.le_of_ble_eq_true rfl) (by first | decide | exact Nat.le_of_ble_eq_true rfl) (fun _ q => nomatch q) (by first | decide | exact Nat.le_of_ble_eq_true rfl) (by first | decide | exact Nat.le_of_ble_eq_true rfl) ?_
    rintro _ h1 ⟨x, rfl, S⟩ K1
    refine g_norm (cells' := 2) (slots' := 5) (st' := [(.ref x)]) (by first | decide | exact Nat.le_of_ble_eq_true rfl) (by first | decide | exact Nat.le_of_ble_eq_true rfl) rfl ?_
    exact b_areturn C B0 (by have q0 := (K1).1; omega) rfl rfl d_method_3_24 (⟨x, rfl, S, I0, rfl, hL.keep K1 (by simp)⟩) (by first | decide | exact Nat.le_of_ble_eq_true rfl) (by first | decide | exact Nat.le_of_ble_eq_true rfl)
  · show G p_ l e_ _ (s_.setVm vm0) m_ _ bel_ mt_ cd_ _ _ h 0 0 0 #[.val (.int (2 : Int32)), .val (.int c0), .val (.int c1)] []
    refine g_iload_n C d_method_3_0 rfl (pc' := 1) rfl ?_
    refine g_ifne C d_method_3_1 (by first | decide | exact Nat.le_of_ble_eq_true rfl) (pcT := 15) rfl (pcF := 4) rfl (fun _ => ?_) (fun zz_ => absurd zz_ (by first | decide | exact Nat.le_of_ble_eq_true rfl))
    refine g_iload_n C d_method_3_15 rfl (pc' := 16) rfl ?_
    refine g_iconst C d_method_3_16 (x := (1 : Int32)) rfl (pc' := 17) rfl ?_
    refine g_if_icmpne C d_method_3_17 (by first | decide | exact Nat.le_of_ble_eq_true rfl) (pcT := 25) rfl (pcF := 20) rfl (fun _ => ?_) (fun zz_ => absurd zz_ (by first | decide | exact Nat.le_of_ble_eq_true rfl))
    refine g_new C (Wx4 hw) (Wx5 hw) (Wx6 hw) d_method_3_25 (pc' := 28) rfl (by first | decide | exact Nat.le_of_ble_eq_true rfl) (by first | decide | exact Nat.le_of_ble_eq_true rfl) ?_
    intro h1 x hx hx0 X1 E1 D1
    refine g_norm (cells' := 1) (slots' := 4) (st' := [(.ref x)]) (by first | decide | exact Nat.le_of_ble_eq_true rfl) (by first | decide | exact Nat.le_of_ble_eq_true rfl) rfl ?_
    refine g_dup C d_method_3_28 rfl (pc' := 29) rfl ?_
    refine g_iconst C d_method_3_29 (x := (2 : Int32)) rfl (pc' := 30) rfl ?_
    refine g_newarray C (aty := .char) (n := 2) (Wx7 hw) (by first | decide | exact Nat.le_of_ble_eq_true rfl) rfl (by first | decide | exact Nat.le_of_ble_eq_true rfl) d_method_3_30 (pc' := 32) rfl (by first | decide | exact Nat.le_of_ble_eq_true rfl) (by first | decide | exact Nat.le_of_ble_eq_true rfl) ?_
    intro h2 bb hb2 hb0 X2 A2
    refine g_norm (cells' := 2) (slots' := 6) (st' := [(.ref bb), (.ref x), (.ref x)]) (by first | decide | exact Nat.le_of_ble_eq_true rfl) (by first | decide | exact Nat.le_of_ble_eq_true rfl) rfl ?_
    refine g_dup C d_method_3_32 rfl (pc' := 33) rfl ?_
    refine g_iconst C d_method_3_33 (x := (0 : Int32)) rfl (pc' := 34) rfl ?_
    refine g_iload_n C d_method_3_34 rfl (pc' := 35) rfl ?_
    refine g_castore C (A2) (by first | decide | exact Nat.le_of_ble_eq_true rfl) (i := 0) rfl (by first | decide | exact Nat.le_of_ble_eq_true rfl) (Or.inr hb0) d_method_3_35 (pc' := 36) rfl ?_
    intro h3 W1 A3
    refine g_dup C d_method_3_36 rfl (pc' := 37) rfl ?_
    refine g_iconst C d_method_3_37 (x := (1 : Int32)) rfl (pc' := 38) rfl ?_
    refine g_iload_n C d_method_3_38 rfl (pc' := 39) rfl ?_
    refine g_castore C (A3) (by first | decide | exact Nat.le_of_ble_eq_true rfl) (i := 1) rfl (by first | decide | exact Nat.le_of_ble_eq_true rfl) (Or.inr hb0) d_method_3_39 (pc' := 40) rfl ?_
    intro h4 W2 A4
    rw [g0.nar, g1.nar] at A4
    have hxb : x ≠ bb := by rw [hb2]; exact Nat.ne_of_lt E1.lt
    have E4 := Exa.wr W2 (Exa.wr W1 (E1.ext X2))
    have V4 := Fld.other W2 (Fld.other W1 ((D1 (Or.inr (Wx20 hw)) (ty := (.array .byte)) (by first | decide | exact Nat.le_of_ble_eq_true rfl)).ext X2) (Or.inl hxb)) (Or.inl hxb)
    have G4 := Fld.other W2 (Fld.other W1 ((D1 (Or.inr (Wx21 hw)) (ty := .byte) (by first | decide | exact Nat.le_of_ble_eq_true rfl)).ext X2) (Or.inl hxb)) (Or.inl hxb)
    refine g_newstr C hS (n := 2) (cs := [c0, c1]) (Ws_backV hw) (Wx5 hw) (Wx8 hw) (Wx9 hw) (Wx10 hw) (E4) (V4) (G4) (A4) (rfl) (by first | decide | exact Nat.le_of_ble_eq_true rfl) (by first | decide | exact Nat.le_of_ble_eq_true rfl) (strL_ok (n := 2) g0 g1) hx0 rfl d_method_3_40 (pc' := 43) rfl (by first | decide | exact Nat.le_of_ble_eq_true rfl) (by first | decide | exact Nat.le_of_ble_eq_true rfl) (by first | decide | exact Nat.le_of_ble_eq_true rfl) (by first | decide | exact Nat.le_of_ble_eq_true rfl) ?_
    intro h5 K5 S5
    refine g_norm (cells' := 3) (slots' := 8) (st' := [(.ref x)]) (by first | decide | exact Nat.le_of_ble_eq_true rfl) (by first | decide | exact Nat.le_of_ble_eq_true rfl) rfl ?_
    refine g_ctx C fun K0 E0 => ?_
    exact b_areturn C B0 (by have q0 := (X1).1; have q1 := (X2).1; have q2 := (W1).size; have q3 := (W2).size; have q4 := (K5).1; omega) rfl rfl d_method_3_43 (⟨x, rfl, S5, I0, rfl, hL.keep K0 (by simp)⟩) (by first | decide | exact Nat.le_of_ble_eq_true rfl) (by first | decide | exact Nat.le_of_ble_eq_true rfl)
set_option maxRecDepth 65536 in
set_option maxHeartbeats 40000000 in
theorem con_rec (l : Launch) (Z : State) (a0 : Array Value) (hw : ∀ d ∈ tables_1, d.before a0 Z = true)  (h : Heap) (x : Addr) : Con l Z [] (⟨"java/lang/Record", "<init>", "()V"⟩ : MethodName) jdk_30_method_1_code 1 (none) ({ frames := 1, cells := 0, slots := 0, locals := 12 } : Room) #[(.ref x)] h [] (fun v h' => v = none ∧ h' = h) := by
  refine Con.of (plainFor_of_name pn3) (Ls := #[.val (.ref x)]) (fun m => by first | (simp [entryFrame, mkF, argsToLocals, Value.category]; done) | rfl) ?_
  intro p_ e_ s_ m_ bel_ mt_ cd_ C
  refine g_aload_n C d_jdk_30_method_1_0 rfl rfl (pc' := 1) rfl ?_
  refine g_objinit C (Wx37 hw) (Wx16 hw) (Wx17 hw) rfl (by first | decide | exact Nat.le_of_ble_eq_true rfl) (by first | decide | exact Nat.le_of_ble_eq_true rfl) d_jdk_30_method_1_1 (pc' := 4) rfl ?_
  exact g_return C d_jdk_30_method_1_4 (⟨rfl, rfl⟩) (by first | decide | exact Nat.le_of_ble_eq_true rfl) (by first | decide | exact Nat.le_of_ble_eq_true rfl)
set_option maxRecDepth 65536 in
set_option maxHeartbeats 40000000 in
theorem con_dr (l : Launch) (Z : State) (a0 : Array Value) (hw : ∀ d ∈ tables_1, d.before a0 Z = true)  (h : Heap) (x a b : Addr) (E : Exa Z h x "com/example/naviglio/naviglio/Dialect$DirtyReads") (F1 : Fld Z h x "com/example/naviglio/naviglio/Dialect$DirtyReads" "isolation" "Ljava/lang/String;" .null) (F2 : Fld Z h x "com/example/naviglio/naviglio/Dialect$DirtyReads" "readUncommitted" "Ljava/lang/String;" .null) : Con l Z [x] (⟨"com/example/naviglio/naviglio/Dialect$DirtyReads", "<init>", "(Ljava/lang/String;Ljava/lang/String;)V"⟩ : MethodName) prog_11_method_1_code 3 (none) ({ frames := 2, cells := 0, slots := 0, locals := 24 } : Room) #[(.ref x), (.ref a), (.ref b)] h [] (fun v h' => v = none ∧ Exa Z h' x "com/example/naviglio/naviglio/Dialect$DirtyReads" ∧ Fld Z h' x "com/example/naviglio/naviglio/Dialect$DirtyReads" "isolation" "Ljava/lang/String;" (.ref a) ∧ Fld Z h' x "com/example/naviglio/naviglio/Dialect$DirtyReads" "readUncommitted" "Ljava/lang/String;" (.ref b)) := by
  refine Con.of (plainFor_of_name pn4) (Ls := #[.val (.ref x), .val (.ref a), .val (.ref b)]) (fun m => by first | (simp [entryFrame, mkF, argsToLocals, Value.category]; done) | rfl) ?_
  intro p_ e_ s_ m_ bel_ mt_ cd_ C
  refine g_aload_n C d_prog_11_method_1_0 rfl rfl (pc' := 1) rfl ?_
  refine g_specialC C (W := 0) (argsL := []) (rest := []) (con_rec l Z a0 hw h x) rfl (Wx32 hw) (Wx33 hw) (Wx35 hw) (Wx36 hw) (by first | decide | exact Nat.le_of_ble_eq_true rfl) rfl (lenOf pd6 rfl) rfl (Nat.le_of_eq rfl) d_prog_11_method_1_1 (pc' := 4) rfl (by first | decide | exact Nat.le_of_ble_eq_true rfl) (by first | decide | exact Nat.le_of_ble_eq_true rfl) (fun _ q => nomatch q) (by first | decide | exact Nat.le_of_ble_eq_true rfl) (by first | decide | exact Nat.le_of_ble_eq_true rfl) ?_
  rintro _ hh ⟨rfl, eh_⟩ K
  subst hh
  refine g_norm (cells' := 0) (slots' := 0) (st' := []) (by first | decide | exact Nat.le_of_ble_eq_true rfl) (by first | decide | exact Nat.le_of_ble_eq_true rfl) rfl ?_
  refine g_aload_n C d_prog_11_method_1_4 rfl rfl (pc' := 5) rfl ?_
  refine g_aload_n C d_prog_11_method_1_5 rfl rfl (pc' := 6) rfl ?_
  refine g_putfield C (Wx38 hw) Via.refl (v' := (.ref a)) (F1) (E) (Or.inr ⟨(Wx39 hw), rfl, rfl⟩) (Wx27 hw) (ty := (.object "java/lang/String")) (by first | decide | exact Nat.le_of_ble_eq_true rfl) rfl rfl (Or.inl (List.mem_cons_self ..)) d_prog_11_method_1_6 (pc' := 9) rfl ?_
  intro h1 W1
  have E1 := Exa.wr W1 E
  have G1 := Fld.same W1 F1
  have G2 := Fld.other W1 F2 (Or.inr (slot_ne (Or.inr (Wx41 hw)) (Or.inr (Wx39 hw)) (by first | decide | exact Nat.le_of_ble_eq_true rfl) (t := (.object "java/lang/String")) (by first | decide | exact Nat.le_of_ble_eq_true rfl) (t' := (.object "java/lang/String")) (by first | decide | exact Nat.le_of_ble_eq_true rfl)))
  refine g_aload_n C d_prog_11_method_1_9 rfl rfl (pc' := 10) rfl ?_
  refine g_aload_n C d_prog_11_method_1_10 rfl rfl (pc' := 11) rfl ?_
  refine g_putfield C (Wx40 hw) Via.refl (v' := (.ref b)) (G2) (E1) (Or.inr ⟨(Wx41 hw), rfl, rfl⟩) (Wx27 hw) (ty := (.object "java/lang/String")) (by first | decide | exact Nat.le_of_ble_eq_true rfl) rfl rfl (Or.inl (List.mem_cons_self ..)) d_prog_11_method_1_11 (pc' := 14) rfl ?_
  intro h2 W2
  have E2 := Exa.wr W2 E1
  have G4 := Fld.same W2 G2
  have G3 := Fld.other W2 G1 (Or.inr (slot_ne (Or.inr (Wx39 hw)) (Or.inr (Wx41 hw)) (by first | decide | exact Nat.le_of_ble_eq_true rfl) (t := (.object "java/lang/String")) (by first | decide | exact Nat.le_of_ble_eq_true rfl) (t' := (.object "java/lang/String")) (by first | decide | exact Nat.le_of_ble_eq_true rfl)))
  exact g_return C d_prog_11_method_1_14 (⟨rfl, E2, G3, G4⟩) (by first | decide | exact Nat.le_of_ble_eq_true rfl) (by first | decide | exact Nat.le_of_ble_eq_true rfl)
set_option maxRecDepth 65536 in
set_option maxHeartbeats 40000000 in
theorem con_asb (l : Launch) (Z : State) (a0 : Array Value) (hw : ∀ d ∈ tables_1, d.before a0 Z = true)  (h : Heap) (hS : SS Z) (b : Addr) (E : Exa Z h b "java/lang/StringBuilder") (FV : Fld Z h b "java/lang/AbstractStringBuilder" "value" "[B" .null) (FC : Fld Z h b "java/lang/AbstractStringBuilder" "coder" "B" (.int 0)) (FN : Fld Z h b "java/lang/AbstractStringBuilder" "count" "I" (.int 0)) : Con l Z [b] (⟨"java/lang/AbstractStringBuilder", "<init>", "(I)V"⟩ : MethodName) jdk_68_method_2_code 2 (none) ({ frames := 1, cells := 1, slots := 16, locals := 12 } : Room) #[(.ref b), (.int (16 : Int32))] h [] (fun v h' => v = none ∧ ∃ t, h.size ≤ t ∧ Sb Z h' b t []) := by
  refine Con.of (plainFor_of_name pn5) (Ls := #[.val (.ref b), .val (.int (16 : Int32))]) (fun m => by first | (simp [entryFrame, mkF, argsToLocals, Value.category]; done) | rfl) ?_
  intro p_ e_ s_ m_ bel_ mt_ cd_ C
  refine g_aload_n C d_jdk_68_method_2_0 rfl rfl (pc' := 1) rfl ?_
  refine g_objinit C (Wx59 hw) (Wx16 hw) (Wx17 hw) rfl (by first | decide | exact Nat.le_of_ble_eq_true rfl) (by first | decide | exact Nat.le_of_ble_eq_true rfl) d_jdk_68_method_2_1 (pc' := 4) rfl ?_
  obtain ⟨z, fm, O2, P5, O4, rf⟩ := hS
  refine g_ctx C fun K0 E0 => ?_
  refine g_getstatic C (Wx60 hw) Via.refl (O2.ext E0) d_jdk_68_method_2_4 (pc' := 7) rfl ?_
  refine g_ifeq C d_jdk_68_method_2_7 (by first | decide | exact Nat.le_of_ble_eq_true rfl) (pcT := 25) rfl (pcF := 10) rfl (fun zz_ => absurd zz_ (P5)) (fun _ => ?_)
  refine g_aload_n C d_jdk_68_method_2_10 rfl rfl (pc' := 11) rfl ?_
  refine g_iload_n C d_jdk_68_method_2_11 rfl (pc' := 12) rfl ?_
  refine g_newarray C (aty := .byte) (n := 16) (Wx19 hw) (by first | decide | exact Nat.le_of_ble_eq_true rfl) rfl (by first | decide | exact Nat.le_of_ble_eq_true rfl) d_jdk_68_method_2_12 (pc' := 14) rfl (by first | decide | exact Nat.le_of_ble_eq_true rfl) (by first | decide | exact Nat.le_of_ble_eq_true rfl) ?_
  intro h1 t ht ht0 X1 A1
  refine g_norm (cells' := 1) (slots' := 16) (st' := [(.ref t), (.ref b)]) (by first | decide | exact Nat.le_of_ble_eq_true rfl) (by first | decide | exact Nat.le_of_ble_eq_true rfl) rfl ?_
  have E1 := E.ext X1
  have F1 := FV.ext X1
  have G1 := FC.ext X1
  have N1 := FN.ext X1
  have hbt : t ≠ b := by rw [ht]; exact (Nat.ne_of_lt E.lt).symm
  refine g_putfield C (Wx61 hw) Via.refl (v' := (.ref t)) (F1) (E1) (Or.inl (Wx62 hw)) (Wx48 hw) (ty := (.array .byte)) (by first | decide | exact Nat.le_of_ble_eq_true rfl) rfl rfl (Or.inl (List.mem_cons_self ..)) d_jdk_68_method_2_14 (pc' := 17) rfl ?_
  intro h2 W1
  have E2 := Exa.wr W1 E1
  have F2 := Fld.same W1 F1
  have G2 := Fld.other W1 G1 (Or.inr (slot_ne (Or.inl (Wx64 hw)) (Or.inl (Wx62 hw)) (by first | decide | exact Nat.le_of_ble_eq_true rfl) (t := .byte) (by first | decide | exact Nat.le_of_ble_eq_true rfl) (t' := (.array .byte)) (by first | decide | exact Nat.le_of_ble_eq_true rfl)))
  have N2 := Fld.other W1 N1 (Or.inr (slot_ne (Or.inl (Wx87 hw)) (Or.inl (Wx62 hw)) (by first | decide | exact Nat.le_of_ble_eq_true rfl) (t := .int) (by first | decide | exact Nat.le_of_ble_eq_true rfl) (t' := (.array .byte)) (by first | decide | exact Nat.le_of_ble_eq_true rfl)))
  have A2 := A1.other W1 hbt
  refine g_aload_n C d_jdk_68_method_2_17 rfl rfl (pc' := 18) rfl ?_
  refine g_iconst C d_jdk_68_method_2_18 (x := (0 : Int32)) rfl (pc' := 19) rfl ?_
  refine g_putfield C (Wx63 hw) Via.refl (v' := (.int (0 : Int32))) (G2) (E2) (Or.inl (Wx64 hw)) (Wx48 hw) (ty := .byte) (by first | decide | exact Nat.le_of_ble_eq_true rfl) rfl rfl (Or.inl (List.mem_cons_self ..)) d_jdk_68_method_2_19 (pc' := 22) rfl ?_
  intro h3 W2
  have E3 := Exa.wr W2 E2
  have G3 := Fld.same W2 G2
  have F3 := Fld.other W2 F2 (Or.inr (slot_ne (Or.inl (Wx62 hw)) (Or.inl (Wx64 hw)) (by first | decide | exact Nat.le_of_ble_eq_true rfl) (t := (.array .byte)) (by first | decide | exact Nat.le_of_ble_eq_true rfl) (t' := .byte) (by first | decide | exact Nat.le_of_ble_eq_true rfl)))
  have N3 := Fld.other W2 N2 (Or.inr (slot_ne (Or.inl (Wx87 hw)) (Or.inl (Wx64 hw)) (by first | decide | exact Nat.le_of_ble_eq_true rfl) (t := .int) (by first | decide | exact Nat.le_of_ble_eq_true rfl) (t' := .byte) (by first | decide | exact Nat.le_of_ble_eq_true rfl)))
  have A3 := A2.other W2 hbt
  refine g_goto C d_jdk_68_method_2_22 (by first | decide | exact Nat.le_of_ble_eq_true rfl) (pc' := 38) rfl ?_
  exact g_return C d_jdk_68_method_2_38 (⟨rfl, t, ht0, E3, N3, G3, F3, _, A3, fun i hi => absurd hi (Nat.not_lt_zero _)⟩) (by first | decide | exact Nat.le_of_ble_eq_true rfl) (by first | decide | exact Nat.le_of_ble_eq_true rfl)
set_option maxRecDepth 65536 in
set_option maxHeartbeats 40000000 in
theorem con_sb (l : Launch) (Z : State) (a0 : Array Value) (hw : ∀ d ∈ tables_1, d.before a0 Z = true)  (h : Heap) (hS : SS Z) (b : Addr) (E : Exa Z h b "java/lang/StringBuilder") (FV : Fld Z h b "java/lang/AbstractStringBuilder" "value" "[B" .null) (FC : Fld Z h b "java/lang/AbstractStringBuilder" "coder" "B" (.int 0)) (FN : Fld Z h b "java/lang/AbstractStringBuilder" "count" "I" (.int 0)) : Con l Z [b] (⟨"java/lang/StringBuilder", "<init>", "()V"⟩ : MethodName) jdk_67_method_1_code 1 (none) ({ frames := 2, cells := 1, slots := 16, locals := 25 } : Room) #[(.ref b)] h [] (fun v h' => v = none ∧ ∃ t, h.size ≤ t ∧ Sb Z h' b t []) := by
  refine Con.of (plainFor_of_name pn6) (Ls := #[.val (.ref b)]) (fun m => by first | (simp [entryFrame, mkF, argsToLocals, Value.category]; done) | rfl) ?_
  intro p_ e_ s_ m_ bel_ mt_ cd_ C
  refine g_aload_n C d_jdk_67_method_1_0 rfl rfl (pc' := 1) rfl ?_
  refine g_bipush C d_jdk_67_method_1_1 (x := (16 : Int32)) rfl (pc' := 3) rfl ?_
  refine g_specialC C (W := 0) (argsL := [(.int (16 : Int32))]) (rest := []) (con_asb l Z a0 hw h hS b E FV FC FN) rfl (Wx53 hw) (Wx54 hw) (Wx57 hw) (Wx58 hw) (by first | decide | exact Nat.le_of_ble_eq_true rfl) rfl (lenOf pd7 rfl) rfl (Nat.le_of_eq rfl) d_jdk_67_method_1_3 (pc' := 6) rfl (by first | decide | exact Nat.le_of_ble_eq_true rfl) (by first | decide | exact Nat.le_of_ble_eq_true rfl) (fun y q => Or.inl q) (by first | decide | exact Nat.le_of_ble_eq_true rfl) (by first | decide | exact Nat.le_of_ble_eq_true rfl) ?_
  rintro _ h1 ⟨rfl, t, ht, S⟩ K
  refine g_norm (cells' := 1) (slots' := 16) (st' := []) (by first | decide | exact Nat.le_of_ble_eq_true rfl) (by first | decide | exact Nat.le_of_ble_eq_true rfl) rfl ?_
  exact g_return C d_jdk_67_method_1_6 (⟨rfl, t, ht, S⟩) (by first | decide | exact Nat.le_of_ble_eq_true rfl) (by first | decide | exact Nat.le_of_ble_eq_true rfl)
set_option maxRecDepth 65536 in
set_option maxHeartbeats 40000000 in
theorem con_coder (l : Launch) (Z : State) (a0 : Array Value) (hw : ∀ d ∈ tables_1, d.before a0 Z = true)  (h : Heap) (hS : SS Z) (x : Addr) (Cd : Fld Z h x "java/lang/String" "coder" "B" (.int 0)) : Con l Z [] (⟨"java/lang/String", "coder", "()B"⟩ : MethodName) jdk_42_method_152_code 1 ((some Jvm.ClassFile.FieldType.byte)) ({ frames := 0, cells := 0, slots := 0, locals := 0 } : Room) #[(.ref x)] h [] (fun v h' => v = some (.int 0) ∧ h' = h) := by
  refine Con.of (plainFor_of_name pn0) (Ls := #[.val (.ref x)]) (fun m => by first | (simp [entryFrame, mkF, argsToLocals, Value.category]; done) | rfl) ?_
  intro p_ e_ s_ m_ bel_ mt_ cd_ C
  obtain ⟨z, fm, O2, P5, O4, rf⟩ := hS
  refine g_ctx C fun K0 E0 => ?_
  refine g_getstatic C (Wx85 hw) Via.refl (O2.ext E0) d_jdk_42_method_152_0 (pc' := 3) rfl ?_
  refine g_ifeq C d_jdk_42_method_152_3 (by first | decide | exact Nat.le_of_ble_eq_true rfl) (pcT := 13) rfl (pcF := 6) rfl (fun zz_ => absurd zz_ (P5)) (fun _ => ?_)
  refine g_aload_n C d_jdk_42_method_152_6 rfl rfl (pc' := 7) rfl ?_
  refine g_getfield C (Wx25 hw) Via.refl (Cd) d_jdk_42_method_152_7 (pc' := 10) rfl ?_
  refine g_goto C d_jdk_42_method_152_10 (by first | decide | exact Nat.le_of_ble_eq_true rfl) (pc' := 14) rfl ?_
  exact g_ireturnN C (by simp) d_jdk_42_method_152_14 (⟨rfl, rfl⟩) (by first | decide | exact Nat.le_of_ble_eq_true rfl) (by first | decide | exact Nat.le_of_ble_eq_true rfl)
set_option maxRecDepth 65536 in
set_option maxHeartbeats 40000000 in
theorem con_ens (l : Launch) (Z : State) (a0 : Array Value) (hw : ∀ d ∈ tables_1, d.before a0 Z = true)  (h : Heap) (b t : Addr) (cs : List Int32) (S : Sb Z h b t cs) (n : Nat) (hn : n ≤ 16) : Con l Z [] (⟨"java/lang/AbstractStringBuilder", "ensureCapacityInternal", "(I)V"⟩ : MethodName) jdk_68_method_9_code 3 (none) ({ frames := 0, cells := 0, slots := 0, locals := 0 } : Room) #[(.ref b), (.int (Int32.ofNat n))] h [] (fun v h' => v = none ∧ h' = h) := by
  refine Con.of (plainFor_of_name pn5) (Ls := #[.val (.ref b), .val (.int (Int32.ofNat n)), .unset]) (fun m => by first | (simp [entryFrame, mkF, argsToLocals, Value.category]; done) | rfl) ?_
  intro p_ e_ s_ m_ bel_ mt_ cd_ C
  obtain ⟨E, N, Cd, V, f, A, q⟩ := S
  refine g_aload_n C d_jdk_68_method_9_0 rfl rfl (pc' := 1) rfl ?_
  refine g_getfield C (Wx61 hw) Via.refl (V) d_jdk_68_method_9_1 (pc' := 4) rfl ?_
  refine g_arraylength C (A) (z := (16 : Int32)) rfl d_jdk_68_method_9_4 (pc' := 5) rfl ?_
  refine g_aload_n C d_jdk_68_method_9_5 rfl rfl (pc' := 6) rfl ?_
  refine g_getfield C (Wx63 hw) Via.refl (Cd) d_jdk_68_method_9_6 (pc' := 9) rfl ?_
  refine g_ishr C d_jdk_68_method_9_9 (pc' := 10) rfl ?_
  refine g_istore_n C d_jdk_68_method_9_10 (Ls' := #[.val (.ref b), .val (.int (Int32.ofNat n)), .val (.int ((16 : Int32) >>> ((0 : Int32) &&& 31)))]) rfl (pc' := 11) rfl ?_
  refine g_iload_n C d_jdk_68_method_9_11 rfl (pc' := 12) rfl ?_
  refine g_iload_n C d_jdk_68_method_9_12 rfl (pc' := 13) rfl ?_
  refine g_isub C d_jdk_68_method_9_13 (pc' := 14) rfl ?_
  have hle : ¬ (0 : Int32) < Int32.ofNat n - ((16 : Int32) >>> ((0 : Int32) &&& 31)) := by
    rw [show ((16 : Int32) >>> ((0 : Int32) &&& 31)) = 16 from by decide, Int32.lt_iff_toInt_lt]
    have q2 := c_isub (Int32.ofNat n) 16
    have r2 := rng32 (Int32.ofNat n - 16)
    have l16 : (16 : Int32).toInt = 16 := rfl
    rw [i32_nat (by omega), l16] at q2
    have l0 : (0 : Int32).toInt = 0 := rfl
    omega
  refine g_ifle C d_jdk_68_method_9_14 (by first | decide | exact Nat.le_of_ble_eq_true rfl) (pcT := 38) rfl (pcF := 17) rfl (fun _ => ?_) (fun zz_ => absurd zz_ (hle))
  exact g_return C d_jdk_68_method_9_38 (⟨rfl, rfl⟩) (by first | decide | exact Nat.le_of_ble_eq_true rfl) (by first | decide | exact Nat.le_of_ble_eq_true rfl)
set_option maxRecDepth 65536 in
set_option maxHeartbeats 40000000 in
theorem con_inf (l : Launch) (Z : State) (a0 : Array Value) (hw : ∀ d ∈ tables_1, d.before a0 Z = true)  (h : Heap) (hS : SS Z) (b t x : Addr) (cs ds : List Int32) (S : Sb Z h b t cs) (Sx : Str Z h x ds) : Con l Z [] (⟨"java/lang/AbstractStringBuilder", "inflateIfNeededFor", "(Ljava/lang/String;)V"⟩ : MethodName) jdk_68_method_71_code 2 (none) ({ frames := 1, cells := 0, slots := 0, locals := 13 } : Room) #[(.ref b), (.ref x)] h [] (fun v h' => v = none ∧ h' = h) := by
  refine Con.of (plainFor_of_name pn5) (Ls := #[.val (.ref b), .val (.ref x)]) (fun m => by first | (simp [entryFrame, mkF, argsToLocals, Value.category]; done) | rfl) ?_
  intro p_ e_ s_ m_ bel_ mt_ cd_ C
  obtain ⟨E, N, Cd, V, f, A, q⟩ := S
  obtain ⟨k1, k2, Ex, Cx1, tx, kb, Vx, Ax⟩ := Sx
  obtain ⟨z, fm, O2, P5, O4, rf⟩ := id hS
  refine g_ctx C fun K0 E0 => ?_
  refine g_getstatic C (Wx60 hw) Via.refl (O2.ext E0) d_jdk_68_method_71_0 (pc' := 3) rfl ?_
  refine g_ifeq C d_jdk_68_method_71_3 (by first | decide | exact Nat.le_of_ble_eq_true rfl) (pcT := 21) rfl (pcF := 6) rfl (fun zz_ => absurd zz_ (P5)) (fun _ => ?_)
  refine g_aload_n C d_jdk_68_method_71_6 rfl rfl (pc' := 7) rfl ?_
  refine g_getfield C (Wx63 hw) Via.refl (Cd) d_jdk_68_method_71_7 (pc' := 10) rfl ?_
  refine g_aload_n C d_jdk_68_method_71_10 rfl rfl (pc' := 11) rfl ?_
  refine g_virtualC C (W := 1) (argsL := []) (rest := [(.int (0 : Int32))]) (con_coder l Z a0 hw h hS x Cx1) (Wx103 hw) (Wx81 hw) (Wx83 hw) (nfOf (Wx83 hw) rfl) (Wx82 hw) (Wx6 hw) (Wx84 hw) (by first | decide | exact Nat.le_of_ble_eq_true rfl) (Ex) rfl (lenOf pd8 rfl) rfl (Nat.le_of_eq rfl) d_jdk_68_method_71_11 (pc' := 14) rfl (by first | decide | exact Nat.le_of_ble_eq_true rfl) (by first | decide | exact Nat.le_of_ble_eq_true rfl) (fun _ q => nomatch q) (by first | decide | exact Nat.le_of_ble_eq_true rfl) (by first | decide | exact Nat.le_of_ble_eq_true rfl) ?_
  rintro _ hh ⟨rfl, eh_⟩ K
  subst hh
  refine g_norm (cells' := 0) (slots' := 0) (st' := [(.int (0 : Int32)), (.int (0 : Int32))]) (by first | decide | exact Nat.le_of_ble_eq_true rfl) (by first | decide | exact Nat.le_of_ble_eq_true rfl) rfl ?_
  refine g_if_icmpeq C d_jdk_68_method_71_14 (by first | decide | exact Nat.le_of_ble_eq_true rfl) (pcT := 21) rfl (pcF := 17) rfl (fun _ => ?_) (fun zz_ => absurd (rfl) zz_)
  exact g_return C d_jdk_68_method_71_21 (⟨rfl, rfl⟩) (by first | decide | exact Nat.le_of_ble_eq_true rfl) (by first | decide | exact Nat.le_of_ble_eq_true rfl)
set_option maxRecDepth 65536 in
set_option maxHeartbeats 40000000 in
theorem con_gb (l : Launch) (Z : State) (a0 : Array Value) (hw : ∀ d ∈ tables_1, d.before a0 Z = true)  (h : Heap) (hS : SS Z) (t x : Addr) (cs ds : List Int32) (f : Nat → Value) (A : Af Z h t .byte 16 f) (Sx : Str Z h x ds) (hlen : cs.length + ds.length ≤ 16) : Con l Z [t] (⟨"java/lang/String", "getBytes", "([BIB)V"⟩ : MethodName) jdk_42_method_147_code 4 (none) ({ frames := 1, cells := 0, slots := 0, locals := 18 } : Room) #[(.ref x), (.ref t), (.int (Int32.ofNat cs.length)), (.int (0 : Int32))] h [] (fun v h' => v = none ∧ Af Z h' t .byte 16 (fun i => if cs.length ≤ i ∧ i < cs.length + ds.length then .int ((ds.getD (0 + (i - cs.length)) 0).toInt8.toInt32) else f i)) := by
  refine Con.of (plainFor_of_name pn0) (Ls := #[.val (.ref x), .val (.ref t), .val (.int (Int32.ofNat cs.length)), .val (.int (0 : Int32))]) (fun m => by first | (simp [entryFrame, mkF, argsToLocals, Value.category]; done) | rfl) ?_
  intro p_ e_ s_ m_ bel_ mt_ cd_ C
  obtain ⟨k1, k2, Ex, Cx1, tx, kb, Vx, Ax⟩ := Sx
  have Ab := str_bytes k1 Ax
  refine g_aload_n C d_jdk_42_method_147_0 rfl rfl (pc' := 1) rfl ?_
  refine g_virtualC C (W := 0) (argsL := []) (rest := []) (con_coder l Z a0 hw h hS x Cx1) (Wx80 hw) (Wx81 hw) (Wx83 hw) (nfOf (Wx83 hw) rfl) (Wx82 hw) (Wx6 hw) (Wx84 hw) (by first | decide | exact Nat.le_of_ble_eq_true rfl) (Ex) rfl (lenOf pd8 rfl) rfl (Nat.le_of_eq rfl) d_jdk_42_method_147_1 (pc' := 4) rfl (by first | decide | exact Nat.le_of_ble_eq_true rfl) (by first | decide | exact Nat.le_of_ble_eq_true rfl) (fun _ q => nomatch q) (by first | decide | exact Nat.le_of_ble_eq_true rfl) (by first | decide | exact Nat.le_of_ble_eq_true rfl) ?_
  rintro _ hh ⟨rfl, eh_⟩ K
  subst hh
  refine g_norm (cells' := 0) (slots' := 0) (st' := [(.int (0 : Int32))]) (by first | decide | exact Nat.le_of_ble_eq_true rfl) (by first | decide | exact Nat.le_of_ble_eq_true rfl) rfl ?_
  refine g_iload_n C d_jdk_42_method_147_4 rfl (pc' := 5) rfl ?_
  refine g_if_icmpne C d_jdk_42_method_147_5 (by first | decide | exact Nat.le_of_ble_eq_true rfl) (pcT := 28) rfl (pcF := 8) rfl (fun zz_ => absurd (rfl) zz_) (fun _ => ?_)
  refine g_aload_n C d_jdk_42_method_147_8 rfl rfl (pc' := 9) rfl ?_
  refine g_getfield C (Wx24 hw) Via.refl (Vx) d_jdk_42_method_147_9 (pc' := 12) rfl ?_
  refine g_iconst C d_jdk_42_method_147_12 (x := (0 : Int32)) rfl (pc' := 13) rfl ?_
  refine g_aload_n C d_jdk_42_method_147_13 rfl rfl (pc' := 14) rfl ?_
  refine g_iload_n C d_jdk_42_method_147_14 rfl (pc' := 15) rfl ?_
  refine g_iload_n C d_jdk_42_method_147_15 rfl (pc' := 16) rfl ?_
  refine g_ishl C d_jdk_42_method_147_16 (pc' := 17) rfl ?_
  refine g_aload_n C d_jdk_42_method_147_17 rfl rfl (pc' := 18) rfl ?_
  refine g_getfield C (Wx24 hw) Via.refl (Vx) d_jdk_42_method_147_18 (pc' := 21) rfl ?_
  refine g_arraylength C (Ab) (z := (Int32.ofNat ds.length)) rfl d_jdk_42_method_147_21 (pc' := 22) rfl ?_
  refine g_arraycopy C (sp := 0) (dp := cs.length) (nn := ds.length) (Wx109 hw) (Wx112 hw) (Wx110 hw) (Wx111 hw) (Ab) (A) rfl rfl (by rw [show ((0 : Int32) &&& 31) = 0 from by decide]; exact (Int32.shiftLeft_zero).symm) rfl (by omega) (by omega) (Or.inl (List.mem_cons_self ..)) rfl (by first | decide | exact Nat.le_of_ble_eq_true rfl) (by first | decide | exact Nat.le_of_ble_eq_true rfl) d_jdk_42_method_147_22 (pc' := 25) rfl ?_
  intro h1 K1 A1
  refine g_goto C d_jdk_42_method_147_25 (by first | decide | exact Nat.le_of_ble_eq_true rfl) (pc' := 43) rfl ?_
  exact g_return C d_jdk_42_method_147_43 (⟨rfl, A1⟩) (by first | decide | exact Nat.le_of_ble_eq_true rfl) (by first | decide | exact Nat.le_of_ble_eq_true rfl)
set_option maxRecDepth 65536 in
set_option maxHeartbeats 40000000 in
theorem con_put (l : Launch) (Z : State) (a0 : Array Value) (hw : ∀ d ∈ tables_1, d.before a0 Z = true)  (h : Heap) (hS : SS Z) (b t x : Addr) (cs ds : List Int32) (S : Sb Z h b t cs) (Sx : Str Z h x ds) (hlen : cs.length + ds.length ≤ 16) : Con l Z [t] (⟨"java/lang/AbstractStringBuilder", "putStringAt", "(ILjava/lang/String;)V"⟩ : MethodName) jdk_68_method_73_code 3 (none) ({ frames := 2, cells := 0, slots := 0, locals := 33 } : Room) #[(.ref b), (.int (Int32.ofNat cs.length)), (.ref x)] h [] (fun v h' => v = none ∧ Exa Z h' b "java/lang/StringBuilder" ∧ Fld Z h' b "java/lang/AbstractStringBuilder" "count" "I" (.int (Int32.ofNat cs.length)) ∧ Fld Z h' b "java/lang/AbstractStringBuilder" "coder" "B" (.int 0) ∧ Fld Z h' b "java/lang/AbstractStringBuilder" "value" "[B" (.ref t) ∧ ∃ f, Af Z h' t .byte 16 f ∧ ∀ i, i < (cs ++ ds).length → f i = .int (((cs ++ ds).getD i 0).toInt8.toInt32)) := by
  refine Con.of (plainFor_of_name pn5) (Ls := #[.val (.ref b), .val (.int (Int32.ofNat cs.length)), .val (.ref x)]) (fun m => by first | (simp [entryFrame, mkF, argsToLocals, Value.category]; done) | rfl) ?_
  intro p_ e_ s_ m_ bel_ mt_ cd_ C
  refine g_aload_n C d_jdk_68_method_73_0 rfl rfl (pc' := 1) rfl ?_
  refine g_aload_n C d_jdk_68_method_73_1 rfl rfl (pc' := 2) rfl ?_
  refine g_privateC C (W := 0) (argsL := [(.ref x)]) (rest := []) (con_inf l Z a0 hw h hS b t x cs ds S Sx) (Wx98 hw) (Wx91 hw) rfl (Wx99 hw) (Wx100 hw) (Wx57 hw) (Wx102 hw) (by first | decide | exact Nat.le_of_ble_eq_true rfl) (S.1) rfl (lenOf pd9 rfl) rfl (Nat.le_of_eq rfl) d_jdk_68_method_73_2 (pc' := 5) rfl (by first | decide | exact Nat.le_of_ble_eq_true rfl) (by first | decide | exact Nat.le_of_ble_eq_true rfl) (fun _ q => nomatch q) (by first | decide | exact Nat.le_of_ble_eq_true rfl) (by first | decide | exact Nat.le_of_ble_eq_true rfl) ?_
  rintro _ hh ⟨rfl, eh_⟩ K
  subst hh
  refine g_norm (cells' := 0) (slots' := 0) (st' := []) (by first | decide | exact Nat.le_of_ble_eq_true rfl) (by first | decide | exact Nat.le_of_ble_eq_true rfl) rfl ?_
  obtain ⟨E, N, Cd, V, f, A, q⟩ := id S
  refine g_aload_n C d_jdk_68_method_73_5 rfl rfl (pc' := 6) rfl ?_
  refine g_aload_n C d_jdk_68_method_73_6 rfl rfl (pc' := 7) rfl ?_
  refine g_getfield C (Wx61 hw) Via.refl (V) d_jdk_68_method_73_7 (pc' := 10) rfl ?_
  refine g_iload_n C d_jdk_68_method_73_10 rfl (pc' := 11) rfl ?_
  refine g_aload_n C d_jdk_68_method_73_11 rfl rfl (pc' := 12) rfl ?_
  refine g_getfield C (Wx63 hw) Via.refl (Cd) d_jdk_68_method_73_12 (pc' := 15) rfl ?_
  refine g_virtualC C (W := 0) (argsL := [(.ref t), (.int (Int32.ofNat cs.length)), (.int (0 : Int32))]) (rest := []) (con_gb l Z a0 hw h hS t x cs ds f A Sx hlen) (Wx104 hw) (Wx105 hw) (Wx107 hw) (nfOf (Wx107 hw) rfl) (Wx106 hw) (Wx6 hw) (Wx108 hw) (by first | decide | exact Nat.le_of_ble_eq_true rfl) (Sx.exa) rfl (lenOf pd10 rfl) rfl (Nat.le_of_eq rfl) d_jdk_68_method_73_15 (pc' := 18) rfl (by first | decide | exact Nat.le_of_ble_eq_true rfl) (by first | decide | exact Nat.le_of_ble_eq_true rfl) (fun y q => Or.inl q) (by first | decide | exact Nat.le_of_ble_eq_true rfl) (by first | decide | exact Nat.le_of_ble_eq_true rfl) ?_
  rintro _ h1 ⟨rfl, A1⟩ K1
  refine g_norm (cells' := 0) (slots' := 0) (st' := []) (by first | decide | exact Nat.le_of_ble_eq_true rfl) (by first | decide | exact Nat.le_of_ble_eq_true rfl) rfl ?_
  have hbt : b ∉ [t] := fun hm => Sb.neA hw S (List.mem_singleton.mp hm)
  exact g_return C d_jdk_68_method_73_18 (⟨rfl, E.keep K1, N.keep K1 hbt, Cd.keep K1 hbt, V.keep K1 hbt, _, A1, fun i hi => ap_at q hi⟩) (by first | decide | exact Nat.le_of_ble_eq_true rfl) (by first | decide | exact Nat.le_of_ble_eq_true rfl)
set_option maxRecDepth 65536 in
set_option maxHeartbeats 40000000 in
theorem con_aap (l : Launch) (Z : State) (a0 : Array Value) (hw : ∀ d ∈ tables_1, d.before a0 Z = true)  (h : Heap) (hS : SS Z) (b t x : Addr) (cs ds : List Int32) (S : Sb Z h b t cs) (Sx : Str Z h x ds) (hlen : cs.length + ds.length ≤ 16) : Con l Z [b, t] (⟨"java/lang/AbstractStringBuilder", "append", "(Ljava/lang/String;)Ljava/lang/AbstractStringBuilder;"⟩ : MethodName) jdk_68_method_22_code 3 ((some (Jvm.ClassFile.FieldType.object "java/lang/AbstractStringBuilder"))) ({ frames := 3, cells := 0, slots := 0, locals := 47 } : Room) #[(.ref b), (.ref x)] h [] (fun v h' => v = some (.ref b) ∧ Sb Z h' b t (cs ++ ds)) := by
  refine Con.of (plainFor_of_name pn5) (Ls := #[.val (.ref b), .val (.ref x), .unset]) (fun m => by first | (simp [entryFrame, mkF, argsToLocals, Value.category]; done) | rfl) ?_
  intro p_ e_ s_ m_ bel_ mt_ cd_ C
  refine g_aload_n C d_jdk_68_method_22_0 rfl rfl (pc' := 1) rfl ?_
  refine g_ifnonnull C rfl d_jdk_68_method_22_1 (by first | decide | exact Nat.le_of_ble_eq_true rfl) (pcT := 9) rfl (pcF := 4) rfl (fun _ _ => ?_) (fun z => nomatch z)
  refine g_aload_n C d_jdk_68_method_22_9 rfl rfl (pc' := 10) rfl ?_
  refine g_strlen C hS Sx (z := Int32.ofNat ds.length) rfl (Ws_lenW hw) (Wx5 hw) (Wx75 hw) (Wx76 hw) (Wx78 hw) (Wx77 hw) rfl d_jdk_68_method_22_10 (pc' := 13) rfl (by first | decide | exact Nat.le_of_ble_eq_true rfl) (by first | decide | exact Nat.le_of_ble_eq_true rfl) (by first | decide | exact Nat.le_of_ble_eq_true rfl) (by first | decide | exact Nat.le_of_ble_eq_true rfl) ?_
  refine g_istore_n C d_jdk_68_method_22_13 (Ls' := #[.val (.ref b), .val (.ref x), .val (.int (Int32.ofNat ds.length))]) rfl (pc' := 14) rfl ?_
  refine g_aload_n C d_jdk_68_method_22_14 rfl rfl (pc' := 15) rfl ?_
  refine g_aload_n C d_jdk_68_method_22_15 rfl rfl (pc' := 16) rfl ?_
  obtain ⟨E, N, Cd, V, f, A, q⟩ := id S
  refine g_getfield C (Wx86 hw) Via.refl (N) d_jdk_68_method_22_16 (pc' := 19) rfl ?_
  refine g_iload_n C d_jdk_68_method_22_19 rfl (pc' := 20) rfl ?_
  refine g_iadd C d_jdk_68_method_22_20 (pc' := 21) rfl ?_
  rw [← Int32.ofNat_add]
  refine g_privateC C (W := 0) (argsL := [(.int (Int32.ofNat (cs.length + ds.length)))]) (rest := []) (con_ens l Z a0 hw h b t cs S (cs.length + ds.length) hlen) (Wx88 hw) (Wx91 hw) rfl (Wx89 hw) (Wx90 hw) (Wx57 hw) (Wx92 hw) (by first | decide | exact Nat.le_of_ble_eq_true rfl) (E) rfl (lenOf pd7 rfl) rfl (Nat.le_of_eq rfl) d_jdk_68_method_22_21 (pc' := 24) rfl (by first | decide | exact Nat.le_of_ble_eq_true rfl) (by first | decide | exact Nat.le_of_ble_eq_true rfl) (fun _ q => nomatch q) (by first | decide | exact Nat.le_of_ble_eq_true rfl) (by first | decide | exact Nat.le_of_ble_eq_true rfl) ?_
  rintro _ hh ⟨rfl, eh_⟩ K
  subst hh
  refine g_norm (cells' := 0) (slots' := 0) (st' := []) (by first | decide | exact Nat.le_of_ble_eq_true rfl) (by first | decide | exact Nat.le_of_ble_eq_true rfl) rfl ?_
  refine g_aload_n C d_jdk_68_method_22_24 rfl rfl (pc' := 25) rfl ?_
  refine g_aload_n C d_jdk_68_method_22_25 rfl rfl (pc' := 26) rfl ?_
  refine g_getfield C (Wx86 hw) Via.refl (N) d_jdk_68_method_22_26 (pc' := 29) rfl ?_
  refine g_aload_n C d_jdk_68_method_22_29 rfl rfl (pc' := 30) rfl ?_
  refine g_privateC C (W := 0) (argsL := [(.int (Int32.ofNat cs.length)), (.ref x)]) (rest := []) (con_put l Z a0 hw h hS b t x cs ds S Sx hlen) (Wx93 hw) (Wx91 hw) rfl (Wx94 hw) (Wx95 hw) (Wx57 hw) (Wx97 hw) (by first | decide | exact Nat.le_of_ble_eq_true rfl) (E) rfl (lenOf pd11 rfl) rfl (Nat.le_of_eq rfl) d_jdk_68_method_22_30 (pc' := 33) rfl (by first | decide | exact Nat.le_of_ble_eq_true rfl) (by first | decide | exact Nat.le_of_ble_eq_true rfl) (fun y q => by cases List.mem_singleton.mp q; exact Or.inl (by simp)) (by first | decide | exact Nat.le_of_ble_eq_true rfl) (by first | decide | exact Nat.le_of_ble_eq_true rfl) ?_
  rintro _ h1 ⟨rfl, E1, N1, G1, V1, f1, A1, q1⟩ K1
  refine g_norm (cells' := 0) (slots' := 0) (st' := []) (by first | decide | exact Nat.le_of_ble_eq_true rfl) (by first | decide | exact Nat.le_of_ble_eq_true rfl) rfl ?_
  refine g_aload_n C d_jdk_68_method_22_33 rfl rfl (pc' := 34) rfl ?_
  refine g_dup C d_jdk_68_method_22_34 rfl (pc' := 35) rfl ?_
  refine g_getfield C (Wx86 hw) Via.refl (N1) d_jdk_68_method_22_35 (pc' := 38) rfl ?_
  refine g_iload_n C d_jdk_68_method_22_38 rfl (pc' := 39) rfl ?_
  refine g_iadd C d_jdk_68_method_22_39 (pc' := 40) rfl ?_
  rw [← Int32.ofNat_add]
  refine g_putfield C (Wx86 hw) Via.refl (v' := (.int (Int32.ofNat (cs.length + ds.length)))) (N1) (E1) (Or.inl (Wx87 hw)) (Wx48 hw) (ty := .int) (by first | decide | exact Nat.le_of_ble_eq_true rfl) rfl rfl (Or.inl (List.mem_cons_self ..)) d_jdk_68_method_22_40 (pc' := 43) rfl ?_
  intro h2 W2
  have hbt := (Sb.neA hw S).symm
  have E2 := Exa.wr W2 E1
  have N2 := Fld.same W2 N1
  have G2 := Fld.other W2 G1 (Or.inr (slot_ne (Or.inl (Wx64 hw)) (Or.inl (Wx87 hw)) (by first | decide | exact Nat.le_of_ble_eq_true rfl) (t := .byte) (by first | decide | exact Nat.le_of_ble_eq_true rfl) (t' := .int) (by first | decide | exact Nat.le_of_ble_eq_true rfl)))
  have V2 := Fld.other W2 V1 (Or.inr (slot_ne (Or.inl (Wx62 hw)) (Or.inl (Wx87 hw)) (by first | decide | exact Nat.le_of_ble_eq_true rfl) (t := (.array .byte)) (by first | decide | exact Nat.le_of_ble_eq_true rfl) (t' := .int) (by first | decide | exact Nat.le_of_ble_eq_true rfl)))
  have A2 := A1.other W2 hbt
  refine g_aload_n C d_jdk_68_method_22_43 rfl rfl (pc' := 44) rfl ?_
  exact g_areturn C rfl rfl d_jdk_68_method_22_44 (⟨rfl, E2, by rw [List.length_append]; exact N2, G2, V2, f1, A2, q1⟩) (by first | decide | exact Nat.le_of_ble_eq_true rfl) (by first | decide | exact Nat.le_of_ble_eq_true rfl)
set_option maxRecDepth 65536 in
set_option maxHeartbeats 40000000 in
theorem con_app (l : Launch) (Z : State) (a0 : Array Value) (hw : ∀ d ∈ tables_1, d.before a0 Z = true)  (h : Heap) (hS : SS Z) (b t x : Addr) (cs ds : List Int32) (S : Sb Z h b t cs) (Sx : Str Z h x ds) (hlen : cs.length + ds.length ≤ 16) : Con l Z [b, t] (⟨"java/lang/StringBuilder", "append", "(Ljava/lang/String;)Ljava/lang/StringBuilder;"⟩ : MethodName) jdk_67_method_7_code 2 ((some (Jvm.ClassFile.FieldType.object "java/lang/StringBuilder"))) ({ frames := 4, cells := 0, slots := 0, locals := 61 } : Room) #[(.ref b), (.ref x)] h [] (fun v h' => v = some (.ref b) ∧ Sb Z h' b t (cs ++ ds)) := by
  refine Con.of (plainFor_of_name pn6) (Ls := #[.val (.ref b), .val (.ref x)]) (fun m => by first | (simp [entryFrame, mkF, argsToLocals, Value.category]; done) | rfl) ?_
  intro p_ e_ s_ m_ bel_ mt_ cd_ C
  refine g_aload_n C d_jdk_67_method_7_0 rfl rfl (pc' := 1) rfl ?_
  refine g_aload_n C d_jdk_67_method_7_1 rfl rfl (pc' := 2) rfl ?_
  refine g_superC C (W := 0) (argsL := [(.ref x)]) (rest := []) (con_aap l Z a0 hw h hS b t x cs ds S Sx hlen) (Wx70 hw) (same_self (Wx71 hw) (Wx91 hw) rfl (by first | decide | exact Nat.le_of_ble_eq_true rfl)) (Wx71 hw) (Wx72 hw) (Wx57 hw) (Wx74 hw) (by first | decide | exact Nat.le_of_ble_eq_true rfl) (S.1) rfl (lenOf pd12 rfl) rfl (Nat.le_of_eq rfl) d_jdk_67_method_7_2 (pc' := 5) rfl (by first | decide | exact Nat.le_of_ble_eq_true rfl) (by first | decide | exact Nat.le_of_ble_eq_true rfl) (fun y q => Or.inl q) (by first | decide | exact Nat.le_of_ble_eq_true rfl) (by first | decide | exact Nat.le_of_ble_eq_true rfl) ?_
  rintro _ h1 ⟨rfl, S1⟩ K
  refine g_norm (cells' := 0) (slots' := 0) (st' := [(.ref b)]) (by first | decide | exact Nat.le_of_ble_eq_true rfl) (by first | decide | exact Nat.le_of_ble_eq_true rfl) rfl ?_
  refine g_pop C d_jdk_67_method_7_5 rfl (pc' := 6) rfl ?_
  refine g_aload_n C d_jdk_67_method_7_6 rfl rfl (pc' := 7) rfl ?_
  exact g_areturn C rfl rfl d_jdk_67_method_7_7 (⟨rfl, S1⟩) (by first | decide | exact Nat.le_of_ble_eq_true rfl) (by first | decide | exact Nat.le_of_ble_eq_true rfl)
set_option maxRecDepth 65536 in
set_option maxHeartbeats 40000000 in
theorem con_gv (l : Launch) (Z : State) (a0 : Array Value) (hw : ∀ d ∈ tables_1, d.before a0 Z = true)  (h : Heap) (b t : Addr) (cs : List Int32) (S : Sb Z h b t cs) : Con l Z [] (⟨"java/lang/AbstractStringBuilder", "getValue", "()[B"⟩ : MethodName) jdk_68_method_64_code 1 ((some (Jvm.ClassFile.FieldType.array Jvm.ClassFile.FieldType.byte))) ({ frames := 0, cells := 0, slots := 0, locals := 0 } : Room) #[(.ref b)] h [] (fun v h' => v = some (.ref t) ∧ h' = h) := by
  refine Con.of (plainFor_of_name pn5) (Ls := #[.val (.ref b)]) (fun m => by first | (simp [entryFrame, mkF, argsToLocals, Value.category]; done) | rfl) ?_
  intro p_ e_ s_ m_ bel_ mt_ cd_ C
  refine g_aload_n C d_jdk_68_method_64_0 rfl rfl (pc' := 1) rfl ?_
  refine g_getfield C (Wx61 hw) Via.refl (S.2.2.2.1) d_jdk_68_method_64_1 (pc' := 4) rfl ?_
  exact g_areturn C rfl rfl d_jdk_68_method_64_4 (⟨rfl, rfl⟩) (by first | decide | exact Nat.le_of_ble_eq_true rfl) (by first | decide | exact Nat.le_of_ble_eq_true rfl)
set_option maxRecDepth 65536 in
set_option maxHeartbeats 40000000 in
theorem con_alen (l : Launch) (Z : State) (a0 : Array Value) (hw : ∀ d ∈ tables_1, d.before a0 Z = true)  (h : Heap) (b t : Addr) (cs : List Int32) (S : Sb Z h b t cs) : Con l Z [] (⟨"java/lang/AbstractStringBuilder", "length", "()I"⟩ : MethodName) jdk_68_method_6_code 1 ((some Jvm.ClassFile.FieldType.int)) ({ frames := 0, cells := 0, slots := 0, locals := 0 } : Room) #[(.ref b)] h [] (fun v h' => v = some (.int (Int32.ofNat cs.length)) ∧ h' = h) := by
  refine Con.of (plainFor_of_name pn5) (Ls := #[.val (.ref b)]) (fun m => by first | (simp [entryFrame, mkF, argsToLocals, Value.category]; done) | rfl) ?_
  intro p_ e_ s_ m_ bel_ mt_ cd_ C
  refine g_aload_n C d_jdk_68_method_6_0 rfl rfl (pc' := 1) rfl ?_
  refine g_getfield C (Wx86 hw) Via.refl (S.2.1) d_jdk_68_method_6_1 (pc' := 4) rfl ?_
  exact g_ireturn C d_jdk_68_method_6_4 (⟨rfl, rfl⟩) (by first | decide | exact Nat.le_of_ble_eq_true rfl) (by first | decide | exact Nat.le_of_ble_eq_true rfl)
set_option maxRecDepth 65536 in
set_option maxHeartbeats 40000000 in
theorem con_slen (l : Launch) (Z : State) (a0 : Array Value) (hw : ∀ d ∈ tables_1, d.before a0 Z = true)  (h : Heap) (b t : Addr) (cs : List Int32) (S : Sb Z h b t cs) : Con l Z [] (⟨"java/lang/StringBuilder", "length", "()I"⟩ : MethodName) jdk_67_method_93_code 1 ((some Jvm.ClassFile.FieldType.int)) ({ frames := 1, cells := 0, slots := 0, locals := 12 } : Room) #[(.ref b)] h [] (fun v h' => v = some (.int (Int32.ofNat cs.length)) ∧ h' = h) := by
  refine Con.of (plainFor_of_name pn6) (Ls := #[.val (.ref b)]) (fun m => by first | (simp [entryFrame, mkF, argsToLocals, Value.category]; done) | rfl) ?_
  intro p_ e_ s_ m_ bel_ mt_ cd_ C
  refine g_aload_n C d_jdk_67_method_93_0 rfl rfl (pc' := 1) rfl ?_
  refine g_superC C (W := 0) (argsL := []) (rest := []) (con_alen l Z a0 hw h b t cs S) (Wx138 hw) (same_self (Wx134 hw) (Wx91 hw) rfl (by first | decide | exact Nat.le_of_ble_eq_true rfl)) (Wx134 hw) (Wx72 hw) (Wx57 hw) (Wx139 hw) (by first | decide | exact Nat.le_of_ble_eq_true rfl) (S.1) rfl (lenOf pd13 rfl) rfl (Nat.le_of_eq rfl) d_jdk_67_method_93_1 (pc' := 4) rfl (by first | decide | exact Nat.le_of_ble_eq_true rfl) (by first | decide | exact Nat.le_of_ble_eq_true rfl) (fun _ q => nomatch q) (by first | decide | exact Nat.le_of_ble_eq_true rfl) (by first | decide | exact Nat.le_of_ble_eq_true rfl) ?_
  rintro _ hh ⟨rfl, eh_⟩ K
  subst hh
  refine g_norm (cells' := 0) (slots' := 0) (st' := [(.int (Int32.ofNat cs.length))]) (by first | decide | exact Nat.le_of_ble_eq_true rfl) (by first | decide | exact Nat.le_of_ble_eq_true rfl) rfl ?_
  exact g_ireturn C d_jdk_67_method_93_4 (⟨rfl, rfl⟩) (by first | decide | exact Nat.le_of_ble_eq_true rfl) (by first | decide | exact Nat.le_of_ble_eq_true rfl)
set_option maxRecDepth 65536 in
set_option maxHeartbeats 40000000 in
theorem con_lat (l : Launch) (Z : State) (a0 : Array Value) (hw : ∀ d ∈ tables_1, d.before a0 Z = true)  (h : Heap) (hS : SS Z) (b t : Addr) (cs : List Int32) (S : Sb Z h b t cs) : Con l Z [] (⟨"java/lang/AbstractStringBuilder", "isLatin1", "()Z"⟩ : MethodName) jdk_68_method_68_code 1 ((some Jvm.ClassFile.FieldType.boolean)) ({ frames := 0, cells := 0, slots := 0, locals := 0 } : Room) #[(.ref b)] h [] (fun v h' => v = some (.int 1) ∧ h' = h) := by
  refine Con.of (plainFor_of_name pn5) (Ls := #[.val (.ref b)]) (fun m => by first | (simp [entryFrame, mkF, argsToLocals, Value.category]; done) | rfl) ?_
  intro p_ e_ s_ m_ bel_ mt_ cd_ C
  obtain ⟨z, fm, O2, P5, O4, rf⟩ := hS
  refine g_ctx C fun K0 E0 => ?_
  refine g_getstatic C (Wx60 hw) Via.refl (O2.ext E0) d_jdk_68_method_68_0 (pc' := 3) rfl ?_
  refine g_ifeq C d_jdk_68_method_68_3 (by first | decide | exact Nat.le_of_ble_eq_true rfl) (pcT := 17) rfl (pcF := 6) rfl (fun zz_ => absurd zz_ (P5)) (fun _ => ?_)
  refine g_aload_n C d_jdk_68_method_68_6 rfl rfl (pc' := 7) rfl ?_
  refine g_getfield C (Wx63 hw) Via.refl (S.2.2.1) d_jdk_68_method_68_7 (pc' := 10) rfl ?_
  refine g_ifne C d_jdk_68_method_68_10 (by first | decide | exact Nat.le_of_ble_eq_true rfl) (pcT := 17) rfl (pcF := 13) rfl (fun zz_ => absurd (rfl) zz_) (fun _ => ?_)
  refine g_iconst C d_jdk_68_method_68_13 (x := (1 : Int32)) rfl (pc' := 14) rfl ?_
  refine g_goto C d_jdk_68_method_68_14 (by first | decide | exact Nat.le_of_ble_eq_true rfl) (pc' := 18) rfl ?_
  exact g_ireturnN C (by simp) d_jdk_68_method_68_18 (⟨rfl, rfl⟩) (by first | decide | exact Nat.le_of_ble_eq_true rfl) (by first | decide | exact Nat.le_of_ble_eq_true rfl)
set_option maxRecDepth 65536 in
set_option maxHeartbeats 40000000 in
theorem con_min (l : Launch) (Z : State) (a0 : Array Value) (hw : ∀ d ∈ tables_1, d.before a0 Z = true)  (h : Heap) (x y : Int32) : Con l Z [] (⟨"java/lang/Math", "min", "(II)I"⟩ : MethodName) jdk_29_method_69_code 2 ((some Jvm.ClassFile.FieldType.int)) ({ frames := 0, cells := 0, slots := 0, locals := 0 } : Room) #[(.int x), (.int y)] h [] (fun v h' => ∃ r, v = some (.int r) ∧ h' = h ∧ ((y < x ∧ r = y) ∨ (¬ y < x ∧ r = x))) := by
  refine Con.of (Jvm.Free.JP.mathPlain rfl (by decide +kernel)) (Ls := #[.val (.int x), .val (.int y)]) (fun m => by first | (simp [entryFrame, mkF, argsToLocals, Value.category]; done) | rfl) ?_
  intro p_ e_ s_ m_ bel_ mt_ cd_ C
  refine g_iload_n C d_jdk_29_method_69_0 rfl (pc' := 1) rfl ?_
  refine g_iload_n C d_jdk_29_method_69_1 rfl (pc' := 2) rfl ?_
  refine g_if_icmpgt C d_jdk_29_method_69_2 (by first | decide | exact Nat.le_of_ble_eq_true rfl) (pcT := 9) rfl (pcF := 5) rfl ?_ ?_
  · intro z
    refine g_iload_n C d_jdk_29_method_69_9 rfl (pc' := 10) rfl ?_
    exact g_ireturn C d_jdk_29_method_69_10 (⟨_, rfl, rfl, Or.inl ⟨z, rfl⟩⟩) (by first | decide | exact Nat.le_of_ble_eq_true rfl) (by first | decide | exact Nat.le_of_ble_eq_true rfl)
  · intro z
    refine g_iload_n C d_jdk_29_method_69_5 rfl (pc' := 6) rfl ?_
    refine g_goto C d_jdk_29_method_69_6 (by first | decide | exact Nat.le_of_ble_eq_true rfl) (pc' := 10) rfl ?_
    exact g_ireturn C d_jdk_29_method_69_10 (⟨_, rfl, rfl, Or.inr ⟨z, rfl⟩⟩) (by first | decide | exact Nat.le_of_ble_eq_true rfl) (by first | decide | exact Nat.le_of_ble_eq_true rfl)
set_option maxRecDepth 65536 in
set_option maxHeartbeats 40000000 in
theorem con_chk (l : Launch) (Z : State) (a0 : Array Value) (hw : ∀ d ∈ tables_1, d.before a0 Z = true)  (h : Heap) (n : Nat) (hn : n < 2 ^ 31) : Con l Z [] (⟨"java/util/Arrays", "checkLength", "(II)V"⟩ : MethodName) jdk_65_method_131_code 2 (none) ({ frames := 0, cells := 0, slots := 0, locals := 0 } : Room) #[(.int (0 : Int32)), (.int (Int32.ofNat n))] h [] (fun v h' => v = none ∧ h' = h) := by
  refine Con.of (plainFor_of_name pn7) (Ls := #[.val (.int (0 : Int32)), .val (.int (Int32.ofNat n))]) (fun m => by first | (simp [entryFrame, mkF, argsToLocals, Value.category]; done) | rfl) ?_
  intro p_ e_ s_ m_ bel_ mt_ cd_ C
  refine g_iload_n C d_jdk_65_method_131_0 rfl (pc' := 1) rfl ?_
  refine g_iload_n C d_jdk_65_method_131_1 rfl (pc' := 2) rfl ?_
  refine g_if_icmpge C d_jdk_65_method_131_2 (by first | decide | exact Nat.le_of_ble_eq_true rfl) (pcT := 37) rfl (pcF := 5) rfl (fun _ => ?_) (fun zz_ => absurd zz_ (i32_nn (by omega)))
  exact g_return C d_jdk_65_method_131_37 (⟨rfl, rfl⟩) (by first | decide | exact Nat.le_of_ble_eq_true rfl) (by first | decide | exact Nat.le_of_ble_eq_true rfl)
set_option maxRecDepth 65536 in
set_option maxHeartbeats 40000000 in
theorem con_crb (l : Launch) (Z : State) (a0 : Array Value) (hw : ∀ d ∈ tables_1, d.before a0 Z = true)  (h : Heap) (t : Addr) (f : Nat → Value) (A : Af Z h t .byte 16 f) (n : Nat) (hn : n < 16) : Con l Z [] (⟨"java/util/Arrays", "copyOfRangeByte", "([BII)[B"⟩ : MethodName) jdk_65_method_133_code 5 ((some (Jvm.ClassFile.FieldType.array Jvm.ClassFile.FieldType.byte))) ({ frames := 1, cells := 1, slots := 16, locals := 18 } : Room) #[(.ref t), (.int (0 : Int32)), (.int (Int32.ofNat n))] h [] (fun v h' => ∃ u g, v = some (.ref u) ∧ h.size ≤ u ∧ Af Z h' u .byte n g ∧ ∀ i, i < n → g i = f i) := by
  refine Con.of (plainFor_of_name pn7) (Ls := #[.val (.ref t), .val (.int (0 : Int32)), .val (.int (Int32.ofNat n)), .unset, .unset]) (fun m => by first | (simp [entryFrame, mkF, argsToLocals, Value.category]; done) | rfl) ?_
  intro p_ e_ s_ m_ bel_ mt_ cd_ C
  refine g_iload_n C d_jdk_65_method_133_0 rfl (pc' := 1) rfl ?_
  refine g_iload_n C d_jdk_65_method_133_1 rfl (pc' := 2) rfl ?_
  refine g_staticC C (W := 0) (argsL := [(.int (0 : Int32)), (.int (Int32.ofNat n))]) (rest := []) (con_chk l Z a0 hw h n (by omega)) (Wx152 hw) (Wx153 hw) (Wx147 hw) (Wx154 hw) (by first | decide | exact Nat.le_of_ble_eq_true rfl) rfl (lenOf pd14 rfl) rfl (Nat.le_of_eq rfl) d_jdk_65_method_133_2 (pc' := 5) rfl (by first | decide | exact Nat.le_of_ble_eq_true rfl) (by first | decide | exact Nat.le_of_ble_eq_true rfl) (fun _ q => nomatch q) (by first | decide | exact Nat.le_of_ble_eq_true rfl) (by first | decide | exact Nat.le_of_ble_eq_true rfl) ?_
  rintro _ hh ⟨rfl, eh_⟩ K
  subst hh
  refine g_norm (cells' := 0) (slots' := 0) (st' := []) (by first | decide | exact Nat.le_of_ble_eq_true rfl) (by first | decide | exact Nat.le_of_ble_eq_true rfl) rfl ?_
  refine g_iload_n C d_jdk_65_method_133_5 rfl (pc' := 6) rfl ?_
  refine g_iload_n C d_jdk_65_method_133_6 rfl (pc' := 7) rfl ?_
  refine g_isub C d_jdk_65_method_133_7 (pc' := 8) rfl ?_
  rw [show Int32.ofNat n - (0 : Int32) = Int32.ofNat n from Int32.sub_zero _]
  refine g_istore_n C d_jdk_65_method_133_8 (Ls' := #[.val (.ref t), .val (.int (0 : Int32)), .val (.int (Int32.ofNat n)), .val (.int (Int32.ofNat n)), .unset]) rfl (pc' := 9) rfl ?_
  refine g_iload_n C d_jdk_65_method_133_9 rfl (pc' := 10) rfl ?_
  refine g_newarray C (aty := .byte) (n := n) (Wx19 hw) (i32_nn (by omega)) (i32_clamp (by omega)) (by omega) d_jdk_65_method_133_10 (pc' := 12) rfl (by first | decide | exact Nat.le_of_ble_eq_true rfl) (by show 0 + n ≤ 16; omega) ?_
  intro h1 u hu hu0 X1 A1
  refine g_norm (cells' := 1) (slots' := 16) (st' := [.ref u]) (by first | decide | exact Nat.le_of_ble_eq_true rfl) (by omega) rfl ?_
  refine g_astore C d_jdk_65_method_133_12 rfl (Ls' := #[.val (.ref t), .val (.int (0 : Int32)), .val (.int (Int32.ofNat n)), .val (.int (Int32.ofNat n)), .val (.ref u)]) rfl (pc' := 14) rfl ?_
  refine g_aload_n C d_jdk_65_method_133_14 rfl rfl (pc' := 15) rfl ?_
  refine g_iload_n C d_jdk_65_method_133_15 rfl (pc' := 16) rfl ?_
  refine g_aload C d_jdk_65_method_133_16 rfl rfl (pc' := 18) rfl ?_
  refine g_iconst C d_jdk_65_method_133_18 (x := (0 : Int32)) rfl (pc' := 19) rfl ?_
  refine g_aload_n C d_jdk_65_method_133_19 rfl rfl (pc' := 20) rfl ?_
  refine g_arraylength C (A.ext X1) (z := (16 : Int32)) rfl d_jdk_65_method_133_20 (pc' := 21) rfl ?_
  refine g_iload_n C d_jdk_65_method_133_21 rfl (pc' := 22) rfl ?_
  refine g_isub C d_jdk_65_method_133_22 (pc' := 23) rfl ?_
  refine g_iload_n C d_jdk_65_method_133_23 rfl (pc' := 24) rfl ?_
  refine g_staticC C (W := 4) (argsL := [(.int ((16 : Int32) - (0 : Int32))), (.int (Int32.ofNat n))]) (rest := [(.int (0 : Int32)), (.ref u), (.int (0 : Int32)), (.ref t)]) (con_min l Z a0 hw h1 ((16 : Int32) - (0 : Int32)) (Int32.ofNat n)) (Wx155 hw) (Wx156 hw) (Wx157 hw) (Wx158 hw) (by first | decide | exact Nat.le_of_ble_eq_true rfl) rfl (lenOf pd15 rfl) rfl (Nat.le_of_eq rfl) d_jdk_65_method_133_24 (pc' := 27) rfl (by first | decide | exact Nat.le_of_ble_eq_true rfl) (by first | decide | exact Nat.le_of_ble_eq_true rfl) (fun _ q => nomatch q) (by first | decide | exact Nat.le_of_ble_eq_true rfl) (by first | decide | exact Nat.le_of_ble_eq_true rfl) ?_
  rintro _ hh ⟨r, rfl, eh_, q⟩ K
  subst hh
  refine g_norm (cells' := 1) (slots' := 16) (st' := [(.int r), (.int (0 : Int32)), (.ref u), (.int (0 : Int32)), (.ref t)]) (by first | decide | exact Nat.le_of_ble_eq_true rfl) (by first | decide | exact Nat.le_of_ble_eq_true rfl) rfl ?_
  obtain rfl : r = Int32.ofNat n := by
    rcases q with ⟨-, q⟩ | ⟨q, -⟩
    · exact q
    · exact absurd (by rw [show ((16 : Int32) - (0 : Int32)) = Int32.ofNat 16 from by decide]; exact (lt_n (by omega) (by omega)).2 hn) q
  refine g_arraycopy C (sp := 0) (dp := 0) (nn := n) (Wx159 hw) (Wx112 hw) (Wx110 hw) (Wx111 hw) (A.ext X1) (A1) rfl rfl rfl rfl (by omega) (by omega) (Or.inr hu0) rfl (by first | decide | exact Nat.le_of_ble_eq_true rfl) (by first | decide | exact Nat.le_of_ble_eq_true rfl) d_jdk_65_method_133_27 (pc' := 30) rfl ?_
  intro h2 K2 A2
  refine g_aload C d_jdk_65_method_133_30 rfl rfl (pc' := 32) rfl ?_
  exact g_areturn C rfl rfl d_jdk_65_method_133_32 (⟨u, _, rfl, hu0, A2, fun i hi => by show (if 0 ≤ i ∧ i < 0 + n then f (0 + (i - 0)) else _) = f i; rw [if_pos ⟨Nat.zero_le _, by omega⟩]; congr 1; omega⟩) (by first | decide | exact Nat.le_of_ble_eq_true rfl) (by first | decide | exact Nat.le_of_ble_eq_true rfl)
set_option maxRecDepth 65536 in
set_option maxHeartbeats 40000000 in
theorem con_cr (l : Launch) (Z : State) (a0 : Array Value) (hw : ∀ d ∈ tables_1, d.before a0 Z = true)  (h : Heap) (t : Addr) (f : Nat → Value) (A : Af Z h t .byte 16 f) (n : Nat) (hn : n < 16) : Con l Z [] (⟨"java/util/Arrays", "copyOfRange", "([BII)[B"⟩ : MethodName) jdk_65_method_132_code 3 ((some (Jvm.ClassFile.FieldType.array Jvm.ClassFile.FieldType.byte))) ({ frames := 2, cells := 1, slots := 16, locals := 34 } : Room) #[(.ref t), (.int (0 : Int32)), (.int (Int32.ofNat n))] h [] (fun v h' => ∃ u g, v = some (.ref u) ∧ h.size ≤ u ∧ Af Z h' u .byte n g ∧ ∀ i, i < n → g i = f i) := by
  refine Con.of (plainFor_of_name pn7) (Ls := #[.val (.ref t), .val (.int (0 : Int32)), .val (.int (Int32.ofNat n))]) (fun m => by first | (simp [entryFrame, mkF, argsToLocals, Value.category]; done) | rfl) ?_
  intro p_ e_ s_ m_ bel_ mt_ cd_ C
  refine g_iload_n C d_jdk_65_method_132_0 rfl (pc' := 1) rfl ?_
  refine g_ifne C d_jdk_65_method_132_1 (by first | decide | exact Nat.le_of_ble_eq_true rfl) (pcT := 10) rfl (pcF := 4) rfl (fun zz_ => absurd (rfl) zz_) (fun _ => ?_)
  refine g_iload_n C d_jdk_65_method_132_4 rfl (pc' := 5) rfl ?_
  refine g_aload_n C d_jdk_65_method_132_5 rfl rfl (pc' := 6) rfl ?_
  refine g_arraylength C (A) (z := (16 : Int32)) rfl d_jdk_65_method_132_6 (pc' := 7) rfl ?_
  refine g_if_icmpeq C d_jdk_65_method_132_7 (by first | decide | exact Nat.le_of_ble_eq_true rfl) (pcT := 17) rfl (pcF := 10) rfl (fun zz_ => absurd zz_ (by rw [show (16 : Int32) = Int32.ofNat 16 from rfl, eq_n (by omega) (by omega)]; omega)) (fun _ => ?_)
  refine g_aload_n C d_jdk_65_method_132_10 rfl rfl (pc' := 11) rfl ?_
  refine g_iload_n C d_jdk_65_method_132_11 rfl (pc' := 12) rfl ?_
  refine g_iload_n C d_jdk_65_method_132_12 rfl (pc' := 13) rfl ?_
  refine g_staticC C (W := 0) (argsL := [(.ref t), (.int (0 : Int32)), (.int (Int32.ofNat n))]) (rest := []) (con_crb l Z a0 hw h t f A n hn) (Wx149 hw) (Wx150 hw) (Wx147 hw) (Wx151 hw) (by first | decide | exact Nat.le_of_ble_eq_true rfl) rfl (lenOf pd16 rfl) rfl (Nat.le_of_eq rfl) d_jdk_65_method_132_13 (pc' := 16) rfl (by first | decide | exact Nat.le_of_ble_eq_true rfl) (by first | decide | exact Nat.le_of_ble_eq_true rfl) (fun _ q => nomatch q) (by first | decide | exact Nat.le_of_ble_eq_true rfl) (by first | decide | exact Nat.le_of_ble_eq_true rfl) ?_
  rintro _ h1 ⟨u, g, rfl, hu, A1, q⟩ K
  refine g_norm (cells' := 1) (slots' := 16) (st' := [(.ref u)]) (by first | decide | exact Nat.le_of_ble_eq_true rfl) (by first | decide | exact Nat.le_of_ble_eq_true rfl) rfl ?_
  exact g_areturn C rfl rfl d_jdk_65_method_132_16 (⟨u, g, rfl, hu, A1, q⟩) (by first | decide | exact Nat.le_of_ble_eq_true rfl) (by first | decide | exact Nat.le_of_ble_eq_true rfl)
set_option maxRecDepth 65536 in
set_option maxHeartbeats 40000000 in
theorem con_isv (l : Launch) (Z : State) (a0 : Array Value) (hw : ∀ d ∈ tables_1, d.before a0 Z = true)  (h : Heap) (hS : SS Z) (x b t : Addr) (cs : List Int32) (E : Exa Z h x "java/lang/String") (V : Fld Z h x "java/lang/String" "value" "[B" .null) (Cd : Fld Z h x "java/lang/String" "coder" "B" (.int 0)) (S : Sb Z h b t cs) (hn : cs.length < 16) (hr : ∀ c ∈ cs, ¬ c < 0 ∧ ¬ (255 : Int32) < c) : Con l Z [x] (⟨"java/lang/String", "<init>", "(Ljava/lang/AbstractStringBuilder;Ljava/lang/Void;)V"⟩ : MethodName) jdk_42_method_150_code 5 (none) ({ frames := 3, cells := 1, slots := 16, locals := 49 } : Room) #[(.ref x), (.ref b), .null] h [] (fun v h' => v = none ∧ Str Z h' x cs) := by
  refine Con.of (plainFor_of_name pn0) (Ls := #[.val (.ref x), .val (.ref b), .val .null, .unset, .unset]) (fun m => by first | (simp [entryFrame, mkF, argsToLocals, Value.category]; done) | rfl) ?_
  intro p_ e_ s_ m_ bel_ mt_ cd_ C
  refine g_aload_n C d_jdk_42_method_150_0 rfl rfl (pc' := 1) rfl ?_
  refine g_objinit C (Wx15 hw) (Wx16 hw) (Wx17 hw) rfl (by first | decide | exact Nat.le_of_ble_eq_true rfl) (by first | decide | exact Nat.le_of_ble_eq_true rfl) d_jdk_42_method_150_1 (pc' := 4) rfl ?_
  refine g_aload_n C d_jdk_42_method_150_4 rfl rfl (pc' := 5) rfl ?_
  refine g_virtualC C (W := 0) (argsL := []) (rest := []) (con_gv l Z a0 hw h b t cs S) (Wx127 hw) (Wx128 hw) (Wx130 hw) (nfOf (Wx130 hw) rfl) (Wx129 hw) (Wx57 hw) (Wx131 hw) (by first | decide | exact Nat.le_of_ble_eq_true rfl) (S.1) rfl (lenOf pd17 rfl) rfl (Nat.le_of_eq rfl) d_jdk_42_method_150_5 (pc' := 8) rfl (by first | decide | exact Nat.le_of_ble_eq_true rfl) (by first | decide | exact Nat.le_of_ble_eq_true rfl) (fun _ q => nomatch q) (by first | decide | exact Nat.le_of_ble_eq_true rfl) (by first | decide | exact Nat.le_of_ble_eq_true rfl) ?_
  rintro _ hh ⟨rfl, eh_⟩ K
  subst hh
  refine g_norm (cells' := 0) (slots' := 0) (st' := [(.ref t)]) (by first | decide | exact Nat.le_of_ble_eq_true rfl) (by first | decide | exact Nat.le_of_ble_eq_true rfl) rfl ?_
  refine g_astore_n C d_jdk_42_method_150_8 rfl (Ls' := #[.val (.ref x), .val (.ref b), .val .null, .val (.ref t), .unset]) rfl (pc' := 9) rfl ?_
  refine g_aload_n C d_jdk_42_method_150_9 rfl rfl (pc' := 10) rfl ?_
  refine g_virtualC C (W := 0) (argsL := []) (rest := []) (con_slen l Z a0 hw h b t cs S) (Wx132 hw) (Wx133 hw) (Wx135 hw) (nfOf (Wx91 hw) rfl) (Wx136 hw) (Wx49 hw) (Wx137 hw) (by first | decide | exact Nat.le_of_ble_eq_true rfl) (S.1) rfl (lenOf pd13 rfl) rfl (Nat.le_of_eq rfl) d_jdk_42_method_150_10 (pc' := 13) rfl (by first | decide | exact Nat.le_of_ble_eq_true rfl) (by first | decide | exact Nat.le_of_ble_eq_true rfl) (fun _ q => nomatch q) (by first | decide | exact Nat.le_of_ble_eq_true rfl) (by first | decide | exact Nat.le_of_ble_eq_true rfl) ?_
  rintro _ hh ⟨rfl, eh_⟩ K
  subst hh
  refine g_norm (cells' := 0) (slots' := 0) (st' := [(.int (Int32.ofNat cs.length))]) (by first | decide | exact Nat.le_of_ble_eq_true rfl) (by first | decide | exact Nat.le_of_ble_eq_true rfl) rfl ?_
  refine g_istore C d_jdk_42_method_150_13 (Ls' := #[.val (.ref x), .val (.ref b), .val .null, .val (.ref t), .val (.int (Int32.ofNat cs.length))]) rfl (pc' := 15) rfl ?_
  refine g_aload_n C d_jdk_42_method_150_15 rfl rfl (pc' := 16) rfl ?_
  refine g_virtualC C (W := 0) (argsL := []) (rest := []) (con_lat l Z a0 hw h hS b t cs S) (Wx140 hw) (Wx141 hw) (Wx143 hw) (nfOf (Wx143 hw) rfl) (Wx142 hw) (Wx57 hw) (Wx144 hw) (by first | decide | exact Nat.le_of_ble_eq_true rfl) (S.1) rfl (lenOf pd18 rfl) rfl (Nat.le_of_eq rfl) d_jdk_42_method_150_16 (pc' := 19) rfl (by first | decide | exact Nat.le_of_ble_eq_true rfl) (by first | decide | exact Nat.le_of_ble_eq_true rfl) (fun _ q => nomatch q) (by first | decide | exact Nat.le_of_ble_eq_true rfl) (by first | decide | exact Nat.le_of_ble_eq_true rfl) ?_
  rintro _ hh ⟨rfl, eh_⟩ K
  subst hh
  refine g_norm (cells' := 0) (slots' := 0) (st' := [(.int (1 : Int32))]) (by first | decide | exact Nat.le_of_ble_eq_true rfl) (by first | decide | exact Nat.le_of_ble_eq_true rfl) rfl ?_
  refine g_ifeq C d_jdk_42_method_150_19 (by first | decide | exact Nat.le_of_ble_eq_true rfl) (pcT := 41) rfl (pcF := 22) rfl (fun zz_ => absurd zz_ (by first | decide | exact Nat.le_of_ble_eq_true rfl)) (fun _ => ?_)
  refine g_aload_n C d_jdk_42_method_150_22 rfl rfl (pc' := 23) rfl ?_
  refine g_iconst C d_jdk_42_method_150_23 (x := (0 : Int32)) rfl (pc' := 24) rfl ?_
  refine g_putfield C (Wx25 hw) Via.refl (v' := (.int (0 : Int32))) (Cd) (E) (Or.inr ⟨(Wx21 hw), rfl, rfl⟩) (Wx5 hw) (ty := .byte) (by first | decide | exact Nat.le_of_ble_eq_true rfl) rfl rfl (Or.inl (List.mem_cons_self ..)) d_jdk_42_method_150_24 (pc' := 27) rfl ?_
  intro h1 W1
  obtain ⟨Eb, Nb, Cb, Vb, f, A, q⟩ := id S
  have hxt : t ≠ x := (by obtain ⟨kb, Ab⟩ := A.arv (.int 0); exact (Exa.neArv E Ab (Wx5 hw)).symm)
  have E1 := Exa.wr W1 E
  have D1 := Fld.same W1 Cd
  have V1 := Fld.other W1 V (Or.inr (slot_ne (Or.inr (Wx20 hw)) (Or.inr (Wx21 hw)) (by first | decide | exact Nat.le_of_ble_eq_true rfl) (t := (.array .byte)) (by first | decide | exact Nat.le_of_ble_eq_true rfl) (t' := .byte) (by first | decide | exact Nat.le_of_ble_eq_true rfl)))
  have A1 := A.other W1 hxt
  refine g_aload_n C d_jdk_42_method_150_27 rfl rfl (pc' := 28) rfl ?_
  refine g_aload_n C d_jdk_42_method_150_28 rfl rfl (pc' := 29) rfl ?_
  refine g_iconst C d_jdk_42_method_150_29 (x := (0 : Int32)) rfl (pc' := 30) rfl ?_
  refine g_iload C d_jdk_42_method_150_30 rfl (pc' := 32) rfl ?_
  refine g_staticC C (W := 1) (argsL := [(.ref t), (.int (0 : Int32)), (.int (Int32.ofNat cs.length))]) (rest := [(.ref x)]) (con_cr l Z a0 hw h1 t f A1 cs.length hn) (Wx145 hw) (Wx146 hw) (Wx147 hw) (Wx148 hw) (by first | decide | exact Nat.le_of_ble_eq_true rfl) rfl (lenOf pd16 rfl) rfl (Nat.le_of_eq rfl) d_jdk_42_method_150_32 (pc' := 35) rfl (by first | decide | exact Nat.le_of_ble_eq_true rfl) (by first | decide | exact Nat.le_of_ble_eq_true rfl) (fun _ q => nomatch q) (by first | decide | exact Nat.le_of_ble_eq_true rfl) (by first | decide | exact Nat.le_of_ble_eq_true rfl) ?_
  rintro _ h2 ⟨u, g, rfl, hu, A2, q2⟩ K2
  refine g_norm (cells' := 1) (slots' := 16) (st' := [(.ref u), (.ref x)]) (by first | decide | exact Nat.le_of_ble_eq_true rfl) (by first | decide | exact Nat.le_of_ble_eq_true rfl) rfl ?_
  have E2 := E1.keep K2
  have D2 := D1.keep K2 (by simp)
  have V2 := V1.keep K2 (by simp)
  refine g_putfield C (Wx24 hw) Via.refl (v' := (.ref u)) (V2) (E2) (Or.inr ⟨(Wx20 hw), rfl, rfl⟩) (Wx5 hw) (ty := (.array .byte)) (by first | decide | exact Nat.le_of_ble_eq_true rfl) rfl rfl (Or.inl (List.mem_cons_self ..)) d_jdk_42_method_150_35 (pc' := 38) rfl ?_
  intro h3 W3
  have hux : u ≠ x := (Nat.ne_of_lt (Nat.lt_of_lt_of_le E1.lt hu)).symm
  have E3 := Exa.wr W3 E2
  have V3 := Fld.same W3 V2
  have D3 := Fld.other W3 D2 (Or.inr (slot_ne (Or.inr (Wx21 hw)) (Or.inr (Wx20 hw)) (by first | decide | exact Nat.le_of_ble_eq_true rfl) (t := .byte) (by first | decide | exact Nat.le_of_ble_eq_true rfl) (t' := (.array .byte)) (by first | decide | exact Nat.le_of_ble_eq_true rfl)))
  obtain ⟨kb, A3⟩ := bytes_str (A2.other W3 hux) (fun i hi => (q2 i hi).trans (q i hi))
  refine g_goto C d_jdk_42_method_150_38 (by first | decide | exact Nat.le_of_ble_eq_true rfl) (pc' := 97) rfl ?_
  exact g_return C d_jdk_42_method_150_97 (⟨rfl, by omega, hr, E3, D3, u, kb, V3, A3⟩) (by first | decide | exact Nat.le_of_ble_eq_true rfl) (by first | decide | exact Nat.le_of_ble_eq_true rfl)
set_option maxRecDepth 65536 in
set_option maxHeartbeats 40000000 in
theorem con_is (l : Launch) (Z : State) (a0 : Array Value) (hw : ∀ d ∈ tables_1, d.before a0 Z = true)  (h : Heap) (hS : SS Z) (x b t : Addr) (cs : List Int32) (E : Exa Z h x "java/lang/String") (V : Fld Z h x "java/lang/String" "value" "[B" .null) (Cd : Fld Z h x "java/lang/String" "coder" "B" (.int 0)) (S : Sb Z h b t cs) (hn : cs.length < 16) (hr : ∀ c ∈ cs, ¬ c < 0 ∧ ¬ (255 : Int32) < c) : Con l Z [x] (⟨"java/lang/String", "<init>", "(Ljava/lang/StringBuilder;)V"⟩ : MethodName) jdk_42_method_53_code 2 (none) ({ frames := 4, cells := 1, slots := 16, locals := 65 } : Room) #[(.ref x), (.ref b)] h [] (fun v h' => v = none ∧ Str Z h' x cs) := by
  refine Con.of (plainFor_of_name pn0) (Ls := #[.val (.ref x), .val (.ref b)]) (fun m => by first | (simp [entryFrame, mkF, argsToLocals, Value.category]; done) | rfl) ?_
  intro p_ e_ s_ m_ bel_ mt_ cd_ C
  refine g_aload_n C d_jdk_42_method_53_0 rfl rfl (pc' := 1) rfl ?_
  refine g_aload_n C d_jdk_42_method_53_1 rfl rfl (pc' := 2) rfl ?_
  refine g_aconst_null C d_jdk_42_method_53_2 (pc' := 3) rfl ?_
  refine g_specialC C (W := 0) (argsL := [(.ref b), .null]) (rest := []) (con_isv l Z a0 hw h hS x b t cs E V Cd S hn hr) rfl (Wx124 hw) (Wx125 hw) (Wx6 hw) (Wx126 hw) (by first | decide | exact Nat.le_of_ble_eq_true rfl) rfl (lenOf pd19 rfl) rfl (Nat.le_of_eq rfl) d_jdk_42_method_53_3 (pc' := 6) rfl (by first | decide | exact Nat.le_of_ble_eq_true rfl) (by first | decide | exact Nat.le_of_ble_eq_true rfl) (fun y q => Or.inl q) (by first | decide | exact Nat.le_of_ble_eq_true rfl) (by first | decide | exact Nat.le_of_ble_eq_true rfl) ?_
  rintro _ h1 ⟨rfl, S1⟩ K
  refine g_norm (cells' := 1) (slots' := 16) (st' := []) (by first | decide | exact Nat.le_of_ble_eq_true rfl) (by first | decide | exact Nat.le_of_ble_eq_true rfl) rfl ?_
  exact g_return C d_jdk_42_method_53_6 (⟨rfl, S1⟩) (by first | decide | exact Nat.le_of_ble_eq_true rfl) (by first | decide | exact Nat.le_of_ble_eq_true rfl)
set_option maxRecDepth 65536 in
set_option maxHeartbeats 40000000 in
theorem con_tos (l : Launch) (Z : State) (a0 : Array Value) (hw : ∀ d ∈ tables_1, d.before a0 Z = true)  (h : Heap) (hS : SS Z) (b t : Addr) (cs : List Int32) (S : Sb Z h b t cs) (hn : cs.length < 16) (hr : ∀ c ∈ cs, ¬ c < 0 ∧ ¬ (255 : Int32) < c) : Con l Z [] (⟨"java/lang/StringBuilder", "toString", "()Ljava/lang/String;"⟩ : MethodName) jdk_67_method_42_code 1 ((some (Jvm.ClassFile.FieldType.object "java/lang/String"))) ({ frames := 5, cells := 2, slots := 20, locals := 79 } : Room) #[(.ref b)] h [] (fun v h' => ∃ x, v = some (.ref x) ∧ Str Z h' x cs) := by
  refine Con.of (plainFor_of_name pn6) (Ls := #[.val (.ref b)]) (fun m => by first | (simp [entryFrame, mkF, argsToLocals, Value.category]; done) | rfl) ?_
  intro p_ e_ s_ m_ bel_ mt_ cd_ C
  refine g_new C (Wx120 hw) (Wx5 hw) (Wx6 hw) d_jdk_67_method_42_0 (pc' := 3) rfl (by first | decide | exact Nat.le_of_ble_eq_true rfl) (by first | decide | exact Nat.le_of_ble_eq_true rfl) ?_
  intro h1 x hx hx0 X1 E1 D1
  refine g_norm (cells' := 1) (slots' := 4) (st' := [(.ref x)]) (by first | decide | exact Nat.le_of_ble_eq_true rfl) (by first | decide | exact Nat.le_of_ble_eq_true rfl) rfl ?_
  refine g_dup C d_jdk_67_method_42_3 rfl (pc' := 4) rfl ?_
  refine g_aload_n C d_jdk_67_method_42_4 rfl rfl (pc' := 5) rfl ?_
  refine g_specialC C (W := 1) (argsL := [(.ref b)]) (rest := [(.ref x)]) (con_is l Z a0 hw h1 hS x b t cs E1 (D1 (Or.inr (Wx20 hw)) (ty := (.array .byte)) (by first | decide | exact Nat.le_of_ble_eq_true rfl)) (D1 (Or.inr (Wx21 hw)) (ty := .byte) (by first | decide | exact Nat.le_of_ble_eq_true rfl)) (S.ext X1) hn hr) rfl (Wx121 hw) (Wx122 hw) (Wx6 hw) (Wx123 hw) (by first | decide | exact Nat.le_of_ble_eq_true rfl) rfl (lenOf pd20 rfl) rfl (Nat.le_of_eq rfl) d_jdk_67_method_42_5 (pc' := 8) rfl (by first | decide | exact Nat.le_of_ble_eq_true rfl) (by first | decide | exact Nat.le_of_ble_eq_true rfl) (fun y q => by cases List.mem_singleton.mp q; exact Or.inr hx0) (by first | decide | exact Nat.le_of_ble_eq_true rfl) (by first | decide | exact Nat.le_of_ble_eq_true rfl) ?_
  rintro _ h2 ⟨rfl, S1⟩ K
  refine g_norm (cells' := 2) (slots' := 20) (st' := [(.ref x)]) (by first | decide | exact Nat.le_of_ble_eq_true rfl) (by first | decide | exact Nat.le_of_ble_eq_true rfl) rfl ?_
  exact g_areturn C rfl rfl d_jdk_67_method_42_8 (⟨x, rfl, S1⟩) (by first | decide | exact Nat.le_of_ble_eq_true rfl) (by first | decide | exact Nat.le_of_ble_eq_true rfl)
set_option maxRecDepth 65536 in
set_option maxHeartbeats 40000000 in
theorem con_rc (l : Launch) (Z : State) (a0 : Array Value) (hw : ∀ d ∈ tables_1, d.before a0 Z = true)  (h : Heap) (hS : SS Z) (hH : Jvm.Lit.constsHeld consts_1 Z) (hcw : Jvm.Lit.compactW.before a0 Z = true) (o sx nx : Addr) (ss ns : List Int32) (Fi : Fld Z h o "com/example/naviglio/naviglio/Dialect$DirtyReads" "isolation" "Ljava/lang/String;" (.ref sx)) (Fr : Fld Z h o "com/example/naviglio/naviglio/Dialect$DirtyReads" "readUncommitted" "Ljava/lang/String;" (.ref nx)) (Ss : Str Z h sx ss) (Sn : Str Z h nx ns) (hl1 : ss.length ≤ 2) (hl2 : ns.length ≤ 2) (I0 : LL) (hL : LE Z h I0) : ConS l Z [] (⟨"com/example/naviglio/naviglio/Dialect$DirtyReads", "readsCommitted", "()Ljava/lang/String;"⟩ : MethodName) prog_11_method_2_code 1 ((some (Jvm.ClassFile.FieldType.object "java/lang/String"))) ({ frames := 6, cells := 8, slots := 72, locals := 91 } : Room) #[(.ref o)] h [] (some I0) (fun v h' _ => ∃ r, v = some (.ref r) ∧ Str Z h' r ([] ++ ss ++ [32, 60, 62, 32, 39] ++ ns ++ [39])) := by
  refine ConS.of (plainFor_of_name pn4) (Ls := #[.val (.ref o)]) (fun m => by first | (simp [entryFrame, mkF, argsToLocals, Value.category]; done) | rfl) ?_
  intro p_ e_ s_ m_ bel_ mt_ cd_ vm0 C B0
  refine g_new C (Wx47 hw) (Wx48 hw) (Wx49 hw) d_prog_11_method_2_0 (pc' := 3) rfl (by first | decide | exact Nat.le_of_ble_eq_true rfl) (by first | decide | exact Nat.le_of_ble_eq_true rfl) ?_
  intro h1 b hb1 hb0 X1 E1 D1
  refine g_norm (cells' := 1) (slots' := 4) (st' := [(.ref b)]) (by first | decide | exact Nat.le_of_ble_eq_true rfl) (by first | decide | exact Nat.le_of_ble_eq_true rfl) rfl ?_
  refine g_dup C d_prog_11_method_2_3 rfl (pc' := 4) rfl ?_
  refine g_specialC C (W := 1) (argsL := []) (rest := [(.ref b)]) (con_sb l Z a0 hw h1 hS b E1 (D1 (Or.inl (Wx62 hw)) (ty := (.array .byte)) (by first | decide | exact Nat.le_of_ble_eq_true rfl)) (D1 (Or.inl (Wx64 hw)) (ty := .byte) (by first | decide | exact Nat.le_of_ble_eq_true rfl)) (D1 (Or.inl (Wx87 hw)) (ty := .int) (by first | decide | exact Nat.le_of_ble_eq_true rfl))) rfl (Wx50 hw) (Wx51 hw) (Wx49 hw) (Wx52 hw) (by first | decide | exact Nat.le_of_ble_eq_true rfl) rfl (lenOf pd6 rfl) rfl (Nat.le_of_eq rfl) d_prog_11_method_2_4 (pc' := 7) rfl (by first | decide | exact Nat.le_of_ble_eq_true rfl) (by first | decide | exact Nat.le_of_ble_eq_true rfl) (fun y q => by cases List.mem_singleton.mp q; exact Or.inr hb0) (by first | decide | exact Nat.le_of_ble_eq_true rfl) (by first | decide | exact Nat.le_of_ble_eq_true rfl) ?_
  rintro _ h2 ⟨rfl, t, ht, S2⟩ K2
  refine g_norm (cells' := 2) (slots' := 20) (st' := [(.ref b)]) (by first | decide | exact Nat.le_of_ble_eq_true rfl) (by first | decide | exact Nat.le_of_ble_eq_true rfl) rfl ?_
  refine g_aload_n C d_prog_11_method_2_7 rfl rfl (pc' := 8) rfl ?_
  have ht0 : h.size ≤ t := Nat.le_trans X1.1 ht
  have hsub : ∀ y ∈ [b, t], y ∈ ([] : List Addr) ∨ h.size ≤ y := fun y q => by simp only [List.mem_cons, List.not_mem_nil, or_false] at q; rcases q with rfl | rfl; exact Or.inr hb0; exact Or.inr ht0
  refine g_ctx C fun Ka Ea => ?_
  refine g_getfield C (Wx38 hw) Via.refl (Fi.keep Ka (by simp)) d_prog_11_method_2_8 (pc' := 11) rfl ?_
  refine g_virtualC C (W := 0) (argsL := [(.ref sx)]) (rest := []) (con_app l Z a0 hw h2 hS b t sx [] ss S2 (Ss.keep Ka (by simp)) (by simp only [List.length_nil]; omega)) (Wx65 hw) (Wx66 hw) (Wx68 hw) (nfOf (Wx68 hw) rfl) (Wx67 hw) (Wx49 hw) (Wx69 hw) (by first | decide | exact Nat.le_of_ble_eq_true rfl) (S2.1) rfl (lenOf pd21 rfl) rfl (Nat.le_of_eq rfl) d_prog_11_method_2_11 (pc' := 14) rfl (by first | decide | exact Nat.le_of_ble_eq_true rfl) (by first | decide | exact Nat.le_of_ble_eq_true rfl) hsub (by first | decide | exact Nat.le_of_ble_eq_true rfl) (by first | decide | exact Nat.le_of_ble_eq_true rfl) ?_
  rintro _ h3 ⟨rfl, S3⟩ K3
  refine g_norm (cells' := 2) (slots' := 20) (st' := [(.ref b)]) (by first | decide | exact Nat.le_of_ble_eq_true rfl) (by first | decide | exact Nat.le_of_ble_eq_true rfl) rfl ?_
  refine g_ctx C fun Kb Eb => ?_
  refine g_ldcNew C (text := " <> '") (fun b cl q => Kb.2.1 b cl q (by simp)) B0 (by have q0 := (X1).1; have q1 := (K2).1; have q2 := (K3).1; omega) (Wx113 hw) (Ws_str hw) (hL.not (by first | decide | exact Nat.le_of_ble_eq_true rfl)) (hH ("com/example/naviglio/naviglio/Dialect$DirtyReads", 23) (by first | decide | exact Nat.le_of_ble_eq_true rfl)) hcw (cs := [32, 60, 62, 32, 39]) ⟨by decide, by decide⟩ (by first | decide | exact Nat.le_of_ble_eq_true rfl) (by first | decide | exact Nat.le_of_ble_eq_true rfl) d_prog_11_method_2_14 (pc' := 16) rfl (n := 20) (by first | decide | exact Nat.le_of_ble_eq_true rfl) (by first | decide | exact Nat.le_of_ble_eq_true rfl) (by first | decide | exact Nat.le_of_ble_eq_true rfl) (by first | decide | exact Nat.le_of_ble_eq_true rfl) ?_
  intro vm1 h4 lit1 C1 B1 X4 Sl1
  refine g_norm (cells' := 4) (slots' := 44) (st' := [(.ref lit1), (.ref b)]) (by first | decide | exact Nat.le_of_ble_eq_true rfl) (by first | decide | exact Nat.le_of_ble_eq_true rfl) rfl ?_
  refine g_virtualC C1 (W := 0) (argsL := [(.ref lit1)]) (rest := []) (con_app l Z a0 hw h4 hS b t lit1 ([] ++ ss) [32, 60, 62, 32, 39] (S3.ext X4) Sl1 (by simp only [List.nil_append, List.length_cons, List.length_nil]; omega)) (Wx65 hw) (Wx66 hw) (Wx68 hw) (nfOf (Wx68 hw) rfl) (Wx67 hw) (Wx49 hw) (Wx69 hw) (by first | decide | exact Nat.le_of_ble_eq_true rfl) (S3.1.ext X4) rfl (lenOf pd21 rfl) rfl (Nat.le_of_eq rfl) d_prog_11_method_2_16 (pc' := 19) rfl (by first | decide | exact Nat.le_of_ble_eq_true rfl) (by first | decide | exact Nat.le_of_ble_eq_true rfl) hsub (by first | decide | exact Nat.le_of_ble_eq_true rfl) (by first | decide | exact Nat.le_of_ble_eq_true rfl) ?_
  rintro _ h5 ⟨rfl, S5⟩ K5
  refine g_norm (cells' := 4) (slots' := 44) (st' := [(.ref b)]) (by first | decide | exact Nat.le_of_ble_eq_true rfl) (by first | decide | exact Nat.le_of_ble_eq_true rfl) rfl ?_
  refine g_aload_n C1 d_prog_11_method_2_19 rfl rfl (pc' := 20) rfl ?_
  refine g_ctx C1 fun Kc Ec => ?_
  refine g_getfield C1 (Wx40 hw) Via.refl (Fr.keep Kc (by simp)) d_prog_11_method_2_20 (pc' := 23) rfl ?_
  refine g_virtualC C1 (W := 0) (argsL := [(.ref nx)]) (rest := []) (con_app l Z a0 hw h5 hS b t nx ([] ++ ss ++ [32, 60, 62, 32, 39]) ns S5 (Sn.keep Kc (by simp)) (by simp only [List.nil_append, List.length_append, List.length_cons, List.length_nil]; omega)) (Wx65 hw) (Wx66 hw) (Wx68 hw) (nfOf (Wx68 hw) rfl) (Wx67 hw) (Wx49 hw) (Wx69 hw) (by first | decide | exact Nat.le_of_ble_eq_true rfl) (S5.1) rfl (lenOf pd21 rfl) rfl (Nat.le_of_eq rfl) d_prog_11_method_2_23 (pc' := 26) rfl (by first | decide | exact Nat.le_of_ble_eq_true rfl) (by first | decide | exact Nat.le_of_ble_eq_true rfl) hsub (by first | decide | exact Nat.le_of_ble_eq_true rfl) (by first | decide | exact Nat.le_of_ble_eq_true rfl) ?_
  rintro _ h6 ⟨rfl, S6⟩ K6
  refine g_norm (cells' := 4) (slots' := 44) (st' := [(.ref b)]) (by first | decide | exact Nat.le_of_ble_eq_true rfl) (by first | decide | exact Nat.le_of_ble_eq_true rfl) rfl ?_
  refine g_ctx C1 fun Kd Ed => ?_
  refine g_ldcNew C1 (text := "'") (fun b cl q => Kd.2.1 b cl q (by simp)) B1 (by have q0 := (K5).1; have q1 := (K6).1; omega) (Wx114 hw) (Ws_str hw) (fun hm => by rcases List.mem_cons.mp hm with q | q; exact absurd (show ("'" : String) = " <> '" from q) (by first | decide | exact Nat.le_of_ble_eq_true rfl); exact hL.not (by first | decide | exact Nat.le_of_ble_eq_true rfl) q) (hH ("com/example/naviglio/naviglio/Dialect$DirtyReads", 25) (by first | decide | exact Nat.le_of_ble_eq_true rfl)) hcw (cs := [39]) ⟨by decide, by decide⟩ (by first | decide | exact Nat.le_of_ble_eq_true rfl) (by first | decide | exact Nat.le_of_ble_eq_true rfl) d_prog_11_method_2_26 (pc' := 28) rfl (n := 4) (by first | decide | exact Nat.le_of_ble_eq_true rfl) (by first | decide | exact Nat.le_of_ble_eq_true rfl) (by first | decide | exact Nat.le_of_ble_eq_true rfl) (by first | decide | exact Nat.le_of_ble_eq_true rfl) ?_
  intro vm2 h7 lit2 C2 B2 X7 Sl2
  refine g_norm (cells' := 6) (slots' := 52) (st' := [(.ref lit2), (.ref b)]) (by first | decide | exact Nat.le_of_ble_eq_true rfl) (by first | decide | exact Nat.le_of_ble_eq_true rfl) rfl ?_
  refine g_virtualC C2 (W := 0) (argsL := [(.ref lit2)]) (rest := []) (con_app l Z a0 hw h7 hS b t lit2 ([] ++ ss ++ [32, 60, 62, 32, 39] ++ ns) [39] (S6.ext X7) Sl2 (by simp only [List.nil_append, List.length_append, List.length_cons, List.length_nil]; omega)) (Wx65 hw) (Wx66 hw) (Wx68 hw) (nfOf (Wx68 hw) rfl) (Wx67 hw) (Wx49 hw) (Wx69 hw) (by first | decide | exact Nat.le_of_ble_eq_true rfl) (S6.1.ext X7) rfl (lenOf pd21 rfl) rfl (Nat.le_of_eq rfl) d_prog_11_method_2_28 (pc' := 31) rfl (by first | decide | exact Nat.le_of_ble_eq_true rfl) (by first | decide | exact Nat.le_of_ble_eq_true rfl) hsub (by first | decide | exact Nat.le_of_ble_eq_true rfl) (by first | decide | exact Nat.le_of_ble_eq_true rfl) ?_
  rintro _ h8 ⟨rfl, S8⟩ K8
  refine g_norm (cells' := 6) (slots' := 52) (st' := [(.ref b)]) (by first | decide | exact Nat.le_of_ble_eq_true rfl) (by first | decide | exact Nat.le_of_ble_eq_true rfl) rfl ?_
  have hr9 : ∀ c ∈ [] ++ ss ++ [32, 60, 62, 32, 39] ++ ns ++ [39], ¬ c < 0 ∧ ¬ (255 : Int32) < c := by
    intro c hc
    simp only [List.nil_append, List.mem_append] at hc
    rcases hc with ((hc | hc) | hc) | hc
    · exact Ss.2.1 c hc
    · exact (by decide : ∀ x ∈ ([32, 60, 62, 32, 39] : List Int32), ¬ x < 0 ∧ ¬ (255 : Int32) < x) c hc
    · exact Sn.2.1 c hc
    · exact (by decide : ∀ x ∈ ([39] : List Int32), ¬ x < 0 ∧ ¬ (255 : Int32) < x) c hc
  refine g_virtualC C2 (W := 0) (argsL := []) (rest := []) (con_tos l Z a0 hw h8 hS b t ([] ++ ss ++ [32, 60, 62, 32, 39] ++ ns ++ [39]) S8 (by simp only [List.nil_append, List.length_append, List.length_cons, List.length_nil]; omega) hr9) (Wx115 hw) (Wx116 hw) (Wx118 hw) (nfOf (Wx118 hw) rfl) (Wx117 hw) (Wx49 hw) (Wx119 hw) (by first | decide | exact Nat.le_of_ble_eq_true rfl) (S8.1) rfl (lenOf pd22 rfl) rfl (Nat.le_of_eq rfl) d_prog_11_method_2_31 (pc' := 34) rfl (by first | decide | exact Nat.le_of_ble_eq_true rfl) (by first | decide | exact Nat.le_of_ble_eq_true rfl) (fun _ q => nomatch q) (by first | decide | exact Nat.le_of_ble_eq_true rfl) (by first | decide | exact Nat.le_of_ble_eq_true rfl) ?_
  rintro _ h9 ⟨r, rfl, S9⟩ K9
  refine g_norm (cells' := 8) (slots' := 72) (st' := [(.ref r)]) (by first | decide | exact Nat.le_of_ble_eq_true rfl) (by first | decide | exact Nat.le_of_ble_eq_true rfl) rfl ?_
  exact b_areturn C2 B2 (by have q0 := (K8).1; have q1 := (K9).1; omega) rfl rfl d_prog_11_method_2_34 (⟨r, rfl, S9⟩) (by first | decide | exact Nat.le_of_ble_eq_true rfl) (by first | decide | exact Nat.le_of_ble_eq_true rfl)
set_option maxRecDepth 65536 in
set_option maxHeartbeats 40000000 in
theorem con_exp (l : Launch) (Z : State) (a0 : Array Value) (hw : ∀ d ∈ tables_1, d.before a0 Z = true)  (h : Heap) (i sl nl : Nat) (c0 c1 d0 d1 : Int32) (hi : i ≤ 10) (hsl : sl ≤ 2) (hnl : nl ≤ 2) : Con l Z [] (⟨"com/example/naviglio/naviglio/DirtyReadsReadsCommittedPinLaw", "exp", "(IICCICC)C"⟩ : MethodName) method_5_code 9 ((some Jvm.ClassFile.FieldType.char)) ({ frames := 0, cells := 0, slots := 0, locals := 0 } : Room) #[(.int (Int32.ofNat i)), (.int (Int32.ofNat sl)), (.int c0), (.int c1), (.int (Int32.ofNat nl)), (.int d0), (.int d1)] h [] (fun v h' => v = some (.int (nar .char (expF i sl c0 c1 nl d0 d1))) ∧ h' = h) := by
  refine Con.of (plainFor_of_name pn2) (Ls := #[.val (.int (Int32.ofNat i)), .val (.int (Int32.ofNat sl)), .val (.int c0), .val (.int c1), .val (.int (Int32.ofNat nl)), .val (.int d0), .val (.int d1), .unset, .unset]) (fun m => by first | (simp [entryFrame, mkF, argsToLocals, Value.category]; done) | rfl) ?_
  intro p_ e_ s_ m_ bel_ mt_ cd_ C
  refine g_iload_n C d_method_5_0 rfl (pc' := 1) rfl ?_
  refine g_iload_n C d_method_5_1 rfl (pc' := 2) rfl ?_
  refine g_if_icmpge C d_method_5_2 (by first | decide | exact Nat.le_of_ble_eq_true rfl) (pcT := 15) rfl (pcF := 5) rfl ?_ ?_
  · intro z
    have zi : ¬ i < sl := fun q => z ((lt_n (by omega) (by omega)).2 q)
    refine g_iload_n C d_method_5_15 rfl (pc' := 16) rfl ?_
    refine g_iload_n C d_method_5_16 rfl (pc' := 17) rfl ?_
    refine g_isub C d_method_5_17 (pc' := 18) rfl ?_
    rw [sub_n (show sl ≤ i by omega)]
    refine g_istore C d_method_5_18 (Ls' := #[.val (.int (Int32.ofNat i)), .val (.int (Int32.ofNat sl)), .val (.int c0), .val (.int c1), .val (.int (Int32.ofNat nl)), .val (.int d0), .val (.int d1), .val (.int (Int32.ofNat (i - sl))), .unset]) rfl (pc' := 20) rfl ?_
    refine g_iload C d_method_5_20 rfl (pc' := 22) rfl ?_
    refine g_ifne C d_method_5_22 (by first | decide | exact Nat.le_of_ble_eq_true rfl) (pcT := 28) rfl (pcF := 25) rfl ?_ ?_
    · intro z0
      have n0 : ¬ i - sl = 0 := fun q => z0 (congrArg Int32.ofNat q)
      refine g_iload C d_method_5_28 rfl (pc' := 30) rfl ?_
      refine g_iconst C d_method_5_30 (x := (1 : Int32)) rfl (pc' := 31) rfl ?_
      refine g_if_icmpne C d_method_5_31 (by first | decide | exact Nat.le_of_ble_eq_true rfl) (pcT := 37) rfl (pcF := 34) rfl ?_ ?_
      · intro z1
        have n1 : ¬ i - sl = 1 := fun q => z1 (congrArg Int32.ofNat q)
        refine g_iload C d_method_5_37 rfl (pc' := 39) rfl ?_
        refine g_iconst C d_method_5_39 (x := (2 : Int32)) rfl (pc' := 40) rfl ?_
        refine g_if_icmpne C d_method_5_40 (by first | decide | exact Nat.le_of_ble_eq_true rfl) (pcT := 46) rfl (pcF := 43) rfl ?_ ?_
        · intro z2
          have n2 : ¬ i - sl = 2 := fun q => z2 (congrArg Int32.ofNat q)
          refine g_iload C d_method_5_46 rfl (pc' := 48) rfl ?_
          refine g_iconst C d_method_5_48 (x := (3 : Int32)) rfl (pc' := 49) rfl ?_
          refine g_if_icmpne C d_method_5_49 (by first | decide | exact Nat.le_of_ble_eq_true rfl) (pcT := 55) rfl (pcF := 52) rfl ?_ ?_
          · intro z3
            have n3 : ¬ i - sl = 3 := fun q => z3 (congrArg Int32.ofNat q)
            refine g_iload C d_method_5_55 rfl (pc' := 57) rfl ?_
            refine g_iconst C d_method_5_57 (x := (4 : Int32)) rfl (pc' := 58) rfl ?_
            refine g_if_icmpne C d_method_5_58 (by first | decide | exact Nat.le_of_ble_eq_true rfl) (pcT := 64) rfl (pcF := 61) rfl ?_ ?_
            · intro z4
              have n4 : ¬ i - sl = 4 := fun q => z4 (congrArg Int32.ofNat q)
              refine g_iload C d_method_5_64 rfl (pc' := 66) rfl ?_
              refine g_iconst C d_method_5_66 (x := (5 : Int32)) rfl (pc' := 67) rfl ?_
              refine g_isub C d_method_5_67 (pc' := 68) rfl ?_
              rw [show Int32.ofNat (i - sl) - (5 : Int32) = Int32.ofNat (i - sl - 5) from sub_n (k := 5) (by omega)]
              refine g_istore C d_method_5_68 (Ls' := #[.val (.int (Int32.ofNat i)), .val (.int (Int32.ofNat sl)), .val (.int c0), .val (.int c1), .val (.int (Int32.ofNat nl)), .val (.int d0), .val (.int d1), .val (.int (Int32.ofNat (i - sl))), .val (.int (Int32.ofNat (i - sl - 5)))]) rfl (pc' := 70) rfl ?_
              refine g_iload C d_method_5_70 rfl (pc' := 72) rfl ?_
              refine g_iload C d_method_5_72 rfl (pc' := 74) rfl ?_
              refine g_if_icmpge C d_method_5_74 (by first | decide | exact Nat.le_of_ble_eq_true rfl) (pcT := 90) rfl (pcF := 77) rfl ?_ ?_
              · intro zz
                have zj : ¬ i - sl - 5 < nl := fun q => zz ((lt_n (by omega) (by omega)).2 q)
                refine g_bipush C d_method_5_90 (x := (39 : Int32)) rfl (pc' := 92) rfl ?_
                exact g_ireturnN C (by simp) d_method_5_92 (⟨congrArg (fun x => some (Value.int (nar .char x))) (by unfold expF; rw [if_neg zi, if_neg n0, if_neg n1, if_neg n2, if_neg n3, if_neg n4, if_neg zj]), rfl⟩) (by first | decide | exact Nat.le_of_ble_eq_true rfl) (by first | decide | exact Nat.le_of_ble_eq_true rfl)
              · intro zz
                have zj : i - sl - 5 < nl := (lt_n (by omega) (by omega)).1 zz
                refine g_iload C d_method_5_77 rfl (pc' := 79) rfl ?_
                refine g_ifne C d_method_5_79 (by first | decide | exact Nat.le_of_ble_eq_true rfl) (pcT := 87) rfl (pcF := 82) rfl ?_ ?_
                · intro zk
                  have ze : ¬ i - sl - 5 = 0 := fun q => zk (congrArg Int32.ofNat q)
                  refine g_iload C d_method_5_87 rfl (pc' := 89) rfl ?_
                  exact g_ireturnN C (by simp) d_method_5_89 (⟨congrArg (fun x => some (Value.int (nar .char x))) (by unfold expF; rw [if_neg zi, if_neg n0, if_neg n1, if_neg n2, if_neg n3, if_neg n4, if_pos zj, if_neg ze]), rfl⟩) (by first | decide | exact Nat.le_of_ble_eq_true rfl) (by first | decide | exact Nat.le_of_ble_eq_true rfl)
                · intro zk
                  have ze : i - sl - 5 = 0 := (eq_n (k := 0) (by omega) (by omega)).1 zk
                  refine g_iload C d_method_5_82 rfl (pc' := 84) rfl ?_
                  refine g_goto C d_method_5_84 (by first | decide | exact Nat.le_of_ble_eq_true rfl) (pc' := 89) rfl ?_
                  exact g_ireturnN C (by simp) d_method_5_89 (⟨congrArg (fun x => some (Value.int (nar .char x))) (by unfold expF; rw [if_neg zi, if_neg n0, if_neg n1, if_neg n2, if_neg n3, if_neg n4, if_pos zj, if_pos ze]), rfl⟩) (by first | decide | exact Nat.le_of_ble_eq_true rfl) (by first | decide | exact Nat.le_of_ble_eq_true rfl)
            · intro z4
              have y4 : i - sl = 4 := (eq_n (k := 4) (by omega) (by omega)).1 z4
              refine g_bipush C d_method_5_61 (x := (39 : Int32)) rfl (pc' := 63) rfl ?_
              exact g_ireturnN C (by simp) d_method_5_63 (⟨congrArg (fun x => some (Value.int (nar .char x))) (by skip; unfold expF; rw [if_neg zi, if_neg n0, if_neg n1, if_neg n2, if_neg n3, if_pos y4]), rfl⟩) (by first | decide | exact Nat.le_of_ble_eq_true rfl) (by first | decide | exact Nat.le_of_ble_eq_true rfl)
          · intro z3
            have y3 : i - sl = 3 := (eq_n (k := 3) (by omega) (by omega)).1 z3
            refine g_bipush C d_method_5_52 (x := (32 : Int32)) rfl (pc' := 54) rfl ?_
            exact g_ireturnN C (by simp) d_method_5_54 (⟨congrArg (fun x => some (Value.int (nar .char x))) (by skip; unfold expF; rw [if_neg zi, if_neg n0, if_neg n1, if_neg n2, if_pos y3]), rfl⟩) (by first | decide | exact Nat.le_of_ble_eq_true rfl) (by first | decide | exact Nat.le_of_ble_eq_true rfl)
        · intro z2
          have y2 : i - sl = 2 := (eq_n (k := 2) (by omega) (by omega)).1 z2
          refine g_bipush C d_method_5_43 (x := (62 : Int32)) rfl (pc' := 45) rfl ?_
          exact g_ireturnN C (by simp) d_method_5_45 (⟨congrArg (fun x => some (Value.int (nar .char x))) (by skip; unfold expF; rw [if_neg zi, if_neg n0, if_neg n1, if_pos y2]), rfl⟩) (by first | decide | exact Nat.le_of_ble_eq_true rfl) (by first | decide | exact Nat.le_of_ble_eq_true rfl)
      · intro z1
        have y1 : i - sl = 1 := (eq_n (k := 1) (by omega) (by omega)).1 z1
        refine g_bipush C d_method_5_34 (x := (60 : Int32)) rfl (pc' := 36) rfl ?_
        exact g_ireturnN C (by simp) d_method_5_36 (⟨congrArg (fun x => some (Value.int (nar .char x))) (by skip; unfold expF; rw [if_neg zi, if_neg n0, if_pos y1]), rfl⟩) (by first | decide | exact Nat.le_of_ble_eq_true rfl) (by first | decide | exact Nat.le_of_ble_eq_true rfl)
    · intro z0
      have y0 : i - sl = 0 := (eq_n (k := 0) (by omega) (by omega)).1 z0
      refine g_bipush C d_method_5_25 (x := (32 : Int32)) rfl (pc' := 27) rfl ?_
      exact g_ireturnN C (by simp) d_method_5_27 (⟨congrArg (fun x => some (Value.int (nar .char x))) (by skip; unfold expF; rw [if_neg zi, if_pos y0]), rfl⟩) (by first | decide | exact Nat.le_of_ble_eq_true rfl) (by first | decide | exact Nat.le_of_ble_eq_true rfl)
  · intro z
    have zi : i < sl := (lt_n (by omega) (by omega)).1 z
    refine g_iload_n C d_method_5_5 rfl (pc' := 6) rfl ?_
    refine g_ifne C d_method_5_6 (by first | decide | exact Nat.le_of_ble_eq_true rfl) (pcT := 13) rfl (pcF := 9) rfl ?_ ?_
    · intro zk
      have ze : ¬ i = 0 := fun q => zk (congrArg Int32.ofNat q)
      refine g_iload_n C d_method_5_13 rfl (pc' := 14) rfl ?_
      exact g_ireturnN C (by simp) d_method_5_14 (⟨congrArg (fun x => some (Value.int (nar .char x))) (by unfold expF; rw [if_pos zi, if_neg ze]), rfl⟩) (by first | decide | exact Nat.le_of_ble_eq_true rfl) (by first | decide | exact Nat.le_of_ble_eq_true rfl)
    · intro zk
      have ze : i = 0 := (eq_n (k := 0) (by omega) (by omega)).1 zk
      refine g_iload_n C d_method_5_9 rfl (pc' := 10) rfl ?_
      refine g_goto C d_method_5_10 (by first | decide | exact Nat.le_of_ble_eq_true rfl) (pc' := 14) rfl ?_
      exact g_ireturnN C (by simp) d_method_5_14 (⟨congrArg (fun x => some (Value.int (nar .char x))) (by unfold expF; rw [if_pos zi, if_pos ze]), rfl⟩) (by first | decide | exact Nat.le_of_ble_eq_true rfl) (by first | decide | exact Nat.le_of_ble_eq_true rfl)
set_option maxRecDepth 65536 in
set_option maxHeartbeats 40000000 in
theorem con_at (l : Launch) (Z : State) (a0 : Array Value) (hw : ∀ d ∈ tables_1, d.before a0 Z = true)  (h : Heap) (hS : SS Z) (x : Addr) (i sl nl : Nat) (c0 c1 d0 d1 : Int32) (hi : i ≤ 10) (hsl : sl ≤ 2) (hnl : nl ≤ 2) (S : Str Z h x (allL sl c0 c1 nl d0 d1)) : Con l Z [] (⟨"com/example/naviglio/naviglio/DirtyReadsReadsCommittedPinLaw", "at", "(Ljava/lang/String;IIICCICC)Z"⟩ : MethodName) method_4_code 9 ((some Jvm.ClassFile.FieldType.boolean)) ({ frames := 4, cells := 0, slots := 0, locals := 53 } : Room) #[(.ref x), (.int (Int32.ofNat i)), (.int (Int32.ofNat (sl + nl + 6))), (.int (Int32.ofNat sl)), (.int c0), (.int c1), (.int (Int32.ofNat nl)), (.int d0), (.int d1)] h [] (fun v h' => v = some (.int 1) ∧ h' = h) := by
  refine Con.of (plainFor_of_name pn2) (Ls := #[.val (.ref x), .val (.int (Int32.ofNat i)), .val (.int (Int32.ofNat (sl + nl + 6))), .val (.int (Int32.ofNat sl)), .val (.int c0), .val (.int c1), .val (.int (Int32.ofNat nl)), .val (.int d0), .val (.int d1)]) (fun m => by first | (simp [entryFrame, mkF, argsToLocals, Value.category]; done) | rfl) ?_
  intro p_ e_ s_ m_ bel_ mt_ cd_ C
  refine g_iload_n C d_method_4_0 rfl (pc' := 1) rfl ?_
  refine g_iload_n C d_method_4_1 rfl (pc' := 2) rfl ?_
  refine g_if_icmplt C d_method_4_2 (by first | decide | exact Nat.le_of_ble_eq_true rfl) (pcT := 7) rfl (pcF := 5) rfl ?_ ?_
  · intro z
    have zi : i < sl + nl + 6 := (lt_n (by omega) (by omega)).1 z
    have hlen : (allL sl c0 c1 nl d0 d1).length = sl + nl + 6 := allL_len hsl hnl c0 c1 d0 d1
    have hex := allL_at hsl hnl c0 c1 d0 d1 i zi
    have hok := Lt1.of (S.2.1 ((allL sl c0 c1 nl d0 d1).getD i 0) (by rw [List.getD_eq_getElem?_getD, List.getElem?_eq_getElem (by omega)]; exact List.getElem_mem _))
    refine g_aload_n C d_method_4_7 rfl rfl (pc' := 8) rfl ?_
    refine g_iload_n C d_method_4_8 rfl (pc' := 9) rfl ?_
    refine g_charat C hS S (i := i) (by omega) rfl (Ws_chN hw) (Wx5 hw) (Wx164 hw) (Wx165 hw) (Wx167 hw) (Wx166 hw) rfl d_method_4_9 (pc' := 12) rfl (by first | decide | exact Nat.le_of_ble_eq_true rfl) (by first | decide | exact Nat.le_of_ble_eq_true rfl) (by first | decide | exact Nat.le_of_ble_eq_true rfl) (by first | decide | exact Nat.le_of_ble_eq_true rfl) ?_
    refine g_iload_n C d_method_4_12 rfl (pc' := 13) rfl ?_
    refine g_iload_n C d_method_4_13 rfl (pc' := 14) rfl ?_
    refine g_iload C d_method_4_14 rfl (pc' := 16) rfl ?_
    refine g_iload C d_method_4_16 rfl (pc' := 18) rfl ?_
    refine g_iload C d_method_4_18 rfl (pc' := 20) rfl ?_
    refine g_iload C d_method_4_20 rfl (pc' := 22) rfl ?_
    refine g_iload C d_method_4_22 rfl (pc' := 24) rfl ?_
    refine g_staticC C (W := 1) (argsL := [(.int (Int32.ofNat i)), (.int (Int32.ofNat sl)), (.int c0), (.int c1), (.int (Int32.ofNat nl)), (.int d0), (.int d1)]) (rest := [(.int ((allL sl c0 c1 nl d0 d1).getD i 0))]) (con_exp l Z a0 hw h i sl nl c0 c1 d0 d1 hi hsl hnl) (Wx186 hw) (Wx187 hw) (Wx2 hw) (Wx188 hw) (by first | decide | exact Nat.le_of_ble_eq_true rfl) rfl (lenOf pd23 rfl) rfl (Nat.le_of_eq rfl) d_method_4_24 (pc' := 27) rfl (by first | decide | exact Nat.le_of_ble_eq_true rfl) (by first | decide | exact Nat.le_of_ble_eq_true rfl) (fun _ q => nomatch q) (by first | decide | exact Nat.le_of_ble_eq_true rfl) (by first | decide | exact Nat.le_of_ble_eq_true rfl) ?_
    rintro _ hh ⟨rfl, eh_⟩ K
    subst hh
    refine g_norm (cells' := 0) (slots' := 0) (st' := [(.int (nar .char (expF i sl c0 c1 nl d0 d1))), (.int ((allL sl c0 c1 nl d0 d1).getD i 0))]) (by first | decide | exact Nat.le_of_ble_eq_true rfl) (by first | decide | exact Nat.le_of_ble_eq_true rfl) rfl ?_
    refine g_if_icmpne C d_method_4_27 (by first | decide | exact Nat.le_of_ble_eq_true rfl) (pcT := 34) rfl (pcF := 30) rfl (fun zz_ => absurd (by rw [hex]; exact hok.nar.symm) zz_) (fun _ => ?_)
    refine g_iconst C d_method_4_30 (x := (1 : Int32)) rfl (pc' := 31) rfl ?_
    refine g_goto C d_method_4_31 (by first | decide | exact Nat.le_of_ble_eq_true rfl) (pc' := 35) rfl ?_
    exact g_ireturnN C (by simp) d_method_4_35 (⟨rfl, rfl⟩) (by first | decide | exact Nat.le_of_ble_eq_true rfl) (by first | decide | exact Nat.le_of_ble_eq_true rfl)
  · intro z
    refine g_iconst C d_method_4_5 (x := (1 : Int32)) rfl (pc' := 6) rfl ?_
    exact g_ireturnN C (by simp) d_method_4_6 (⟨rfl, rfl⟩) (by first | decide | exact Nat.le_of_ble_eq_true rfl) (by first | decide | exact Nat.le_of_ble_eq_true rfl)
set_option maxRecDepth 65536 in
set_option maxHeartbeats 40000000 in
theorem con_law (l : Launch) (Z : State) (a0 : Array Value) (hw : ∀ d ∈ tables_1, d.before a0 Z = true)  (h : Heap) (hS : SS Z) (hH : Jvm.Lit.constsHeld consts_1 Z) (hcw : Jvm.Lit.compactW.before a0 Z = true) (p0 p1 : Int32) : ConS l Z [] x code maxLocals (ret) room_1 #[(.int p0), (.int p1)] h tables_1 (some []) (fun v _ _ => v = some (.int 1)) := by
  refine ConS.of (plainFor_of_name pn2) (Ls := #[.val (.int p0), .val (.int p1), .unset, .unset, .unset, .unset, .unset, .unset, .unset, .unset, .unset, .unset]) (fun m => by first | (simp [entryFrame, mkF, argsToLocals, Value.category, maxLocals]; done) | rfl) ?_
  intro p_ e_ s_ m_ bel_ mt_ cd_ vm0 C B0
  refine g_iload_n C at_0 rfl (pc' := 1) rfl ?_
  refine g_sipush C at_1 (x := (255 : Int32)) rfl (pc' := 4) rfl ?_
  refine g_iand C at_4 (pc' := 5) rfl ?_
  refine g_i2c C at_5 (pc' := 6) rfl ?_
  have q_c0 := Lt1.mask p0
  obtain ⟨c0, h_c0⟩ : ∃ z : Int32, z = (nar .char (p0 &&& (255 : Int32))) := ⟨_, rfl⟩
  rw [← h_c0]
  rw [← h_c0] at q_c0
  refine g_istore_n C at_6 (Ls' := #[.val (.int p0), .val (.int p1), .val (.int c0), .unset, .unset, .unset, .unset, .unset, .unset, .unset, .unset, .unset]) rfl (pc' := 7) rfl ?_
  refine g_iload_n C at_7 rfl (pc' := 8) rfl ?_
  refine g_bipush C at_8 (x := (8 : Int32)) rfl (pc' := 10) rfl ?_
  refine g_iushr C at_10 (pc' := 11) rfl ?_
  refine g_sipush C at_11 (x := (255 : Int32)) rfl (pc' := 14) rfl ?_
  refine g_iand C at_14 (pc' := 15) rfl ?_
  refine g_i2c C at_15 (pc' := 16) rfl ?_
  have q_c1 := Lt1.mask (ushr p0 (8 : Int32))
  obtain ⟨c1, h_c1⟩ : ∃ z : Int32, z = (nar .char ((ushr p0 (8 : Int32)) &&& (255 : Int32))) := ⟨_, rfl⟩
  rw [← h_c1]
  rw [← h_c1] at q_c1
  refine g_istore_n C at_16 (Ls' := #[.val (.int p0), .val (.int p1), .val (.int c0), .val (.int c1), .unset, .unset, .unset, .unset, .unset, .unset, .unset, .unset]) rfl (pc' := 17) rfl ?_
  refine g_iload_n C at_17 rfl (pc' := 18) rfl ?_
  refine g_bipush C at_18 (x := (16 : Int32)) rfl (pc' := 20) rfl ?_
  refine g_iushr C at_20 (pc' := 21) rfl ?_
  refine g_sipush C at_21 (x := (255 : Int32)) rfl (pc' := 24) rfl ?_
  refine g_iand C at_24 (pc' := 25) rfl ?_
  refine g_iconst C at_25 (x := (3 : Int32)) rfl (pc' := 26) rfl ?_
  refine g_irem C at_26 (by first | decide | exact Nat.le_of_ble_eq_true rfl) (pc' := 27) rfl ?_
  obtain ⟨sl, e_sl, hsl⟩ := idx3 (ushr p0 (16 : Int32))
  rw [e_sl]
  refine g_istore C at_27 (Ls' := #[.val (.int p0), .val (.int p1), .val (.int c0), .val (.int c1), .val (.int (Int32.ofNat sl)), .unset, .unset, .unset, .unset, .unset, .unset, .unset]) rfl (pc' := 29) rfl ?_
  refine g_iload_n C at_29 rfl (pc' := 30) rfl ?_
  refine g_sipush C at_30 (x := (255 : Int32)) rfl (pc' := 33) rfl ?_
  refine g_iand C at_33 (pc' := 34) rfl ?_
  refine g_i2c C at_34 (pc' := 35) rfl ?_
  have q_d0 := Lt1.mask p1
  obtain ⟨d0, h_d0⟩ : ∃ z : Int32, z = (nar .char (p1 &&& (255 : Int32))) := ⟨_, rfl⟩
  rw [← h_d0]
  rw [← h_d0] at q_d0
  refine g_istore C at_35 (Ls' := #[.val (.int p0), .val (.int p1), .val (.int c0), .val (.int c1), .val (.int (Int32.ofNat sl)), .val (.int d0), .unset, .unset, .unset, .unset, .unset, .unset]) rfl (pc' := 37) rfl ?_
  refine g_iload_n C at_37 rfl (pc' := 38) rfl ?_
  refine g_bipush C at_38 (x := (8 : Int32)) rfl (pc' := 40) rfl ?_
  refine g_iushr C at_40 (pc' := 41) rfl ?_
  refine g_sipush C at_41 (x := (255 : Int32)) rfl (pc' := 44) rfl ?_
  refine g_iand C at_44 (pc' := 45) rfl ?_
  refine g_i2c C at_45 (pc' := 46) rfl ?_
  have q_d1 := Lt1.mask (ushr p1 (8 : Int32))
  obtain ⟨d1, h_d1⟩ : ∃ z : Int32, z = (nar .char ((ushr p1 (8 : Int32)) &&& (255 : Int32))) := ⟨_, rfl⟩
  rw [← h_d1]
  rw [← h_d1] at q_d1
  refine g_istore C at_46 (Ls' := #[.val (.int p0), .val (.int p1), .val (.int c0), .val (.int c1), .val (.int (Int32.ofNat sl)), .val (.int d0), .val (.int d1), .unset, .unset, .unset, .unset, .unset]) rfl (pc' := 48) rfl ?_
  refine g_iload_n C at_48 rfl (pc' := 49) rfl ?_
  refine g_bipush C at_49 (x := (16 : Int32)) rfl (pc' := 51) rfl ?_
  refine g_iushr C at_51 (pc' := 52) rfl ?_
  refine g_sipush C at_52 (x := (255 : Int32)) rfl (pc' := 55) rfl ?_
  refine g_iand C at_55 (pc' := 56) rfl ?_
  refine g_iconst C at_56 (x := (3 : Int32)) rfl (pc' := 57) rfl ?_
  refine g_irem C at_57 (by first | decide | exact Nat.le_of_ble_eq_true rfl) (pc' := 58) rfl ?_
  obtain ⟨nl, e_nl, hnl⟩ := idx3 (ushr p1 (16 : Int32))
  rw [e_nl]
  refine g_istore C at_58 (Ls' := #[.val (.int p0), .val (.int p1), .val (.int c0), .val (.int c1), .val (.int (Int32.ofNat sl)), .val (.int d0), .val (.int d1), .val (.int (Int32.ofNat nl)), .unset, .unset, .unset, .unset]) rfl (pc' := 60) rfl ?_
  refine g_iload C at_60 rfl (pc' := 62) rfl ?_
  refine g_iload_n C at_62 rfl (pc' := 63) rfl ?_
  refine g_iload_n C at_63 rfl (pc' := 64) rfl ?_
  refine b_static C B0 (Nat.le_refl _) (W := 0) (argsL := [(.int (Int32.ofNat sl)), (.int c0), (.int c1)]) (rest := []) (con_str l Z a0 hw h hS hH hcw sl hsl c0 c1 q_c0 q_c1 [] (Or.inl rfl)) (Wx0 hw) (Wx1 hw) (Wx2 hw) (Wx3 hw) (by first | decide | exact Nat.le_of_ble_eq_true rfl) rfl (lenOf pd24 rfl) rfl (Nat.le_of_eq rfl) at_64 (pc' := 67) rfl (by first | decide | exact Nat.le_of_ble_eq_true rfl) (by first | decide | exact Nat.le_of_ble_eq_true rfl) (fun _ q => nomatch q) (by first | decide | exact Nat.le_of_ble_eq_true rfl) (by first | decide | exact Nat.le_of_ble_eq_true rfl) ?_
  rintro vm1 _ h1 J C1 B1 ⟨sx, rfl, Ss, J1, rfl, L1⟩ K1
  refine g_norm (cells' := 4) (slots' := 8) (st' := [(.ref sx)]) (by first | decide | exact Nat.le_of_ble_eq_true rfl) (by first | decide | exact Nat.le_of_ble_eq_true rfl) rfl ?_
  refine g_astore C1 at_67 rfl (Ls' := #[.val (.int p0), .val (.int p1), .val (.int c0), .val (.int c1), .val (.int (Int32.ofNat sl)), .val (.int d0), .val (.int d1), .val (.int (Int32.ofNat nl)), .val (.ref sx), .unset, .unset, .unset]) rfl (pc' := 69) rfl ?_
  refine g_iload C1 at_69 rfl (pc' := 71) rfl ?_
  refine g_iload C1 at_71 rfl (pc' := 73) rfl ?_
  refine g_iload C1 at_73 rfl (pc' := 75) rfl ?_
  refine b_static C1 B1 (Nat.le_refl _) (W := 0) (argsL := [(.int (Int32.ofNat nl)), (.int d0), (.int d1)]) (rest := []) (con_str l Z a0 hw h1 hS hH hcw nl hnl d0 d1 q_d0 q_d1 J1 L1) (Wx0 hw) (Wx1 hw) (Wx2 hw) (Wx3 hw) (by first | decide | exact Nat.le_of_ble_eq_true rfl) rfl (lenOf pd24 rfl) rfl (Nat.le_of_eq rfl) at_75 (pc' := 78) rfl (by first | decide | exact Nat.le_of_ble_eq_true rfl) (by first | decide | exact Nat.le_of_ble_eq_true rfl) (fun _ q => nomatch q) (by first | decide | exact Nat.le_of_ble_eq_true rfl) (by first | decide | exact Nat.le_of_ble_eq_true rfl) ?_
  rintro vm2 _ h2 J C2 B2 ⟨nx, rfl, Sn, J2, rfl, L2⟩ K2
  refine g_norm (cells' := 8) (slots' := 16) (st' := [(.ref nx)]) (by first | decide | exact Nat.le_of_ble_eq_true rfl) (by first | decide | exact Nat.le_of_ble_eq_true rfl) rfl ?_
  have Ss2 := Ss.keep K2 (by simp)
  refine g_astore C2 at_78 rfl (Ls' := #[.val (.int p0), .val (.int p1), .val (.int c0), .val (.int c1), .val (.int (Int32.ofNat sl)), .val (.int d0), .val (.int d1), .val (.int (Int32.ofNat nl)), .val (.ref sx), .val (.ref nx), .unset, .unset]) rfl (pc' := 80) rfl ?_
  refine g_new C2 (Wx26 hw) (Wx27 hw) (Wx28 hw) at_80 (pc' := 83) rfl (by first | decide | exact Nat.le_of_ble_eq_true rfl) (by first | decide | exact Nat.le_of_ble_eq_true rfl) ?_
  intro h3 o ho ho0 X3 E3 D3
  refine g_norm (cells' := 9) (slots' := 18) (st' := [(.ref o)]) (by first | decide | exact Nat.le_of_ble_eq_true rfl) (by first | decide | exact Nat.le_of_ble_eq_true rfl) rfl ?_
  refine g_dup C2 at_83 rfl (pc' := 84) rfl ?_
  refine g_aload C2 at_84 rfl rfl (pc' := 86) rfl ?_
  refine g_aload C2 at_86 rfl rfl (pc' := 88) rfl ?_
  refine g_specialC C2 (W := 1) (argsL := [(.ref sx), (.ref nx)]) (rest := [(.ref o)]) (con_dr l Z a0 hw h3 o sx nx E3 (D3 (Or.inr (Wx39 hw)) (ty := (.object "java/lang/String")) (by first | decide | exact Nat.le_of_ble_eq_true rfl)) (D3 (Or.inr (Wx41 hw)) (ty := (.object "java/lang/String")) (by first | decide | exact Nat.le_of_ble_eq_true rfl))) rfl (Wx29 hw) (Wx30 hw) (Wx28 hw) (Wx31 hw) (by first | decide | exact Nat.le_of_ble_eq_true rfl) rfl (lenOf pd25 rfl) rfl (Nat.le_of_eq rfl) at_88 (pc' := 91) rfl (by first | decide | exact Nat.le_of_ble_eq_true rfl) (by first | decide | exact Nat.le_of_ble_eq_true rfl) (fun y q => by cases List.mem_singleton.mp q; exact Or.inr ho0) (by first | decide | exact Nat.le_of_ble_eq_true rfl) (by first | decide | exact Nat.le_of_ble_eq_true rfl) ?_
  rintro _ h4 ⟨rfl, E4, G4, R4⟩ K4
  refine g_norm (cells' := 9) (slots' := 18) (st' := [(.ref o)]) (by first | decide | exact Nat.le_of_ble_eq_true rfl) (by first | decide | exact Nat.le_of_ble_eq_true rfl) rfl ?_
  have nst : ∀ y ∈ [o], Nst Z h3 y := fun y q => by cases List.mem_singleton.mp q; exact Or.inr ⟨_, _, _, E3, (Wx27 hw), by decide⟩
  have Ss4 := (Ss2.ext X3).keep K4 nst
  have Sn4 := (Sn.ext X3).keep K4 nst
  have L4 := (L2.ext X3).keep K4 nst
  refine b_virtual C2 B2 (by have q0 := (X3).1; have q1 := (K4).1; omega) (W := 0) (argsL := []) (rest := []) (con_rc l Z a0 hw h4 hS hH hcw o sx nx (strL sl c0 c1) (strL nl d0 d1) G4 R4 Ss4 Sn4 (by rw [strL_len hsl]; exact hsl) (by rw [strL_len hnl]; exact hnl) J2 L4) (Wx42 hw) (Wx43 hw) (Wx45 hw) (nfOf (Wx45 hw) rfl) (Wx44 hw) (Wx28 hw) (Wx46 hw) (by first | decide | exact Nat.le_of_ble_eq_true rfl) (E4) rfl (lenOf pd22 rfl) rfl (Nat.le_of_eq rfl) at_91 (pc' := 94) rfl (by first | decide | exact Nat.le_of_ble_eq_true rfl) (by first | decide | exact Nat.le_of_ble_eq_true rfl) (fun _ q => nomatch q) (by first | decide | exact Nat.le_of_ble_eq_true rfl) (by first | decide | exact Nat.le_of_ble_eq_true rfl) ?_
  rintro vm3 _ h5 J C3 B3 ⟨r, rfl, Sr⟩ K5
  refine g_norm (cells' := 17) (slots' := 90) (st' := [(.ref r)]) (by first | decide | exact Nat.le_of_ble_eq_true rfl) (by first | decide | exact Nat.le_of_ble_eq_true rfl) rfl ?_
  have Sr2 : Str Z h5 r (allL sl c0 c1 nl d0 d1) := Sr
  have hlen : (allL sl c0 c1 nl d0 d1).length = sl + nl + 6 := allL_len hsl hnl c0 c1 d0 d1
  refine g_astore C3 at_94 rfl (Ls' := #[.val (.int p0), .val (.int p1), .val (.int c0), .val (.int c1), .val (.int (Int32.ofNat sl)), .val (.int d0), .val (.int d1), .val (.int (Int32.ofNat nl)), .val (.ref sx), .val (.ref nx), .val (.ref r), .unset]) rfl (pc' := 96) rfl ?_
  refine g_iload C3 at_96 rfl (pc' := 98) rfl ?_
  refine g_iload C3 at_98 rfl (pc' := 100) rfl ?_
  refine g_iadd C3 at_100 (pc' := 101) rfl ?_
  refine g_bipush C3 at_101 (x := (6 : Int32)) rfl (pc' := 103) rfl ?_
  refine g_iadd C3 at_103 (pc' := 104) rfl ?_
  rw [show Int32.ofNat sl + Int32.ofNat nl + (6 : Int32) = Int32.ofNat (sl + nl + 6) from by rw [Int32.ofNat_add, Int32.ofNat_add]; rfl]
  refine g_istore C3 at_104 (Ls' := #[.val (.int p0), .val (.int p1), .val (.int c0), .val (.int c1), .val (.int (Int32.ofNat sl)), .val (.int d0), .val (.int d1), .val (.int (Int32.ofNat nl)), .val (.ref sx), .val (.ref nx), .val (.ref r), .val (.int (Int32.ofNat (sl + nl + 6)))]) rfl (pc' := 106) rfl ?_
  refine g_aload C3 at_106 rfl rfl (pc' := 108) rfl ?_
  refine g_ifnull C3 rfl at_108 (by first | decide | exact Nat.le_of_ble_eq_true rfl) (pcT := 121) rfl (pcF := 111) rfl (fun z => nomatch z) (fun _ _ => ?_)
  refine g_aload C3 at_111 rfl rfl (pc' := 113) rfl ?_
  refine g_strlen C3 hS Sr2 (z := Int32.ofNat (sl + nl + 6)) (by rw [hlen]) (Ws_lenW hw) (Wx5 hw) (Wx160 hw) (Wx76 hw) (Wx78 hw) (Wx77 hw) rfl at_113 (pc' := 116) rfl (by first | decide | exact Nat.le_of_ble_eq_true rfl) (by first | decide | exact Nat.le_of_ble_eq_true rfl) (by first | decide | exact Nat.le_of_ble_eq_true rfl) (by first | decide | exact Nat.le_of_ble_eq_true rfl) ?_
  refine g_iload C3 at_116 rfl (pc' := 118) rfl ?_
  refine g_if_icmpeq C3 at_118 (by first | decide | exact Nat.le_of_ble_eq_true rfl) (pcT := 123) rfl (pcF := 121) rfl (fun _ => ?_) (fun zz_ => absurd (rfl) zz_)
  refine g_aload C3 at_123 rfl rfl (pc' := 125) rfl ?_
  refine g_iconst C3 at_125 (x := (0 : Int32)) rfl (pc' := 126) rfl ?_
  refine g_iload C3 at_126 rfl (pc' := 128) rfl ?_
  refine g_iload C3 at_128 rfl (pc' := 130) rfl ?_
  refine g_iload_n C3 at_130 rfl (pc' := 131) rfl ?_
  refine g_iload_n C3 at_131 rfl (pc' := 132) rfl ?_
  refine g_iload C3 at_132 rfl (pc' := 134) rfl ?_
  refine g_iload C3 at_134 rfl (pc' := 136) rfl ?_
  refine g_iload C3 at_136 rfl (pc' := 138) rfl ?_
  refine g_staticC C3 (W := 0) (argsL := [(.ref r), (.int (0 : Int32)), (.int (Int32.ofNat (sl + nl + 6))), (.int (Int32.ofNat sl)), (.int c0), (.int c1), (.int (Int32.ofNat nl)), (.int d0), (.int d1)]) (rest := []) (con_at l Z a0 hw h5 hS r 0 sl nl c0 c1 d0 d1 (by first | decide | exact Nat.le_of_ble_eq_true rfl) hsl hnl Sr2) (Wx161 hw) (Wx162 hw) (Wx2 hw) (Wx163 hw) (by first | decide | exact Nat.le_of_ble_eq_true rfl) rfl (lenOf pd26 rfl) rfl (Nat.le_of_eq rfl) at_138 (pc' := 141) rfl (by first | decide | exact Nat.le_of_ble_eq_true rfl) (by first | decide | exact Nat.le_of_ble_eq_true rfl) (fun _ q => nomatch q) (by first | decide | exact Nat.le_of_ble_eq_true rfl) (by first | decide | exact Nat.le_of_ble_eq_true rfl) ?_
  rintro _ hh ⟨rfl, eh_⟩ K
  subst hh
  refine g_norm (cells' := 17) (slots' := 90) (st' := [(.int (1 : Int32))]) (by first | decide | exact Nat.le_of_ble_eq_true rfl) (by first | decide | exact Nat.le_of_ble_eq_true rfl) rfl ?_
  refine g_ifeq C3 at_141 (by first | decide | exact Nat.le_of_ble_eq_true rfl) (pcT := 341) rfl (pcF := 144) rfl (fun zz_ => absurd zz_ (by first | decide | exact Nat.le_of_ble_eq_true rfl)) (fun _ => ?_)
  refine g_aload C3 at_144 rfl rfl (pc' := 146) rfl ?_
  refine g_iconst C3 at_146 (x := (1 : Int32)) rfl (pc' := 147) rfl ?_
  refine g_iload C3 at_147 rfl (pc' := 149) rfl ?_
  refine g_iload C3 at_149 rfl (pc' := 151) rfl ?_
  refine g_iload_n C3 at_151 rfl (pc' := 152) rfl ?_
  refine g_iload_n C3 at_152 rfl (pc' := 153) rfl ?_
  refine g_iload C3 at_153 rfl (pc' := 155) rfl ?_
  refine g_iload C3 at_155 rfl (pc' := 157) rfl ?_
  refine g_iload C3 at_157 rfl (pc' := 159) rfl ?_
  refine g_staticC C3 (W := 0) (argsL := [(.ref r), (.int (1 : Int32)), (.int (Int32.ofNat (sl + nl + 6))), (.int (Int32.ofNat sl)), (.int c0), (.int c1), (.int (Int32.ofNat nl)), (.int d0), (.int d1)]) (rest := []) (con_at l Z a0 hw h5 hS r 1 sl nl c0 c1 d0 d1 (by first | decide | exact Nat.le_of_ble_eq_true rfl) hsl hnl Sr2) (Wx161 hw) (Wx162 hw) (Wx2 hw) (Wx163 hw) (by first | decide | exact Nat.le_of_ble_eq_true rfl) rfl (lenOf pd26 rfl) rfl (Nat.le_of_eq rfl) at_159 (pc' := 162) rfl (by first | decide | exact Nat.le_of_ble_eq_true rfl) (by first | decide | exact Nat.le_of_ble_eq_true rfl) (fun _ q => nomatch q) (by first | decide | exact Nat.le_of_ble_eq_true rfl) (by first | decide | exact Nat.le_of_ble_eq_true rfl) ?_
  rintro _ hh ⟨rfl, eh_⟩ K
  subst hh
  refine g_norm (cells' := 17) (slots' := 90) (st' := [(.int (1 : Int32))]) (by first | decide | exact Nat.le_of_ble_eq_true rfl) (by first | decide | exact Nat.le_of_ble_eq_true rfl) rfl ?_
  refine g_ifeq C3 at_162 (by first | decide | exact Nat.le_of_ble_eq_true rfl) (pcT := 341) rfl (pcF := 165) rfl (fun zz_ => absurd zz_ (by first | decide | exact Nat.le_of_ble_eq_true rfl)) (fun _ => ?_)
  refine g_aload C3 at_165 rfl rfl (pc' := 167) rfl ?_
  refine g_iconst C3 at_167 (x := (2 : Int32)) rfl (pc' := 168) rfl ?_
  refine g_iload C3 at_168 rfl (pc' := 170) rfl ?_
  refine g_iload C3 at_170 rfl (pc' := 172) rfl ?_
  refine g_iload_n C3 at_172 rfl (pc' := 173) rfl ?_
  refine g_iload_n C3 at_173 rfl (pc' := 174) rfl ?_
  refine g_iload C3 at_174 rfl (pc' := 176) rfl ?_
  refine g_iload C3 at_176 rfl (pc' := 178) rfl ?_
  refine g_iload C3 at_178 rfl (pc' := 180) rfl ?_
  refine g_staticC C3 (W := 0) (argsL := [(.ref r), (.int (2 : Int32)), (.int (Int32.ofNat (sl + nl + 6))), (.int (Int32.ofNat sl)), (.int c0), (.int c1), (.int (Int32.ofNat nl)), (.int d0), (.int d1)]) (rest := []) (con_at l Z a0 hw h5 hS r 2 sl nl c0 c1 d0 d1 (by first | decide | exact Nat.le_of_ble_eq_true rfl) hsl hnl Sr2) (Wx161 hw) (Wx162 hw) (Wx2 hw) (Wx163 hw) (by first | decide | exact Nat.le_of_ble_eq_true rfl) rfl (lenOf pd26 rfl) rfl (Nat.le_of_eq rfl) at_180 (pc' := 183) rfl (by first | decide | exact Nat.le_of_ble_eq_true rfl) (by first | decide | exact Nat.le_of_ble_eq_true rfl) (fun _ q => nomatch q) (by first | decide | exact Nat.le_of_ble_eq_true rfl) (by first | decide | exact Nat.le_of_ble_eq_true rfl) ?_
  rintro _ hh ⟨rfl, eh_⟩ K
  subst hh
  refine g_norm (cells' := 17) (slots' := 90) (st' := [(.int (1 : Int32))]) (by first | decide | exact Nat.le_of_ble_eq_true rfl) (by first | decide | exact Nat.le_of_ble_eq_true rfl) rfl ?_
  refine g_ifeq C3 at_183 (by first | decide | exact Nat.le_of_ble_eq_true rfl) (pcT := 341) rfl (pcF := 186) rfl (fun zz_ => absurd zz_ (by first | decide | exact Nat.le_of_ble_eq_true rfl)) (fun _ => ?_)
  refine g_aload C3 at_186 rfl rfl (pc' := 188) rfl ?_
  refine g_iconst C3 at_188 (x := (3 : Int32)) rfl (pc' := 189) rfl ?_
  refine g_iload C3 at_189 rfl (pc' := 191) rfl ?_
  refine g_iload C3 at_191 rfl (pc' := 193) rfl ?_
  refine g_iload_n C3 at_193 rfl (pc' := 194) rfl ?_
  refine g_iload_n C3 at_194 rfl (pc' := 195) rfl ?_
  refine g_iload C3 at_195 rfl (pc' := 197) rfl ?_
  refine g_iload C3 at_197 rfl (pc' := 199) rfl ?_
  refine g_iload C3 at_199 rfl (pc' := 201) rfl ?_
  refine g_staticC C3 (W := 0) (argsL := [(.ref r), (.int (3 : Int32)), (.int (Int32.ofNat (sl + nl + 6))), (.int (Int32.ofNat sl)), (.int c0), (.int c1), (.int (Int32.ofNat nl)), (.int d0), (.int d1)]) (rest := []) (con_at l Z a0 hw h5 hS r 3 sl nl c0 c1 d0 d1 (by first | decide | exact Nat.le_of_ble_eq_true rfl) hsl hnl Sr2) (Wx161 hw) (Wx162 hw) (Wx2 hw) (Wx163 hw) (by first | decide | exact Nat.le_of_ble_eq_true rfl) rfl (lenOf pd26 rfl) rfl (Nat.le_of_eq rfl) at_201 (pc' := 204) rfl (by first | decide | exact Nat.le_of_ble_eq_true rfl) (by first | decide | exact Nat.le_of_ble_eq_true rfl) (fun _ q => nomatch q) (by first | decide | exact Nat.le_of_ble_eq_true rfl) (by first | decide | exact Nat.le_of_ble_eq_true rfl) ?_
  rintro _ hh ⟨rfl, eh_⟩ K
  subst hh
  refine g_norm (cells' := 17) (slots' := 90) (st' := [(.int (1 : Int32))]) (by first | decide | exact Nat.le_of_ble_eq_true rfl) (by first | decide | exact Nat.le_of_ble_eq_true rfl) rfl ?_
  refine g_ifeq C3 at_204 (by first | decide | exact Nat.le_of_ble_eq_true rfl) (pcT := 341) rfl (pcF := 207) rfl (fun zz_ => absurd zz_ (by first | decide | exact Nat.le_of_ble_eq_true rfl)) (fun _ => ?_)
  refine g_aload C3 at_207 rfl rfl (pc' := 209) rfl ?_
  refine g_iconst C3 at_209 (x := (4 : Int32)) rfl (pc' := 210) rfl ?_
  refine g_iload C3 at_210 rfl (pc' := 212) rfl ?_
  refine g_iload C3 at_212 rfl (pc' := 214) rfl ?_
  refine g_iload_n C3 at_214 rfl (pc' := 215) rfl ?_
  refine g_iload_n C3 at_215 rfl (pc' := 216) rfl ?_
  refine g_iload C3 at_216 rfl (pc' := 218) rfl ?_
  refine g_iload C3 at_218 rfl (pc' := 220) rfl ?_
  refine g_iload C3 at_220 rfl (pc' := 222) rfl ?_
  refine g_staticC C3 (W := 0) (argsL := [(.ref r), (.int (4 : Int32)), (.int (Int32.ofNat (sl + nl + 6))), (.int (Int32.ofNat sl)), (.int c0), (.int c1), (.int (Int32.ofNat nl)), (.int d0), (.int d1)]) (rest := []) (con_at l Z a0 hw h5 hS r 4 sl nl c0 c1 d0 d1 (by first | decide | exact Nat.le_of_ble_eq_true rfl) hsl hnl Sr2) (Wx161 hw) (Wx162 hw) (Wx2 hw) (Wx163 hw) (by first | decide | exact Nat.le_of_ble_eq_true rfl) rfl (lenOf pd26 rfl) rfl (Nat.le_of_eq rfl) at_222 (pc' := 225) rfl (by first | decide | exact Nat.le_of_ble_eq_true rfl) (by first | decide | exact Nat.le_of_ble_eq_true rfl) (fun _ q => nomatch q) (by first | decide | exact Nat.le_of_ble_eq_true rfl) (by first | decide | exact Nat.le_of_ble_eq_true rfl) ?_
  rintro _ hh ⟨rfl, eh_⟩ K
  subst hh
  refine g_norm (cells' := 17) (slots' := 90) (st' := [(.int (1 : Int32))]) (by first | decide | exact Nat.le_of_ble_eq_true rfl) (by first | decide | exact Nat.le_of_ble_eq_true rfl) rfl ?_
  refine g_ifeq C3 at_225 (by first | decide | exact Nat.le_of_ble_eq_true rfl) (pcT := 341) rfl (pcF := 228) rfl (fun zz_ => absurd zz_ (by first | decide | exact Nat.le_of_ble_eq_true rfl)) (fun _ => ?_)
  refine g_aload C3 at_228 rfl rfl (pc' := 230) rfl ?_
  refine g_iconst C3 at_230 (x := (5 : Int32)) rfl (pc' := 231) rfl ?_
  refine g_iload C3 at_231 rfl (pc' := 233) rfl ?_
  refine g_iload C3 at_233 rfl (pc' := 235) rfl ?_
  refine g_iload_n C3 at_235 rfl (pc' := 236) rfl ?_
  refine g_iload_n C3 at_236 rfl (pc' := 237) rfl ?_
  refine g_iload C3 at_237 rfl (pc' := 239) rfl ?_
  refine g_iload C3 at_239 rfl (pc' := 241) rfl ?_
  refine g_iload C3 at_241 rfl (pc' := 243) rfl ?_
  refine g_staticC C3 (W := 0) (argsL := [(.ref r), (.int (5 : Int32)), (.int (Int32.ofNat (sl + nl + 6))), (.int (Int32.ofNat sl)), (.int c0), (.int c1), (.int (Int32.ofNat nl)), (.int d0), (.int d1)]) (rest := []) (con_at l Z a0 hw h5 hS r 5 sl nl c0 c1 d0 d1 (by first | decide | exact Nat.le_of_ble_eq_true rfl) hsl hnl Sr2) (Wx161 hw) (Wx162 hw) (Wx2 hw) (Wx163 hw) (by first | decide | exact Nat.le_of_ble_eq_true rfl) rfl (lenOf pd26 rfl) rfl (Nat.le_of_eq rfl) at_243 (pc' := 246) rfl (by first | decide | exact Nat.le_of_ble_eq_true rfl) (by first | decide | exact Nat.le_of_ble_eq_true rfl) (fun _ q => nomatch q) (by first | decide | exact Nat.le_of_ble_eq_true rfl) (by first | decide | exact Nat.le_of_ble_eq_true rfl) ?_
  rintro _ hh ⟨rfl, eh_⟩ K
  subst hh
  refine g_norm (cells' := 17) (slots' := 90) (st' := [(.int (1 : Int32))]) (by first | decide | exact Nat.le_of_ble_eq_true rfl) (by first | decide | exact Nat.le_of_ble_eq_true rfl) rfl ?_
  refine g_ifeq C3 at_246 (by first | decide | exact Nat.le_of_ble_eq_true rfl) (pcT := 341) rfl (pcF := 249) rfl (fun zz_ => absurd zz_ (by first | decide | exact Nat.le_of_ble_eq_true rfl)) (fun _ => ?_)
  refine g_aload C3 at_249 rfl rfl (pc' := 251) rfl ?_
  refine g_bipush C3 at_251 (x := (6 : Int32)) rfl (pc' := 253) rfl ?_
  refine g_iload C3 at_253 rfl (pc' := 255) rfl ?_
  refine g_iload C3 at_255 rfl (pc' := 257) rfl ?_
  refine g_iload_n C3 at_257 rfl (pc' := 258) rfl ?_
  refine g_iload_n C3 at_258 rfl (pc' := 259) rfl ?_
  refine g_iload C3 at_259 rfl (pc' := 261) rfl ?_
  refine g_iload C3 at_261 rfl (pc' := 263) rfl ?_
  refine g_iload C3 at_263 rfl (pc' := 265) rfl ?_
  refine g_staticC C3 (W := 0) (argsL := [(.ref r), (.int (6 : Int32)), (.int (Int32.ofNat (sl + nl + 6))), (.int (Int32.ofNat sl)), (.int c0), (.int c1), (.int (Int32.ofNat nl)), (.int d0), (.int d1)]) (rest := []) (con_at l Z a0 hw h5 hS r 6 sl nl c0 c1 d0 d1 (by first | decide | exact Nat.le_of_ble_eq_true rfl) hsl hnl Sr2) (Wx161 hw) (Wx162 hw) (Wx2 hw) (Wx163 hw) (by first | decide | exact Nat.le_of_ble_eq_true rfl) rfl (lenOf pd26 rfl) rfl (Nat.le_of_eq rfl) at_265 (pc' := 268) rfl (by first | decide | exact Nat.le_of_ble_eq_true rfl) (by first | decide | exact Nat.le_of_ble_eq_true rfl) (fun _ q => nomatch q) (by first | decide | exact Nat.le_of_ble_eq_true rfl) (by first | decide | exact Nat.le_of_ble_eq_true rfl) ?_
  rintro _ hh ⟨rfl, eh_⟩ K
  subst hh
  refine g_norm (cells' := 17) (slots' := 90) (st' := [(.int (1 : Int32))]) (by first | decide | exact Nat.le_of_ble_eq_true rfl) (by first | decide | exact Nat.le_of_ble_eq_true rfl) rfl ?_
  refine g_ifeq C3 at_268 (by first | decide | exact Nat.le_of_ble_eq_true rfl) (pcT := 341) rfl (pcF := 271) rfl (fun zz_ => absurd zz_ (by first | decide | exact Nat.le_of_ble_eq_true rfl)) (fun _ => ?_)
  refine g_aload C3 at_271 rfl rfl (pc' := 273) rfl ?_
  refine g_bipush C3 at_273 (x := (7 : Int32)) rfl (pc' := 275) rfl ?_
  refine g_iload C3 at_275 rfl (pc' := 277) rfl ?_
  refine g_iload C3 at_277 rfl (pc' := 279) rfl ?_
  refine g_iload_n C3 at_279 rfl (pc' := 280) rfl ?_
  refine g_iload_n C3 at_280 rfl (pc' := 281) rfl ?_
  refine g_iload C3 at_281 rfl (pc' := 283) rfl ?_
  refine g_iload C3 at_283 rfl (pc' := 285) rfl ?_
  refine g_iload C3 at_285 rfl (pc' := 287) rfl ?_
  refine g_staticC C3 (W := 0) (argsL := [(.ref r), (.int (7 : Int32)), (.int (Int32.ofNat (sl + nl + 6))), (.int (Int32.ofNat sl)), (.int c0), (.int c1), (.int (Int32.ofNat nl)), (.int d0), (.int d1)]) (rest := []) (con_at l Z a0 hw h5 hS r 7 sl nl c0 c1 d0 d1 (by first | decide | exact Nat.le_of_ble_eq_true rfl) hsl hnl Sr2) (Wx161 hw) (Wx162 hw) (Wx2 hw) (Wx163 hw) (by first | decide | exact Nat.le_of_ble_eq_true rfl) rfl (lenOf pd26 rfl) rfl (Nat.le_of_eq rfl) at_287 (pc' := 290) rfl (by first | decide | exact Nat.le_of_ble_eq_true rfl) (by first | decide | exact Nat.le_of_ble_eq_true rfl) (fun _ q => nomatch q) (by first | decide | exact Nat.le_of_ble_eq_true rfl) (by first | decide | exact Nat.le_of_ble_eq_true rfl) ?_
  rintro _ hh ⟨rfl, eh_⟩ K
  subst hh
  refine g_norm (cells' := 17) (slots' := 90) (st' := [(.int (1 : Int32))]) (by first | decide | exact Nat.le_of_ble_eq_true rfl) (by first | decide | exact Nat.le_of_ble_eq_true rfl) rfl ?_
  refine g_ifeq C3 at_290 (by first | decide | exact Nat.le_of_ble_eq_true rfl) (pcT := 341) rfl (pcF := 293) rfl (fun zz_ => absurd zz_ (by first | decide | exact Nat.le_of_ble_eq_true rfl)) (fun _ => ?_)
  refine g_aload C3 at_293 rfl rfl (pc' := 295) rfl ?_
  refine g_bipush C3 at_295 (x := (8 : Int32)) rfl (pc' := 297) rfl ?_
  refine g_iload C3 at_297 rfl (pc' := 299) rfl ?_
  refine g_iload C3 at_299 rfl (pc' := 301) rfl ?_
  refine g_iload_n C3 at_301 rfl (pc' := 302) rfl ?_
  refine g_iload_n C3 at_302 rfl (pc' := 303) rfl ?_
  refine g_iload C3 at_303 rfl (pc' := 305) rfl ?_
  refine g_iload C3 at_305 rfl (pc' := 307) rfl ?_
  refine g_iload C3 at_307 rfl (pc' := 309) rfl ?_
  refine g_staticC C3 (W := 0) (argsL := [(.ref r), (.int (8 : Int32)), (.int (Int32.ofNat (sl + nl + 6))), (.int (Int32.ofNat sl)), (.int c0), (.int c1), (.int (Int32.ofNat nl)), (.int d0), (.int d1)]) (rest := []) (con_at l Z a0 hw h5 hS r 8 sl nl c0 c1 d0 d1 (by first | decide | exact Nat.le_of_ble_eq_true rfl) hsl hnl Sr2) (Wx161 hw) (Wx162 hw) (Wx2 hw) (Wx163 hw) (by first | decide | exact Nat.le_of_ble_eq_true rfl) rfl (lenOf pd26 rfl) rfl (Nat.le_of_eq rfl) at_309 (pc' := 312) rfl (by first | decide | exact Nat.le_of_ble_eq_true rfl) (by first | decide | exact Nat.le_of_ble_eq_true rfl) (fun _ q => nomatch q) (by first | decide | exact Nat.le_of_ble_eq_true rfl) (by first | decide | exact Nat.le_of_ble_eq_true rfl) ?_
  rintro _ hh ⟨rfl, eh_⟩ K
  subst hh
  refine g_norm (cells' := 17) (slots' := 90) (st' := [(.int (1 : Int32))]) (by first | decide | exact Nat.le_of_ble_eq_true rfl) (by first | decide | exact Nat.le_of_ble_eq_true rfl) rfl ?_
  refine g_ifeq C3 at_312 (by first | decide | exact Nat.le_of_ble_eq_true rfl) (pcT := 341) rfl (pcF := 315) rfl (fun zz_ => absurd zz_ (by first | decide | exact Nat.le_of_ble_eq_true rfl)) (fun _ => ?_)
  refine g_aload C3 at_315 rfl rfl (pc' := 317) rfl ?_
  refine g_bipush C3 at_317 (x := (9 : Int32)) rfl (pc' := 319) rfl ?_
  refine g_iload C3 at_319 rfl (pc' := 321) rfl ?_
  refine g_iload C3 at_321 rfl (pc' := 323) rfl ?_
  refine g_iload_n C3 at_323 rfl (pc' := 324) rfl ?_
  refine g_iload_n C3 at_324 rfl (pc' := 325) rfl ?_
  refine g_iload C3 at_325 rfl (pc' := 327) rfl ?_
  refine g_iload C3 at_327 rfl (pc' := 329) rfl ?_
  refine g_iload C3 at_329 rfl (pc' := 331) rfl ?_
  refine g_staticC C3 (W := 0) (argsL := [(.ref r), (.int (9 : Int32)), (.int (Int32.ofNat (sl + nl + 6))), (.int (Int32.ofNat sl)), (.int c0), (.int c1), (.int (Int32.ofNat nl)), (.int d0), (.int d1)]) (rest := []) (con_at l Z a0 hw h5 hS r 9 sl nl c0 c1 d0 d1 (by first | decide | exact Nat.le_of_ble_eq_true rfl) hsl hnl Sr2) (Wx161 hw) (Wx162 hw) (Wx2 hw) (Wx163 hw) (by first | decide | exact Nat.le_of_ble_eq_true rfl) rfl (lenOf pd26 rfl) rfl (Nat.le_of_eq rfl) at_331 (pc' := 334) rfl (by first | decide | exact Nat.le_of_ble_eq_true rfl) (by first | decide | exact Nat.le_of_ble_eq_true rfl) (fun _ q => nomatch q) (by first | decide | exact Nat.le_of_ble_eq_true rfl) (by first | decide | exact Nat.le_of_ble_eq_true rfl) ?_
  rintro _ hh ⟨rfl, eh_⟩ K
  subst hh
  refine g_norm (cells' := 17) (slots' := 90) (st' := [(.int (1 : Int32))]) (by first | decide | exact Nat.le_of_ble_eq_true rfl) (by first | decide | exact Nat.le_of_ble_eq_true rfl) rfl ?_
  refine g_ifeq C3 at_334 (by first | decide | exact Nat.le_of_ble_eq_true rfl) (pcT := 341) rfl (pcF := 337) rfl (fun zz_ => absurd zz_ (by first | decide | exact Nat.le_of_ble_eq_true rfl)) (fun _ => ?_)
  refine g_iconst C3 at_337 (x := (1 : Int32)) rfl (pc' := 338) rfl ?_
  refine g_goto C3 at_338 (by first | decide | exact Nat.le_of_ble_eq_true rfl) (pc' := 342) rfl ?_
  exact b_ireturnN C3 B3 (by have q0 := (K).1; have q1 := (K).1; have q2 := (K).1; have q3 := (K).1; have q4 := (K).1; have q5 := (K).1; have q6 := (K).1; have q7 := (K).1; have q8 := (K).1; have q9 := (K).1; omega) (by simp) at_342 (rfl) (by first | decide | exact Nat.le_of_ble_eq_true rfl) (by first | decide | exact Nat.le_of_ble_eq_true rfl)
set_option maxRecDepth 65536 in
set_option maxHeartbeats 40000000 in
theorem comes_1 {Post : Tables → Env → Array Value → State → Outcome → State → Prop} (hpost : ∀ tb e args s v u, (limb_1_1.after args s (.returned v) u = true ∧ limb_1_2.after args s (.returned v) u = true ∧ True) → ReturnedEndW s (.returned v) u (Jvm.fieldLocs frame_1_writes args s ++ Jvm.arrayLocs frame_1_arrays args s ++ Jvm.staticLocs frame_1_statics s) 40 3264 → Post tb e args s (.returned v) u) :
    ArmFor flags0 classFile x code maxLocals ret World_1 tables_1 room_1 Calls_1 rest_1 Pre_1 Post := by
  intro l hfl _ _ p e ha hc hk s m args below hf hA hF happ hP
  obtain ⟨hcalls, hrest, hpre⟩ := hP
  obtain ⟨-, -, -, hnamed, -, -, -, hat⟩ := (Spec.applies_iff hf).mp happ
  obtain ⟨hg, hn⟩ := and_e (Cond.before_iff.mp (show (Jvm.Cond.and given_1 narrow_1).before args s = true from hpre))
  obtain ⟨hcount, g0⟩ := and_e hg
  obtain ⟨k0, g1⟩ := and_e g0
  have k1 := g1
  obtain ⟨w0, w1, rfl⟩ : ∃ w0 w1 : Value, args = #[w0, w1] := by
    have hs : args.size = 2 := by simpa [Cond.value, given_1] using hcount
    obtain ⟨L⟩ := args
    match L, hs with
    | [w0, w1], _ => exact ⟨w0, w1, rfl⟩
  have hw := fun d (hd : d ∈ tables_1) => atoms_spec (ws := Jvm.Cond.code x code maxLocals ret :: tables_1) hat d (List.mem_cons_of_mem _ hd)
  obtain ⟨i0, e0⟩ := is_v k0
  obtain rfl : w0 = (.int i0) := Option.some.inj e0
  obtain ⟨i1, e1⟩ := is_v k1
  obtain rfl : w1 = (.int i1) := Option.some.inj e1
  obtain ⟨hsets, hown0⟩ := atoms_of _ (rest_1_c_eq ▸ (show rest_1_c.before _ s = true from hrest))
  have hSS : SS s := by
    have n5 := not_v (Cond.before_iff.mp (hsets _ (List.mem_of_getElem? (i := 2) rfl)))
    obtain ⟨z, e10⟩ := is_v (Cond.before_iff.mp (hsets _ (List.mem_of_getElem? (i := 1) rfl)))
    obtain ⟨fm, e14, r15⟩ := isR_v (Cond.before_iff.mp (hsets _ (List.mem_of_getElem? (i := 8) rfl)))
    exact ⟨z, fm, Sta.start e10 (Or.inl (hsets _ (List.mem_of_getElem? (i := 0) rfl))), gotF (Cond.eq_ints e10 (Term.int_eval (0))) n5, Sta.start e14 (Or.inl (hsets _ (List.mem_of_getElem? (i := 7) rfl))), r15⟩
  have hcw : Jvm.Lit.compactW.before #[Value.int i0, Value.int i1] s = true := hsets _ (List.mem_of_getElem? (i := 2) rfl)
  have hH : Jvm.Lit.constsHeld consts_1 s := hcalls.1
  obtain ⟨n, o, h1, h2, h3, _, L, J, rfl, ⟨rfl, _, K, N⟩, hq⟩ := con_law l s _ hw s.heap hSS hH hcw i0 i1 ⟨Nat.le_refl _, fun _ _ q => q⟩ (fun _ q => nomatch q) p e ha hc hk s m _ below hf ((Spec.applies_iff_loose hf).mp happ).1 ⟨rfl, State.Warmed39.refl s, rfl, Ib.start s⟩ trivial
  exact ⟨n, _, h1, h2, h3, hpost _ _ _ _ _ _ ⟨Cond.after_iff.mpr rfl, Cond.after_iff.mpr (eq_i res_at (Term.int_eval (1)) rfl), trivial⟩ ⟨hq.1, hq.2.1, hq.2.2.1, (hq.2.2.2.sift fun y hy => Or.inr ((N y hy).elim (fun q => nomatch q) id)).mono (by decide) (by decide)⟩⟩
theorem main_1_1 : Claimed_1_1 := comes_1 fun _ _ _ _ _ _ h hF => ⟨h.1, hF⟩
theorem main_1_2 : Claimed_1_2 := comes_1 fun _ _ _ _ _ _ h hF => ⟨h.2.1, hF⟩
end Jvm.Pilot.@@N@@
namespace Jvm.Pilot.@@N@@
open Jvm Jvm.ClassFile Sem Op Lib Jvm.Free Jvm.Stand Jvm.Pilot.@@N@@.Jvm.D
/-! MADE BY PROGRAM (witnessworld.py) out of the Statement's table words and the real class files: 27 classes; the members and pool entries that the words name. The judged class is class 1, her method 1. -/
namespace start1
open Jvm.ClassFile
def u (s : String) : CpInfo := .utf8 (stringToUtf16 s)
/-- a pool by its gaps: so many unusable entries, then the entry; so many at the end -/
def gap : Nat → List CpInfo → List CpInfo
  | 0, r => r
  | n + 1, r => .unusable :: gap n r
def poolList (es : List (Nat × CpInfo)) (last : Nat) : List CpInfo := es.foldr (fun e r => gap e.1 (e.2 :: r)) (gap last [])
def pool (es : List (Nat × CpInfo)) (last : Nat) : Array CpInfo := ⟨poolList es last⟩
def fileOf (pool : Array CpInfo) (this : Nat) (attrs : Array Attribute := #[]) (ms : Array MethodInfo := #[]) (fl : Nat := 33) (sup : Nat := 0) (ifs : Array Nat := #[]) (fds : Array FieldInfo := #[]) : ClassFile where
  minorVersion := 0
  majorVersion := 65
  constantPool := pool
  accessFlags := fl
  thisClass := this
  superClass := sup
  interfaces := ifs
  fields := fds
  methods := ms
  attributes := attrs
def plain (name : String) (sup : Option ClassId) : Class where
  name := name
  kind := .ordinary
  loader := none
  accessFlags := 33
  super := sup
  interfaces := #[]
  cf := none
  fields := #[]
  methods := #[]
  instanceTypes := #[]
  staticTypes := #[]
  resolved := #[]
  callSites := []
  init := .initialized
  statics := none
  mirror := none

def pool0 : Array CpInfo := pool [(5, u "<init>"), (0, u "()V"), (1, .class_ 10), (1, u "java/lang/Object")] 113

def k0c0 : Code := { maxStack := 0, maxLocals := 1, code := object_method_1_code, exceptionTable := #[], attributes := #[] }
def k0m0 : Method := { name := "<init>", desc := "()V", sig := { parameters := [], returnType := none }, accessFlags := 1, code := some k0c0 }
/-- java/lang/Object -/
def k0 : Class := { plain "java/lang/Object" none with
  accessFlags := 33
  interfaces := #[]
  cf := some (fileOf pool0 8 #[] #[{ accessFlags := 1, nameIndex := 5, descriptorIndex := 6, attributes := #[] }] 33 0 #[] #[])
  fields := #[]
  methods := #[k0m0]
  instanceTypes := #[]
  staticTypes := #[]
  resolved := Array.replicate 124 none
  statics := none }

def pool1 : Array CpInfo := pool [(2, .class_ 4), (1, u "java/lang/Object"), (0, u "<init>"), (0, u "()V"), (0, .methodref 8 9), (0, .class_ 10), (0, .nameAndType 11 12), (0, u "com/example/naviglio/naviglio/DirtyReadsReadsCommittedPinLaw"), (0, u "str"), (0, u "(ICC)Ljava/lang/String;"), (0, .class_ 14), (0, u "com/example/naviglio/naviglio/Dialect$DirtyReads"), (0, .methodref 13 16), (0, .nameAndType 5 17), (0, u "(Ljava/lang/String;Ljava/lang/String;)V"), (0, .methodref 13 19), (0, .nameAndType 20 21), (0, u "readsCommitted"), (0, u "()Ljava/lang/String;"), (0, .methodref 23 24), (0, .class_ 25), (0, .nameAndType 26 27), (0, u "java/lang/String"), (0, u "length"), (0, u "()I"), (0, .methodref 8 29), (0, .nameAndType 30 31), (0, u "at"), (0, u "(Ljava/lang/String;IIICCICC)Z"), (0, .methodref 23 33), (0, .nameAndType 5 34), (0, u "([C)V"), (0, .methodref 23 36), (0, .nameAndType 37 38), (0, u "valueOf"), (0, u "(C)Ljava/lang/String;"), (0, .methodref 23 40), (0, .nameAndType 41 42), (0, u "charAt"), (0, u "(I)C"), (0, .methodref 8 44), (0, .nameAndType 45 46), (0, u "exp"), (0, u "(IICCICC)C"), (2, u "law"), (0, u "(II)Z")] 7

def k1m0 : Method := { name := "<init>", desc := "()V", sig := { parameters := [], returnType := none }, accessFlags := 1, code := none }
def k1c1 : Code := { maxStack := 9, maxLocals := 12, code := code, exceptionTable := #[], attributes := #[] }
def k1m1 : Method := { name := "law", desc := "(II)Z", sig := { parameters := [.int, .int], returnType := some .boolean }, accessFlags := 9, code := some k1c1 }
def k1c2 : Code := { maxStack := 6, maxLocals := 3, code := method_3_code, exceptionTable := #[], attributes := #[] }
def k1m2 : Method := { name := "str", desc := "(ICC)Ljava/lang/String;", sig := { parameters := [.int, .char, .char], returnType := some (.object "java/lang/String") }, accessFlags := 10, code := some k1c2 }
def k1c3 : Code := { maxStack := 8, maxLocals := 9, code := method_4_code, exceptionTable := #[], attributes := #[] }
def k1m3 : Method := { name := "at", desc := "(Ljava/lang/String;IIICCICC)Z", sig := { parameters := [(.object "java/lang/String"), .int, .int, .int, .char, .char, .int, .char, .char], returnType := some .boolean }, accessFlags := 10, code := some k1c3 }
def k1c4 : Code := { maxStack := 2, maxLocals := 9, code := method_5_code, exceptionTable := #[], attributes := #[] }
def k1m4 : Method := { name := "exp", desc := "(IICCICC)C", sig := { parameters := [.int, .int, .char, .char, .int, .char, .char], returnType := some .char }, accessFlags := 10, code := some k1c4 }
/-- com/example/naviglio/naviglio/DirtyReadsReadsCommittedPinLaw -/
def k1 : Class := { plain "com/example/naviglio/naviglio/DirtyReadsReadsCommittedPinLaw" (some 0) with
  accessFlags := 49
  interfaces := #[]
  cf := some (fileOf pool1 8 #[] #[{ accessFlags := 1, nameIndex := 5, descriptorIndex := 6, attributes := #[] }, { accessFlags := 9, nameIndex := 49, descriptorIndex := 50, attributes := #[] }, { accessFlags := 10, nameIndex := 11, descriptorIndex := 12, attributes := #[] }, { accessFlags := 10, nameIndex := 30, descriptorIndex := 31, attributes := #[] }, { accessFlags := 10, nameIndex := 45, descriptorIndex := 46, attributes := #[] }] 49 2 #[] #[])
  fields := #[]
  methods := #[k1m0, k1m1, k1m2, k1m3, k1m4]
  instanceTypes := #[]
  staticTypes := #[]
  resolved := Array.replicate 58 none
  statics := none }

def pool2 : Array CpInfo := pool [(1, .class_ 2), (0, u "java/io/Serializable"), (0, .class_ 4), (0, u "java/lang/Object")] 2

/-- java/io/Serializable -/
def k2 : Class := { plain "java/io/Serializable" (some 0) with
  accessFlags := 1537
  interfaces := #[]
  cf := some (fileOf pool2 1 #[] #[] 1537 3 #[] #[])
  fields := #[]
  methods := #[]
  instanceTypes := #[]
  staticTypes := #[]
  resolved := Array.replicate 7 none
  statics := none }

def pool3 : Array CpInfo := pool [(1, .class_ 2), (0, u "java/lang/Comparable"), (0, .class_ 4), (0, u "java/lang/Object")] 7

/-- java/lang/Comparable -/
def k3 : Class := { plain "java/lang/Comparable" (some 0) with
  accessFlags := 1537
  interfaces := #[]
  cf := some (fileOf pool3 1 #[] #[] 1537 3 #[] #[])
  fields := #[]
  methods := #[]
  instanceTypes := #[]
  staticTypes := #[]
  resolved := Array.replicate 12 none
  statics := none }

def pool4 : Array CpInfo := pool [(2, .class_ 4), (1, u "java/lang/CharSequence"), (42, .class_ 48), (0, u "java/lang/CharSequence$1CodePointIterator"), (10, .class_ 60), (0, u "java/lang/CharSequence$1CharIterator"), (5, .class_ 67), (0, u "java/lang/Object")] 63

/-- java/lang/CharSequence -/
def k4 : Class := { plain "java/lang/CharSequence" (some 0) with
  accessFlags := 1537
  interfaces := #[]
  cf := some (fileOf pool4 2 #[.nestMembers #[47, 59]] #[] 1537 66 #[] #[])
  fields := #[]
  methods := #[]
  instanceTypes := #[]
  staticTypes := #[]
  resolved := Array.replicate 131 none
  statics := none }

def pool5 : Array CpInfo := pool [(1, .class_ 2), (0, u "java/lang/constant/Constable"), (0, .class_ 4), (0, u "java/lang/Object")] 6

/-- java/lang/constant/Constable -/
def k5 : Class := { plain "java/lang/constant/Constable" (some 0) with
  accessFlags := 1537
  interfaces := #[]
  cf := some (fileOf pool5 1 #[] #[] 1537 3 #[] #[])
  fields := #[]
  methods := #[]
  instanceTypes := #[]
  staticTypes := #[]
  resolved := Array.replicate 11 none
  statics := none }

def pool6 : Array CpInfo := pool [(1, .class_ 2), (0, u "java/lang/constant/ConstantDesc"), (0, .class_ 4), (0, u "java/lang/Object")] 32

/-- java/lang/constant/ConstantDesc -/
def k6 : Class := { plain "java/lang/constant/ConstantDesc" (some 0) with
  accessFlags := 1537
  interfaces := #[]
  cf := some (fileOf pool6 1 #[] #[] 1537 3 #[] #[])
  fields := #[]
  methods := #[]
  instanceTypes := #[]
  staticTypes := #[]
  resolved := Array.replicate 37 none
  statics := none }

def pool7 : Array CpInfo := pool [(1, .methodref 2 3), (0, .class_ 4), (0, .nameAndType 5 6), (0, u "java/lang/Object"), (0, u "<init>"), (0, u "()V"), (0, .string 8), (0, u ""), (0, .fieldref 10 11), (0, .class_ 12), (0, .nameAndType 13 14), (0, u "java/lang/String"), (0, u "value"), (0, u "[B"), (0, .fieldref 10 16), (0, .nameAndType 17 18), (0, u "coder"), (0, u "B"), (2, u "hash"), (0, u "I"), (2, u "hashIsZero"), (0, u "Z"), (0, .methodref 10 28), (0, .nameAndType 5 29), (0, u "([CIILjava/lang/Void;)V"), (8, .fieldref 10 39), (0, .nameAndType 40 26), (0, u "COMPACT_STRINGS"), (1, .class_ 44), (1, u "java/lang/StringUTF16"), (0, u "compress"), (1, .methodref 42 48), (0, .nameAndType 49 50), (0, u "coderFromArrayLen"), (0, u "([BI)B"), (2, u "toBytes"), (0, .methodref 55 56), (0, .class_ 57), (0, .nameAndType 58 59), (0, u "java/util/Arrays"), (0, u "copyOfRange"), (0, u "([BII)[B"), (47, .class_ 109), (1, u "java/lang/StringLatin1"), (32, u "()Z"), (34, .methodref 42 178), (0, .nameAndType 45 179), (0, u "([CII)[B"), (13, .class_ 195), (1, u "java/lang/System"), (13, .methodref 10 210), (0, .nameAndType 5 211), (0, u "([BB)V"), (0, .methodref 193 213), (0, .nameAndType 214 215), (0, u "arraycopy"), (0, u "(Ljava/lang/Object;ILjava/lang/Object;II)V"), (118, u "()I"), (0, .methodref 10 336), (0, .nameAndType 17 337), (0, u "()B"), (2, u "()[B"), (22, u "([BI)C"), (5, u "(C)Z"), (21, u "(II)V"), (35, u "(I)C"), (61, .methodref 10 490), (0, .nameAndType 5 491), (0, u "(Ljava/lang/AbstractStringBuilder;Ljava/lang/Void;)V"), (0, .methodref 10 493), (0, .nameAndType 494 142), (0, u "isLatin1"), (0, .methodref 107 496), (0, .nameAndType 497 363), (0, u "charAt"), (3, u "checkIndex"), (4, .nameAndType 507 334), (0, u "length"), (24, u "getBytes"), (16, .methodref 550 506), (0, .class_ 551), (0, u "java/lang/AbstractStringBuilder"), (0, .methodref 550 553), (0, .nameAndType 554 340), (0, u "getValue"), (20, .class_ 576), (0, u "java/lang/CharSequence"), (22, u "CASE_INSENSITIVE_ORDER"), (0, u "Ljava/util/Comparator;"), (181, u "valueOf"), (0, u "(C)Ljava/lang/String;"), (37, u "([BIB)V"), (188, u "([C)V"), (4, .methodref 107 1016), (0, .nameAndType 1017 369), (0, u "canEncode"), (0, .methodref 107 1019), (0, .nameAndType 53 1020), (0, u "(C)[B"), (26, .methodref 550 493), (5, .fieldref 1054 1055), (0, .class_ 1056), (0, .nameAndType 1057 1058), (0, u "jdk/internal/util/Preconditions"), (0, u "SIOOBE_FORMATTER"), (0, u "Ljava/util/function/BiFunction;"), (0, .methodref 1054 1060), (0, .nameAndType 501 1061), (0, u "(IILjava/util/function/BiFunction;)I"), (39, u "serialPersistentFields"), (0, u "[Ljava/io/ObjectStreamField;"), (0, .class_ 1104), (0, u "java/lang/String$CaseInsensitiveComparator"), (1, .class_ 1107), (0, u "java/io/Serializable"), (0, .class_ 1109), (0, u "java/lang/Comparable"), (0, .class_ 1111), (0, u "java/lang/constant/Constable"), (0, .class_ 1113), (0, u "java/lang/constant/ConstantDesc"), (2, u "serialVersionUID"), (0, u "J"), (3, u "REPL"), (0, u "C"), (2, u "LATIN1"), (1, u "UTF16"), (105, u "(Ljava/lang/StringBuilder;)V")] 217

def k7m0 : Method := { name := "<init>", desc := "()V", sig := { parameters := [], returnType := none }, accessFlags := 1, code := none }
def k7c1 : Code := { maxStack := 5, maxLocals := 2, code := jdk_42_method_3_code, exceptionTable := #[], attributes := #[] }
def k7m1 : Method := { name := "<init>", desc := "([C)V", sig := { parameters := [(.array .char)], returnType := none }, accessFlags := 1, code := some k7c1 }
def k7c2 : Code := { maxStack := 3, maxLocals := 2, code := jdk_42_method_53_code, exceptionTable := #[], attributes := #[] }
def k7m2 : Method := { name := "<init>", desc := "(Ljava/lang/StringBuilder;)V", sig := { parameters := [(.object "java/lang/StringBuilder")], returnType := none }, accessFlags := 1, code := some k7c2 }
def k7c3 : Code := { maxStack := 2, maxLocals := 1, code := jdk_42_method_54_code, exceptionTable := #[], attributes := #[] }
def k7m3 : Method := { name := "length", desc := "()I", sig := { parameters := [], returnType := some .int }, accessFlags := 1, code := some k7c3 }
def k7c4 : Code := { maxStack := 2, maxLocals := 2, code := jdk_42_method_56_code, exceptionTable := #[], attributes := #[] }
def k7m4 : Method := { name := "charAt", desc := "(I)C", sig := { parameters := [.int], returnType := some .char }, accessFlags := 1, code := some k7c4 }
def k7c5 : Code := { maxStack := 4, maxLocals := 1, code := jdk_42_method_139_code, exceptionTable := #[], attributes := #[] }
def k7m5 : Method := { name := "valueOf", desc := "(C)Ljava/lang/String;", sig := { parameters := [.char], returnType := some (.object "java/lang/String") }, accessFlags := 9, code := some k7c5 }
def k7c6 : Code := { maxStack := 5, maxLocals := 4, code := jdk_42_method_147_code, exceptionTable := #[], attributes := #[] }
def k7m6 : Method := { name := "getBytes", desc := "([BIB)V", sig := { parameters := [(.array .byte), .int, .byte], returnType := none }, accessFlags := 0, code := some k7c6 }
def k7c7 : Code := { maxStack := 4, maxLocals := 6, code := jdk_42_method_149_code, exceptionTable := #[], attributes := #[] }
def k7m7 : Method := { name := "<init>", desc := "([CIILjava/lang/Void;)V", sig := { parameters := [(.array .char), .int, .int, (.object "java/lang/Void")], returnType := none }, accessFlags := 2, code := some k7c7 }
def k7c8 : Code := { maxStack := 5, maxLocals := 5, code := jdk_42_method_150_code, exceptionTable := #[], attributes := #[] }
def k7m8 : Method := { name := "<init>", desc := "(Ljava/lang/AbstractStringBuilder;Ljava/lang/Void;)V", sig := { parameters := [(.object "java/lang/AbstractStringBuilder"), (.object "java/lang/Void")], returnType := none }, accessFlags := 0, code := some k7c8 }
def k7c9 : Code := { maxStack := 2, maxLocals := 3, code := jdk_42_method_151_code, exceptionTable := #[], attributes := #[] }
def k7m9 : Method := { name := "<init>", desc := "([BB)V", sig := { parameters := [(.array .byte), .byte], returnType := none }, accessFlags := 0, code := some k7c9 }
def k7c10 : Code := { maxStack := 1, maxLocals := 1, code := jdk_42_method_152_code, exceptionTable := #[], attributes := #[] }
def k7m10 : Method := { name := "coder", desc := "()B", sig := { parameters := [], returnType := some .byte }, accessFlags := 0, code := some k7c10 }
def k7c11 : Code := { maxStack := 1, maxLocals := 1, code := jdk_42_method_154_code, exceptionTable := #[], attributes := #[] }
def k7m11 : Method := { name := "isLatin1", desc := "()Z", sig := { parameters := [], returnType := some .boolean }, accessFlags := 0, code := some k7c11 }
def k7c12 : Code := { maxStack := 3, maxLocals := 2, code := jdk_42_method_155_code, exceptionTable := #[], attributes := #[] }
def k7m12 : Method := { name := "checkIndex", desc := "(II)V", sig := { parameters := [.int, .int], returnType := none }, accessFlags := 8, code := some k7c12 }
/-- java/lang/String -/
def k7 : Class := { plain "java/lang/String" (some 0) with
  accessFlags := 49
  interfaces := #[2, 3, 4, 5, 6]
  cf := some (fileOf pool7 10 #[.nestMembers #[1103]] #[{ accessFlags := 1, nameIndex := 5, descriptorIndex := 6, attributes := #[] }, { accessFlags := 1, nameIndex := 5, descriptorIndex := 1010, attributes := #[] }, { accessFlags := 1, nameIndex := 5, descriptorIndex := 1233, attributes := #[] }, { accessFlags := 1, nameIndex := 507, descriptorIndex := 334, attributes := #[] }, { accessFlags := 1, nameIndex := 497, descriptorIndex := 427, attributes := #[] }, { accessFlags := 9, nameIndex := 782, descriptorIndex := 783, attributes := #[] }, { accessFlags := 0, nameIndex := 532, descriptorIndex := 821, attributes := #[] }, { accessFlags := 2, nameIndex := 5, descriptorIndex := 29, attributes := #[] }, { accessFlags := 0, nameIndex := 5, descriptorIndex := 491, attributes := #[] }, { accessFlags := 0, nameIndex := 5, descriptorIndex := 211, attributes := #[] }, { accessFlags := 0, nameIndex := 17, descriptorIndex := 337, attributes := #[] }, { accessFlags := 0, nameIndex := 494, descriptorIndex := 142, attributes := #[] }, { accessFlags := 8, nameIndex := 501, descriptorIndex := 391, attributes := #[] }] 49 2 #[1106, 1108, 575, 1110, 1112] #[{ accessFlags := 18, nameIndex := 13, descriptorIndex := 14, attributes := #[] }, { accessFlags := 18, nameIndex := 17, descriptorIndex := 18, attributes := #[] }, { accessFlags := 2, nameIndex := 21, descriptorIndex := 22, attributes := #[] }, { accessFlags := 2, nameIndex := 25, descriptorIndex := 26, attributes := #[] }, { accessFlags := 26, nameIndex := 1116, descriptorIndex := 1117, attributes := #[] }, { accessFlags := 24, nameIndex := 40, descriptorIndex := 26, attributes := #[] }, { accessFlags := 26, nameIndex := 1101, descriptorIndex := 1102, attributes := #[] }, { accessFlags := 26, nameIndex := 1121, descriptorIndex := 1122, attributes := #[] }, { accessFlags := 25, nameIndex := 599, descriptorIndex := 600, attributes := #[] }, { accessFlags := 24, nameIndex := 1125, descriptorIndex := 18, attributes := #[] }, { accessFlags := 24, nameIndex := 1127, descriptorIndex := 18, attributes := #[] }])
  fields := #[{ name := "value", type := (.array .byte), accessFlags := 18, slot := 0, constantValue := 0 }, { name := "coder", type := .byte, accessFlags := 18, slot := 1, constantValue := 0 }, { name := "hash", type := .int, accessFlags := 2, slot := 2, constantValue := 0 }, { name := "hashIsZero", type := .boolean, accessFlags := 2, slot := 3, constantValue := 0 }, { name := "serialVersionUID", type := .long, accessFlags := 26, slot := 0, constantValue := 0 }, { name := "COMPACT_STRINGS", type := .boolean, accessFlags := 24, slot := 1, constantValue := 0 }, { name := "serialPersistentFields", type := (.array (.object "java/io/ObjectStreamField")), accessFlags := 26, slot := 2, constantValue := 0 }, { name := "REPL", type := .char, accessFlags := 26, slot := 3, constantValue := 0 }, { name := "CASE_INSENSITIVE_ORDER", type := (.object "java/util/Comparator"), accessFlags := 25, slot := 4, constantValue := 0 }, { name := "LATIN1", type := .byte, accessFlags := 24, slot := 5, constantValue := 0 }, { name := "UTF16", type := .byte, accessFlags := 24, slot := 6, constantValue := 0 }]
  methods := #[k7m0, k7m1, k7m2, k7m3, k7m4, k7m5, k7m6, k7m7, k7m8, k7m9, k7m10, k7m11, k7m12]
  instanceTypes := #[(.array .byte), .byte, .int, .boolean]
  staticTypes := #[.long, .boolean, (.array (.object "java/io/ObjectStreamField")), .char, (.object "java/util/Comparator"), .byte, .byte]
  resolved := Array.replicate 1451 none
  statics := some 0 }

def pool8 : Array CpInfo := pool [(1, .methodref 2 3), (0, .class_ 4), (0, .nameAndType 5 6), (0, u "java/lang/Object"), (0, u "<init>"), (0, u "()V"), (0, .class_ 8), (0, u "java/lang/Record")] 13

def k8c0 : Code := { maxStack := 1, maxLocals := 1, code := jdk_30_method_1_code, exceptionTable := #[], attributes := #[] }
def k8m0 : Method := { name := "<init>", desc := "()V", sig := { parameters := [], returnType := none }, accessFlags := 4, code := some k8c0 }
/-- java/lang/Record -/
def k8 : Class := { plain "java/lang/Record" (some 0) with
  accessFlags := 1057
  interfaces := #[]
  cf := some (fileOf pool8 7 #[] #[{ accessFlags := 4, nameIndex := 5, descriptorIndex := 6, attributes := #[] }] 1057 2 #[] #[])
  fields := #[]
  methods := #[k8m0]
  instanceTypes := #[]
  staticTypes := #[]
  resolved := Array.replicate 22 none
  statics := none }

def pool9 : Array CpInfo := pool [(1, .methodref 2 3), (0, .class_ 4), (0, .nameAndType 5 6), (0, u "java/lang/Record"), (0, u "<init>"), (0, u "()V"), (0, .fieldref 8 9), (0, .class_ 10), (0, .nameAndType 11 12), (0, u "com/example/naviglio/naviglio/Dialect$DirtyReads"), (0, u "isolation"), (0, u "Ljava/lang/String;"), (0, .fieldref 8 14), (0, .nameAndType 15 12), (0, u "readUncommitted"), (0, .class_ 17), (0, u "java/lang/StringBuilder"), (0, .methodref 16 3), (0, .methodref 16 20), (0, .nameAndType 21 22), (0, u "append"), (0, u "(Ljava/lang/String;)Ljava/lang/StringBuilder;"), (0, .string 24), (0, u " <> '"), (0, .string 26), (0, u "'"), (0, .methodref 16 28), (0, .nameAndType 29 30), (0, u "toString"), (0, u "()Ljava/lang/String;"), (16, u "(Ljava/lang/String;Ljava/lang/String;)V"), (3, u "readsCommitted"), (6, .class_ 59), (0, u "com/example/naviglio/naviglio/Dialect")] 20

def k9c0 : Code := { maxStack := 2, maxLocals := 3, code := prog_11_method_1_code, exceptionTable := #[], attributes := #[] }
def k9m0 : Method := { name := "<init>", desc := "(Ljava/lang/String;Ljava/lang/String;)V", sig := { parameters := [(.object "java/lang/String"), (.object "java/lang/String")], returnType := none }, accessFlags := 0, code := some k9c0 }
def k9c1 : Code := { maxStack := 2, maxLocals := 1, code := prog_11_method_2_code, exceptionTable := #[], attributes := #[] }
def k9m1 : Method := { name := "readsCommitted", desc := "()Ljava/lang/String;", sig := { parameters := [], returnType := some (.object "java/lang/String") }, accessFlags := 0, code := some k9c1 }
/-- com/example/naviglio/naviglio/Dialect$DirtyReads -/
def k9 : Class := { plain "com/example/naviglio/naviglio/Dialect$DirtyReads" (some 8) with
  accessFlags := 48
  interfaces := #[]
  cf := some (fileOf pool9 8 #[.nestHost 58] #[{ accessFlags := 0, nameIndex := 5, descriptorIndex := 47, attributes := #[] }, { accessFlags := 0, nameIndex := 51, descriptorIndex := 30, attributes := #[] }] 48 2 #[] #[{ accessFlags := 18, nameIndex := 11, descriptorIndex := 12, attributes := #[] }, { accessFlags := 18, nameIndex := 15, descriptorIndex := 12, attributes := #[] }])
  fields := #[{ name := "isolation", type := (.object "java/lang/String"), accessFlags := 18, slot := 0, constantValue := 0 }, { name := "readUncommitted", type := (.object "java/lang/String"), accessFlags := 18, slot := 1, constantValue := 0 }]
  methods := #[k9m0, k9m1]
  instanceTypes := #[(.object "java/lang/String"), (.object "java/lang/String")]
  staticTypes := #[]
  resolved := Array.replicate 80 none
  statics := none }

def pool10 : Array CpInfo := pool [(1, .class_ 2), (0, u "java/lang/Appendable"), (0, .class_ 4), (0, u "java/lang/Object")] 9

/-- java/lang/Appendable -/
def k10 : Class := { plain "java/lang/Appendable" (some 0) with
  accessFlags := 1537
  interfaces := #[]
  cf := some (fileOf pool10 1 #[] #[] 1537 3 #[] #[])
  fields := #[]
  methods := #[]
  instanceTypes := #[]
  staticTypes := #[]
  resolved := Array.replicate 14 none
  statics := none }

def pool11 : Array CpInfo := pool [(1, .class_ 2), (0, u "java/lang/String"), (0, .methodref 4 5), (0, .class_ 6), (0, .nameAndType 7 8), (0, u "java/lang/Object"), (0, u "<init>"), (0, u "()V"), (1, .class_ 12), (1, u "java/lang/AbstractStringBuilder"), (0, u "EMPTYVALUE"), (0, u "[B"), (0, .fieldref 10 16), (0, .nameAndType 17 14), (0, u "value"), (0, .fieldref 1 19), (0, .nameAndType 20 21), (0, u "COMPACT_STRINGS"), (0, u "Z"), (0, .fieldref 10 23), (0, .nameAndType 24 25), (0, u "coder"), (0, u "B"), (6, .methodref 1 33), (0, .nameAndType 34 35), (0, u "length"), (0, u "()I"), (4, .methodref 1 41), (0, .nameAndType 24 42), (0, u "()B"), (2, u "append"), (0, u "(Ljava/lang/String;)Ljava/lang/AbstractStringBuilder;"), (1, .class_ 49), (0, u "java/lang/CharSequence"), (19, u "(Ljava/lang/String;)V"), (5, u "maybeLatin1"), (3, .fieldref 10 80), (0, .nameAndType 81 82), (0, u "count"), (0, u "I"), (2, u "isLatin1"), (0, u "()Z"), (13, .methodref 10 101), (0, .nameAndType 102 103), (0, u "ensureCapacityInternal"), (0, u "(I)V"), (104, .methodref 10 209), (0, .nameAndType 210 211), (0, u "putStringAt"), (0, u "(ILjava/lang/String;)V"), (5, u "inflateIfNeededFor"), (2, .nameAndType 221 222), (0, u "getBytes"), (0, u "([BIB)V"), (174, .methodref 10 398), (0, .nameAndType 217 69), (0, .methodref 1 220), (3, u "()[B"), (40, .class_ 445), (0, u "java/lang/Appendable"), (106, u "getValue")] 56

def k11m0 : Method := { name := "<init>", desc := "()V", sig := { parameters := [], returnType := none }, accessFlags := 0, code := none }
def k11c1 : Code := { maxStack := 2, maxLocals := 2, code := jdk_68_method_2_code, exceptionTable := #[], attributes := #[] }
def k11m1 : Method := { name := "<init>", desc := "(I)V", sig := { parameters := [.int], returnType := none }, accessFlags := 0, code := some k11c1 }
def k11c2 : Code := { maxStack := 1, maxLocals := 1, code := jdk_68_method_6_code, exceptionTable := #[], attributes := #[] }
def k11m2 : Method := { name := "length", desc := "()I", sig := { parameters := [], returnType := some .int }, accessFlags := 1, code := some k11c2 }
def k11c3 : Code := { maxStack := 4, maxLocals := 3, code := jdk_68_method_9_code, exceptionTable := #[], attributes := #[] }
def k11m3 : Method := { name := "ensureCapacityInternal", desc := "(I)V", sig := { parameters := [.int], returnType := none }, accessFlags := 2, code := some k11c3 }
def k11c4 : Code := { maxStack := 3, maxLocals := 3, code := jdk_68_method_22_code, exceptionTable := #[], attributes := #[] }
def k11m4 : Method := { name := "append", desc := "(Ljava/lang/String;)Ljava/lang/AbstractStringBuilder;", sig := { parameters := [(.object "java/lang/String")], returnType := some (.object "java/lang/AbstractStringBuilder") }, accessFlags := 1, code := some k11c4 }
def k11c5 : Code := { maxStack := 1, maxLocals := 1, code := jdk_68_method_64_code, exceptionTable := #[], attributes := #[] }
def k11m5 : Method := { name := "getValue", desc := "()[B", sig := { parameters := [], returnType := some (.array .byte) }, accessFlags := 16, code := some k11c5 }
def k11c6 : Code := { maxStack := 1, maxLocals := 1, code := jdk_68_method_68_code, exceptionTable := #[], attributes := #[] }
def k11m6 : Method := { name := "isLatin1", desc := "()Z", sig := { parameters := [], returnType := some .boolean }, accessFlags := 16, code := some k11c6 }
def k11c7 : Code := { maxStack := 2, maxLocals := 2, code := jdk_68_method_71_code, exceptionTable := #[], attributes := #[] }
def k11m7 : Method := { name := "inflateIfNeededFor", desc := "(Ljava/lang/String;)V", sig := { parameters := [(.object "java/lang/String")], returnType := none }, accessFlags := 2, code := some k11c7 }
def k11c8 : Code := { maxStack := 4, maxLocals := 3, code := jdk_68_method_73_code, exceptionTable := #[], attributes := #[] }
def k11m8 : Method := { name := "putStringAt", desc := "(ILjava/lang/String;)V", sig := { parameters := [.int, (.object "java/lang/String")], returnType := none }, accessFlags := 2, code := some k11c8 }
/-- java/lang/AbstractStringBuilder -/
def k11 : Class := { plain "java/lang/AbstractStringBuilder" (some 0) with
  accessFlags := 1056
  interfaces := #[10, 4]
  cf := some (fileOf pool11 10 #[] #[{ accessFlags := 0, nameIndex := 7, descriptorIndex := 8, attributes := #[] }, { accessFlags := 0, nameIndex := 7, descriptorIndex := 103, attributes := #[] }, { accessFlags := 1, nameIndex := 34, descriptorIndex := 35, attributes := #[] }, { accessFlags := 2, nameIndex := 102, descriptorIndex := 103, attributes := #[] }, { accessFlags := 1, nameIndex := 45, descriptorIndex := 46, attributes := #[] }, { accessFlags := 16, nameIndex := 552, descriptorIndex := 403, attributes := #[] }, { accessFlags := 16, nameIndex := 85, descriptorIndex := 86, attributes := #[] }, { accessFlags := 2, nameIndex := 217, descriptorIndex := 69, attributes := #[] }, { accessFlags := 2, nameIndex := 210, descriptorIndex := 211, attributes := #[] }] 1056 4 #[444, 48] #[{ accessFlags := 0, nameIndex := 17, descriptorIndex := 14, attributes := #[] }, { accessFlags := 0, nameIndex := 24, descriptorIndex := 25, attributes := #[] }, { accessFlags := 0, nameIndex := 75, descriptorIndex := 21, attributes := #[] }, { accessFlags := 0, nameIndex := 81, descriptorIndex := 82, attributes := #[] }, { accessFlags := 26, nameIndex := 13, descriptorIndex := 14, attributes := #[] }])
  fields := #[{ name := "value", type := (.array .byte), accessFlags := 0, slot := 0, constantValue := 0 }, { name := "coder", type := .byte, accessFlags := 0, slot := 1, constantValue := 0 }, { name := "maybeLatin1", type := .boolean, accessFlags := 0, slot := 2, constantValue := 0 }, { name := "count", type := .int, accessFlags := 0, slot := 3, constantValue := 0 }, { name := "EMPTYVALUE", type := (.array .byte), accessFlags := 26, slot := 0, constantValue := 0 }]
  methods := #[k11m0, k11m1, k11m2, k11m3, k11m4, k11m5, k11m6, k11m7, k11m8]
  instanceTypes := #[(.array .byte), .byte, .boolean, .int]
  staticTypes := #[(.array .byte)]
  resolved := Array.replicate 609 none
  statics := none }

def pool12 : Array CpInfo := pool [(1, .methodref 2 3), (0, .class_ 4), (0, .nameAndType 5 6), (0, u "java/lang/AbstractStringBuilder"), (0, u "<init>"), (0, u "(I)V"), (11, .class_ 20), (1, u "java/lang/String"), (3, .class_ 26), (1, u "java/lang/StringBuilder"), (0, u "append"), (0, u "(Ljava/lang/String;)Ljava/lang/StringBuilder;"), (0, .methodref 2 30), (0, .nameAndType 27 31), (0, u "(Ljava/lang/String;)Ljava/lang/AbstractStringBuilder;"), (105, .methodref 18 138), (0, .nameAndType 5 139), (0, u "(Ljava/lang/StringBuilder;)V"), (5, u "()V"), (10, u "()I"), (186, .methodref 2 344), (0, .nameAndType 345 156), (0, u "length"), (3, .class_ 350), (0, u "java/lang/Appendable"), (0, .class_ 352), (0, u "java/io/Serializable"), (0, .class_ 354), (0, u "java/lang/Comparable"), (0, .class_ 356), (0, u "java/lang/CharSequence"), (0, u "serialVersionUID"), (0, u "J"), (40, u "toString"), (0, u "()Ljava/lang/String;")] 21

def k12c0 : Code := { maxStack := 2, maxLocals := 1, code := jdk_67_method_1_code, exceptionTable := #[], attributes := #[] }
def k12m0 : Method := { name := "<init>", desc := "()V", sig := { parameters := [], returnType := none }, accessFlags := 1, code := some k12c0 }
def k12c1 : Code := { maxStack := 2, maxLocals := 2, code := jdk_67_method_7_code, exceptionTable := #[], attributes := #[] }
def k12m1 : Method := { name := "append", desc := "(Ljava/lang/String;)Ljava/lang/StringBuilder;", sig := { parameters := [(.object "java/lang/String")], returnType := some (.object "java/lang/StringBuilder") }, accessFlags := 1, code := some k12c1 }
def k12c2 : Code := { maxStack := 3, maxLocals := 1, code := jdk_67_method_42_code, exceptionTable := #[], attributes := #[] }
def k12m2 : Method := { name := "toString", desc := "()Ljava/lang/String;", sig := { parameters := [], returnType := some (.object "java/lang/String") }, accessFlags := 1, code := some k12c2 }
def k12c3 : Code := { maxStack := 1, maxLocals := 1, code := jdk_67_method_93_code, exceptionTable := #[], attributes := #[] }
def k12m3 : Method := { name := "length", desc := "()I", sig := { parameters := [], returnType := some .int }, accessFlags := 4161, code := some k12c3 }
/-- java/lang/StringBuilder -/
def k12 : Class := { plain "java/lang/StringBuilder" (some 11) with
  accessFlags := 49
  interfaces := #[10, 2, 3, 4]
  cf := some (fileOf pool12 24 #[] #[{ accessFlags := 1, nameIndex := 5, descriptorIndex := 145, attributes := #[] }, { accessFlags := 1, nameIndex := 27, descriptorIndex := 28, attributes := #[] }, { accessFlags := 1, nameIndex := 399, descriptorIndex := 400, attributes := #[] }, { accessFlags := 4161, nameIndex := 345, descriptorIndex := 156, attributes := #[] }] 49 2 #[349, 351, 353, 355] #[{ accessFlags := 24, nameIndex := 357, descriptorIndex := 358, attributes := #[] }])
  fields := #[{ name := "serialVersionUID", type := .long, accessFlags := 24, slot := 0, constantValue := 0 }]
  methods := #[k12m0, k12m1, k12m2, k12m3]
  instanceTypes := #[(.array .byte), .byte, .boolean, .int]
  staticTypes := #[.long]
  resolved := Array.replicate 422 none
  statics := none }

def pool13 : Array CpInfo := pool [(2, .class_ 4), (1, u "java/lang/Object"), (0, u "<init>"), (0, u "()V"), (1, .class_ 10), (1, u "java/lang/System"), (0, u "allowSecurityManager"), (0, u "I"), (16, u "cons"), (0, u "Ljava/io/Console;"), (77, .class_ 110), (1, u "java/lang/System$CallersHolder"), (43, u "initialErrStream"), (0, u "Ljava/io/PrintStream;"), (19, u "security"), (0, u "Ljava/lang/SecurityManager;"), (31, .class_ 209), (0, u "java/lang/System$1"), (7, u "props"), (0, u "Ljava/util/Properties;"), (2, u "lineSeparator"), (0, u "Ljava/lang/String;"), (96, .class_ 321), (1, u "java/lang/System$LoggerFinder"), (5, .class_ 328), (0, u "java/lang/System$Logger"), (67, u "err"), (2, u "out"), (91, u "notSupportedJnuEncoding"), (15, u "in"), (17, u "initialIn"), (0, u "Ljava/io/InputStream;"), (35, u "bootLayer"), (0, u "Ljava/lang/ModuleLayer;"), (99, .class_ 664), (0, u "java/lang/System$2"), (9, u "NEVER"), (2, u "MAYBE"), (49, u "arraycopy"), (0, u "(Ljava/lang/Object;ILjava/lang/Object;II)V"), (72, .class_ 802), (0, u "java/lang/System$Logger$Level")] 31

def k13m0 : Method := { name := "<init>", desc := "()V", sig := { parameters := [], returnType := none }, accessFlags := 2, code := none }
def k13m1 : Method := { name := "arraycopy", desc := "(Ljava/lang/Object;ILjava/lang/Object;II)V", sig := { parameters := [(.object "java/lang/Object"), .int, (.object "java/lang/Object"), .int, .int], returnType := none }, accessFlags := 265, code := none }
/-- java/lang/System -/
def k13 : Class := { plain "java/lang/System" (some 0) with
  accessFlags := 49
  interfaces := #[]
  cf := some (fileOf pool13 8 #[.nestMembers #[319, 327, 801, 108, 663, 208]] #[{ accessFlags := 2, nameIndex := 5, descriptorIndex := 6, attributes := #[] }, { accessFlags := 265, nameIndex := 727, descriptorIndex := 728, attributes := #[] }] 49 2 #[] #[{ accessFlags := 25, nameIndex := 507, descriptorIndex := 526, attributes := #[] }, { accessFlags := 25, nameIndex := 399, descriptorIndex := 155, attributes := #[] }, { accessFlags := 25, nameIndex := 396, descriptorIndex := 155, attributes := #[] }, { accessFlags := 10, nameIndex := 525, descriptorIndex := 526, attributes := #[] }, { accessFlags := 26, nameIndex := 674, descriptorIndex := 12, attributes := #[] }, { accessFlags := 26, nameIndex := 677, descriptorIndex := 12, attributes := #[] }, { accessFlags := 10, nameIndex := 11, descriptorIndex := 12, attributes := #[] }, { accessFlags := 74, nameIndex := 175, descriptorIndex := 176, attributes := #[] }, { accessFlags := 10, nameIndex := 491, descriptorIndex := 222, attributes := #[] }, { accessFlags := 74, nameIndex := 29, descriptorIndex := 30, attributes := #[] }, { accessFlags := 74, nameIndex := 154, descriptorIndex := 155, attributes := #[] }, { accessFlags := 10, nameIndex := 217, descriptorIndex := 218, attributes := #[] }, { accessFlags := 10, nameIndex := 221, descriptorIndex := 222, attributes := #[] }, { accessFlags := 8, nameIndex := 562, descriptorIndex := 563, attributes := #[] }])
  fields := #[{ name := "in", type := (.object "java/io/InputStream"), accessFlags := 25, slot := 0, constantValue := 0 }, { name := "out", type := (.object "java/io/PrintStream"), accessFlags := 25, slot := 1, constantValue := 0 }, { name := "err", type := (.object "java/io/PrintStream"), accessFlags := 25, slot := 2, constantValue := 0 }, { name := "initialIn", type := (.object "java/io/InputStream"), accessFlags := 10, slot := 3, constantValue := 0 }, { name := "NEVER", type := .int, accessFlags := 26, slot := 4, constantValue := 0 }, { name := "MAYBE", type := .int, accessFlags := 26, slot := 5, constantValue := 0 }, { name := "allowSecurityManager", type := .int, accessFlags := 10, slot := 6, constantValue := 0 }, { name := "security", type := (.object "java/lang/SecurityManager"), accessFlags := 74, slot := 7, constantValue := 0 }, { name := "notSupportedJnuEncoding", type := (.object "java/lang/String"), accessFlags := 10, slot := 8, constantValue := 0 }, { name := "cons", type := (.object "java/io/Console"), accessFlags := 74, slot := 9, constantValue := 0 }, { name := "initialErrStream", type := (.object "java/io/PrintStream"), accessFlags := 74, slot := 10, constantValue := 0 }, { name := "props", type := (.object "java/util/Properties"), accessFlags := 10, slot := 11, constantValue := 0 }, { name := "lineSeparator", type := (.object "java/lang/String"), accessFlags := 10, slot := 12, constantValue := 0 }, { name := "bootLayer", type := (.object "java/lang/ModuleLayer"), accessFlags := 8, slot := 13, constantValue := 0 }]
  methods := #[k13m0, k13m1]
  instanceTypes := #[]
  staticTypes := #[(.object "java/io/InputStream"), (.object "java/io/PrintStream"), (.object "java/io/PrintStream"), (.object "java/io/InputStream"), .int, .int, .int, (.object "java/lang/SecurityManager"), (.object "java/lang/String"), (.object "java/io/Console"), (.object "java/io/PrintStream"), (.object "java/util/Properties"), (.object "java/lang/String"), (.object "java/lang/ModuleLayer")]
  resolved := Array.replicate 834 none
  statics := none }

def pool14 : Array CpInfo := pool [(2, .class_ 4), (1, u "java/lang/Object"), (0, u "<init>"), (0, u "()V"), (7, .class_ 16), (1, u "java/util/Arrays"), (57, .class_ 76), (1, u "java/util/Arrays$NaturalOrder"), (36, .class_ 115), (1, u "java/util/Arrays$LegacyMergeSort"), (1, u "Z"), (21, u "copyOfRange"), (10, .methodref 151 152), (0, .class_ 153), (0, .nameAndType 154 155), (0, u "java/lang/System"), (0, u "arraycopy"), (0, u "(Ljava/lang/Object;ILjava/lang/Object;II)V"), (148, .methodref 305 306), (0, .class_ 307), (0, .nameAndType 308 309), (0, u "java/lang/Math"), (0, u "min"), (0, u "(II)I"), (29, .methodref 14 340), (0, .nameAndType 341 342), (0, u "copyOfRangeByte"), (0, u "([BII)[B"), (0, .methodref 14 344), (0, .nameAndType 345 346), (0, u "checkLength"), (0, u "(II)V"), (28, .class_ 376), (0, u "java/util/Arrays$ArrayList"), (68, u "$assertionsDisabled"), (269, u "MIN_ARRAY_SORT_GRAN"), (0, u "I"), (2, u "INSERTIONSORT_THRESHOLD"), (255, .class_ 976), (0, u "java/util/Arrays$ArrayItr")] 52

def k14m0 : Method := { name := "<init>", desc := "()V", sig := { parameters := [], returnType := none }, accessFlags := 2, code := none }
def k14c1 : Code := { maxStack := 4, maxLocals := 2, code := jdk_65_method_131_code, exceptionTable := #[], attributes := #[] }
def k14m1 : Method := { name := "checkLength", desc := "(II)V", sig := { parameters := [.int, .int], returnType := none }, accessFlags := 10, code := some k14c1 }
def k14c2 : Code := { maxStack := 3, maxLocals := 3, code := jdk_65_method_132_code, exceptionTable := #[], attributes := #[] }
def k14m2 : Method := { name := "copyOfRange", desc := "([BII)[B", sig := { parameters := [(.array .byte), .int, .int], returnType := some (.array .byte) }, accessFlags := 9, code := some k14c2 }
def k14c3 : Code := { maxStack := 6, maxLocals := 5, code := jdk_65_method_133_code, exceptionTable := #[], attributes := #[] }
def k14m3 : Method := { name := "copyOfRangeByte", desc := "([BII)[B", sig := { parameters := [(.array .byte), .int, .int], returnType := some (.array .byte) }, accessFlags := 10, code := some k14c3 }
/-- java/util/Arrays -/
def k14 : Class := { plain "java/util/Arrays" (some 0) with
  accessFlags := 49
  interfaces := #[]
  cf := some (fileOf pool14 14 #[.nestMembers #[975, 375, 113, 74]] #[{ accessFlags := 2, nameIndex := 5, descriptorIndex := 6, attributes := #[] }, { accessFlags := 10, nameIndex := 345, descriptorIndex := 346, attributes := #[] }, { accessFlags := 9, nameIndex := 139, descriptorIndex := 342, attributes := #[] }, { accessFlags := 10, nameIndex := 341, descriptorIndex := 342, attributes := #[] }] 49 2 #[] #[{ accessFlags := 26, nameIndex := 715, descriptorIndex := 716, attributes := #[] }, { accessFlags := 26, nameIndex := 719, descriptorIndex := 716, attributes := #[] }, { accessFlags := 4120, nameIndex := 445, descriptorIndex := 117, attributes := #[] }])
  fields := #[{ name := "MIN_ARRAY_SORT_GRAN", type := .int, accessFlags := 26, slot := 0, constantValue := 0 }, { name := "INSERTIONSORT_THRESHOLD", type := .int, accessFlags := 26, slot := 1, constantValue := 0 }, { name := "$assertionsDisabled", type := .boolean, accessFlags := 4120, slot := 2, constantValue := 0 }]
  methods := #[k14m0, k14m1, k14m2, k14m3]
  instanceTypes := #[]
  staticTypes := #[.int, .int, .boolean]
  resolved := Array.replicate 1029 none
  statics := none }

def pool15 : Array CpInfo := pool [(1, .class_ 2), (0, u "java/lang/Math"), (1, .class_ 6), (1, u "java/lang/Object"), (0, u "<init>"), (0, u "()V"), (89, .class_ 100), (1, u "java/lang/Math$RandomNumberGeneratorHolder"), (71, u "negativeZeroFloatBits"), (0, u "J"), (2, u "negativeZeroDoubleBits"), (24, u "min"), (43, u "$assertionsDisabled"), (0, u "Z"), (88, u "(II)I"), (2, u "twoToTheDoubleScaleDown"), (0, u "D"), (4, u "twoToTheDoubleScaleUp"), (9, u "E"), (3, u "PI"), (2, u "TAU"), (2, u "DEGREES_TO_RADIANS"), (0, u "RADIANS_TO_DEGREES")] 94

def k15m0 : Method := { name := "<init>", desc := "()V", sig := { parameters := [], returnType := none }, accessFlags := 2, code := none }
def k15c1 : Code := { maxStack := 2, maxLocals := 2, code := jdk_29_method_69_code, exceptionTable := #[], attributes := #[] }
def k15m1 : Method := { name := "min", desc := "(II)I", sig := { parameters := [.int, .int], returnType := some .int }, accessFlags := 9, code := some k15c1 }
/-- java/lang/Math -/
def k15 : Class := { plain "java/lang/Math" (some 0) with
  accessFlags := 49
  interfaces := #[]
  cf := some (fileOf pool15 1 #[.nestMembers #[98]] #[{ accessFlags := 2, nameIndex := 7, descriptorIndex := 8, attributes := #[] }, { accessFlags := 9, nameIndex := 201, descriptorIndex := 335, attributes := #[] }] 49 4 #[] #[{ accessFlags := 25, nameIndex := 354, descriptorIndex := 339, attributes := #[] }, { accessFlags := 25, nameIndex := 358, descriptorIndex := 339, attributes := #[] }, { accessFlags := 25, nameIndex := 361, descriptorIndex := 339, attributes := #[] }, { accessFlags := 26, nameIndex := 364, descriptorIndex := 339, attributes := #[] }, { accessFlags := 26, nameIndex := 365, descriptorIndex := 339, attributes := #[] }, { accessFlags := 26, nameIndex := 172, descriptorIndex := 173, attributes := #[] }, { accessFlags := 26, nameIndex := 176, descriptorIndex := 173, attributes := #[] }, { accessFlags := 8, nameIndex := 344, descriptorIndex := 339, attributes := #[] }, { accessFlags := 8, nameIndex := 338, descriptorIndex := 339, attributes := #[] }, { accessFlags := 4120, nameIndex := 245, descriptorIndex := 246, attributes := #[] }])
  fields := #[{ name := "E", type := .double, accessFlags := 25, slot := 0, constantValue := 0 }, { name := "PI", type := .double, accessFlags := 25, slot := 1, constantValue := 0 }, { name := "TAU", type := .double, accessFlags := 25, slot := 2, constantValue := 0 }, { name := "DEGREES_TO_RADIANS", type := .double, accessFlags := 26, slot := 3, constantValue := 0 }, { name := "RADIANS_TO_DEGREES", type := .double, accessFlags := 26, slot := 4, constantValue := 0 }, { name := "negativeZeroFloatBits", type := .long, accessFlags := 26, slot := 5, constantValue := 0 }, { name := "negativeZeroDoubleBits", type := .long, accessFlags := 26, slot := 6, constantValue := 0 }, { name := "twoToTheDoubleScaleUp", type := .double, accessFlags := 8, slot := 7, constantValue := 0 }, { name := "twoToTheDoubleScaleDown", type := .double, accessFlags := 8, slot := 8, constantValue := 0 }, { name := "$assertionsDisabled", type := .boolean, accessFlags := 4120, slot := 9, constantValue := 0 }]
  methods := #[k15m0, k15m1]
  instanceTypes := #[]
  staticTypes := #[.double, .double, .double, .double, .double, .long, .long, .double, .double, .boolean]
  resolved := Array.replicate 460 none
  statics := none }

def pool16 : Array CpInfo := pool [(1, .class_ 2), (0, u "java/lang/String"), (1, .class_ 6), (1, u "java/lang/Object"), (0, u "<init>"), (0, u "()V"), (0, .methodref 1 10), (0, .nameAndType 11 12), (0, u "checkIndex"), (0, u "(II)V"), (1, .class_ 16), (1, u "java/lang/StringLatin1"), (36, u "([BI)C"), (36, u "canEncode"), (14, u "(C)Z"), (15, u "$assertionsDisabled"), (0, u "Z"), (98, .class_ 223), (1, u "java/lang/StringLatin1$LinesSpliterator"), (28, u "charAt"), (127, u "toBytes"), (1, u "(C)[B"), (7, .class_ 391), (0, u "java/lang/StringLatin1$CharsSpliterator")] 3

def k16m0 : Method := { name := "<init>", desc := "()V", sig := { parameters := [], returnType := none }, accessFlags := 0, code := none }
def k16c1 : Code := { maxStack := 2, maxLocals := 2, code := jdk_43_method_2_code, exceptionTable := #[], attributes := #[] }
def k16m1 : Method := { name := "charAt", desc := "([BI)C", sig := { parameters := [(.array .byte), .int], returnType := some .char }, accessFlags := 9, code := some k16c1 }
def k16c2 : Code := { maxStack := 2, maxLocals := 1, code := jdk_43_method_3_code, exceptionTable := #[], attributes := #[] }
def k16m2 : Method := { name := "canEncode", desc := "(C)Z", sig := { parameters := [.char], returnType := some .boolean }, accessFlags := 9, code := some k16c2 }
def k16c3 : Code := { maxStack := 4, maxLocals := 1, code := jdk_43_method_46_code, exceptionTable := #[], attributes := #[] }
def k16m3 : Method := { name := "toBytes", desc := "(C)[B", sig := { parameters := [.char], returnType := some (.array .byte) }, accessFlags := 9, code := some k16c3 }
/-- java/lang/StringLatin1 -/
def k16 : Class := { plain "java/lang/StringLatin1" (some 0) with
  accessFlags := 48
  interfaces := #[]
  cf := some (fileOf pool16 14 #[.nestMembers #[390, 221]] #[{ accessFlags := 0, nameIndex := 7, descriptorIndex := 8, attributes := #[] }, { accessFlags := 9, nameIndex := 252, descriptorIndex := 53, attributes := #[] }, { accessFlags := 9, nameIndex := 90, descriptorIndex := 105, attributes := #[] }, { accessFlags := 9, nameIndex := 380, descriptorIndex := 382, attributes := #[] }] 48 4 #[] #[{ accessFlags := 4120, nameIndex := 121, descriptorIndex := 122, attributes := #[] }])
  fields := #[{ name := "$assertionsDisabled", type := .boolean, accessFlags := 4120, slot := 0, constantValue := 0 }]
  methods := #[k16m0, k16m1, k16m2, k16m3]
  instanceTypes := #[]
  staticTypes := #[.boolean]
  resolved := Array.replicate 395 none
  statics := none }

def pool17 : Array CpInfo := pool [(2, .class_ 4), (1, u "java/lang/Object"), (0, u "<init>"), (0, u "()V"), (17, .class_ 26), (1, u "jdk/internal/util/Preconditions"), (6, u "checkIndex"), (21, .class_ 56), (0, u "jdk/internal/util/Preconditions$4"), (57, .class_ 115), (0, u "jdk/internal/util/Preconditions$1"), (7, u "SIOOBE_FORMATTER"), (0, u "Ljava/util/function/BiFunction;"), (0, .class_ 126), (0, u "jdk/internal/util/Preconditions$2"), (3, u "AIOOBE_FORMATTER"), (0, .class_ 132), (0, u "jdk/internal/util/Preconditions$3"), (3, u "IOOBE_FORMATTER"), (41, u "(IILjava/util/function/BiFunction;)I")] 15

def k17m0 : Method := { name := "<init>", desc := "()V", sig := { parameters := [], returnType := none }, accessFlags := 1, code := none }
def k17c1 : Code := { maxStack := 3, maxLocals := 3, code := jdk_41_method_11_code, exceptionTable := #[], attributes := #[] }
def k17m1 : Method := { name := "checkIndex", desc := "(IILjava/util/function/BiFunction;)I", sig := { parameters := [.int, .int, (.object "java/util/function/BiFunction")], returnType := some .int }, accessFlags := 9, code := some k17c1 }
/-- jdk/internal/util/Preconditions -/
def k17 : Class := { plain "jdk/internal/util/Preconditions" (some 0) with
  accessFlags := 33
  interfaces := #[]
  cf := some (fileOf pool17 24 #[.nestMembers #[55, 131, 125, 114]] #[{ accessFlags := 1, nameIndex := 5, descriptorIndex := 6, attributes := #[] }, { accessFlags := 9, nameIndex := 33, descriptorIndex := 178, attributes := #[] }] 33 2 #[] #[{ accessFlags := 25, nameIndex := 123, descriptorIndex := 124, attributes := #[] }, { accessFlags := 25, nameIndex := 130, descriptorIndex := 124, attributes := #[] }, { accessFlags := 25, nameIndex := 136, descriptorIndex := 124, attributes := #[] }])
  fields := #[{ name := "SIOOBE_FORMATTER", type := (.object "java/util/function/BiFunction"), accessFlags := 25, slot := 0, constantValue := 0 }, { name := "AIOOBE_FORMATTER", type := (.object "java/util/function/BiFunction"), accessFlags := 25, slot := 1, constantValue := 0 }, { name := "IOOBE_FORMATTER", type := (.object "java/util/function/BiFunction"), accessFlags := 25, slot := 2, constantValue := 0 }]
  methods := #[k17m0, k17m1]
  instanceTypes := #[]
  staticTypes := #[(.object "java/util/function/BiFunction"), (.object "java/util/function/BiFunction"), (.object "java/util/function/BiFunction")]
  resolved := Array.replicate 194 none
  statics := some 1 }

def pool18 : Array CpInfo := pool [(6, .class_ 8), (1, u "java/lang/Object"), (0, u "<init>"), (0, u "()V"), (1, .class_ 14), (1, u "java/lang/StringUTF16"), (31, u "$assertionsDisabled"), (0, u "Z"), (13, u "HI_BYTE_SHIFT"), (0, u "I"), (2, u "LO_BYTE_SHIFT"), (49, .methodref 12 116), (0, .nameAndType 117 118), (0, u "compress"), (0, u "([CI[BII)I"), (3, u "([CII)[B"), (138, u "coderFromArrayLen"), (0, u "([BI)B"), (106, .class_ 371), (1, u "java/lang/StringUTF16$LinesSpliterator"), (58, u "MAX_LENGTH"), (196, .class_ 628), (0, u "java/lang/StringUTF16$CodePointsSpliterator"), (0, .class_ 630), (0, u "java/lang/StringUTF16$CharsSpliterator")] 4

def k18m0 : Method := { name := "<init>", desc := "()V", sig := { parameters := [], returnType := none }, accessFlags := 0, code := none }
def k18c1 : Code := { maxStack := 2, maxLocals := 2, code := jdk_52_method_15_code, exceptionTable := #[], attributes := #[] }
def k18m1 : Method := { name := "coderFromArrayLen", desc := "([BI)B", sig := { parameters := [(.array .byte), .int], returnType := some .byte }, accessFlags := 8, code := some k18c1 }
def k18c2 : Code := { maxStack := 5, maxLocals := 6, code := jdk_52_method_16_code, exceptionTable := #[], attributes := #[] }
def k18m2 : Method := { name := "compress", desc := "([CII)[B", sig := { parameters := [(.array .char), .int, .int], returnType := some (.array .byte) }, accessFlags := 9, code := some k18c2 }
def k18c3 : Code := { maxStack := 3, maxLocals := 7, code := jdk_52_method_21_code, exceptionTable := #[], attributes := #[] }
def k18m3 : Method := { name := "compress", desc := "([CI[BII)I", sig := { parameters := [(.array .char), .int, (.array .byte), .int, .int], returnType := some .int }, accessFlags := 9, code := some k18c3 }
/-- java/lang/StringUTF16 -/
def k18 : Class := { plain "java/lang/StringUTF16" (some 0) with
  accessFlags := 48
  interfaces := #[]
  cf := some (fileOf pool18 12 #[.nestMembers #[627, 629, 369]] #[{ accessFlags := 0, nameIndex := 9, descriptorIndex := 10, attributes := #[] }, { accessFlags := 8, nameIndex := 261, descriptorIndex := 262, attributes := #[] }, { accessFlags := 9, nameIndex := 117, descriptorIndex := 122, attributes := #[] }, { accessFlags := 9, nameIndex := 117, descriptorIndex := 118, attributes := #[] }] 48 6 #[] #[{ accessFlags := 26, nameIndex := 61, descriptorIndex := 62, attributes := #[] }, { accessFlags := 26, nameIndex := 65, descriptorIndex := 62, attributes := #[] }, { accessFlags := 24, nameIndex := 430, descriptorIndex := 62, attributes := #[] }, { accessFlags := 4120, nameIndex := 46, descriptorIndex := 47, attributes := #[] }])
  fields := #[{ name := "HI_BYTE_SHIFT", type := .int, accessFlags := 26, slot := 0, constantValue := 0 }, { name := "LO_BYTE_SHIFT", type := .int, accessFlags := 26, slot := 1, constantValue := 0 }, { name := "MAX_LENGTH", type := .int, accessFlags := 24, slot := 2, constantValue := 0 }, { name := "$assertionsDisabled", type := .boolean, accessFlags := 4120, slot := 3, constantValue := 0 }]
  methods := #[k18m0, k18m1, k18m2, k18m3]
  instanceTypes := #[]
  staticTypes := #[.int, .int, .int, .boolean]
  resolved := Array.replicate 635 none
  statics := none }

def pool19 : Array CpInfo := pool [(9, u "<init>"), (6, .class_ 18), (1, u "java/lang/Object"), (0, u "()V"), (1, .class_ 23), (1, u "jdk/internal/util/ArraysSupport"), (0, u "LOG2_ARRAY_LONG_INDEX_SCALE"), (0, u "I"), (2, u "U"), (0, u "Ljdk/internal/misc/Unsafe;"), (8, u "BIG_ENDIAN"), (0, u "Z"), (8, u "LOG2_BYTE_BIT_SIZE"), (4, u "LOG2_ARRAY_INT_INDEX_SCALE"), (54, u "JLA"), (0, u "Ljdk/internal/access/JavaLangAccess;"), (11, u "LOG2_ARRAY_BOOLEAN_INDEX_SCALE"), (9, u "LOG2_ARRAY_BYTE_INDEX_SCALE"), (5, u "LOG2_ARRAY_CHAR_INDEX_SCALE"), (5, u "LOG2_ARRAY_SHORT_INDEX_SCALE"), (18, u "LOG2_ARRAY_FLOAT_INDEX_SCALE"), (24, u "LOG2_ARRAY_DOUBLE_INDEX_SCALE"), (89, u "T_BOOLEAN"), (2, u "T_CHAR"), (1, u "T_FLOAT"), (1, u "T_DOUBLE"), (1, u "T_BYTE"), (1, u "T_SHORT"), (1, u "T_INT"), (1, u "T_LONG"), (1, u "SOFT_MAX_ARRAY_LENGTH")] 83

def k19m0 : Method := { name := "<init>", desc := "()V", sig := { parameters := [], returnType := none }, accessFlags := 2, code := none }
/-- jdk/internal/util/ArraysSupport -/
def k19 : Class := { plain "jdk/internal/util/ArraysSupport" (some 0) with
  accessFlags := 33
  interfaces := #[]
  cf := some (fileOf pool19 21 #[] #[{ accessFlags := 2, nameIndex := 9, descriptorIndex := 19, attributes := #[] }] 33 16 #[] #[{ accessFlags := 24, nameIndex := 28, descriptorIndex := 29, attributes := #[] }, { accessFlags := 26, nameIndex := 38, descriptorIndex := 39, attributes := #[] }, { accessFlags := 25, nameIndex := 121, descriptorIndex := 25, attributes := #[] }, { accessFlags := 25, nameIndex := 131, descriptorIndex := 25, attributes := #[] }, { accessFlags := 25, nameIndex := 137, descriptorIndex := 25, attributes := #[] }, { accessFlags := 25, nameIndex := 143, descriptorIndex := 25, attributes := #[] }, { accessFlags := 25, nameIndex := 53, descriptorIndex := 25, attributes := #[] }, { accessFlags := 25, nameIndex := 24, descriptorIndex := 25, attributes := #[] }, { accessFlags := 25, nameIndex := 162, descriptorIndex := 25, attributes := #[] }, { accessFlags := 25, nameIndex := 187, descriptorIndex := 25, attributes := #[] }, { accessFlags := 26, nameIndex := 48, descriptorIndex := 25, attributes := #[] }, { accessFlags := 25, nameIndex := 277, descriptorIndex := 25, attributes := #[] }, { accessFlags := 25, nameIndex := 280, descriptorIndex := 25, attributes := #[] }, { accessFlags := 25, nameIndex := 282, descriptorIndex := 25, attributes := #[] }, { accessFlags := 25, nameIndex := 284, descriptorIndex := 25, attributes := #[] }, { accessFlags := 25, nameIndex := 286, descriptorIndex := 25, attributes := #[] }, { accessFlags := 25, nameIndex := 288, descriptorIndex := 25, attributes := #[] }, { accessFlags := 25, nameIndex := 290, descriptorIndex := 25, attributes := #[] }, { accessFlags := 25, nameIndex := 292, descriptorIndex := 25, attributes := #[] }, { accessFlags := 26, nameIndex := 108, descriptorIndex := 109, attributes := #[] }, { accessFlags := 25, nameIndex := 294, descriptorIndex := 25, attributes := #[] }])
  fields := #[{ name := "U", type := (.object "jdk/internal/misc/Unsafe"), accessFlags := 24, slot := 0, constantValue := 0 }, { name := "BIG_ENDIAN", type := .boolean, accessFlags := 26, slot := 1, constantValue := 0 }, { name := "LOG2_ARRAY_BOOLEAN_INDEX_SCALE", type := .int, accessFlags := 25, slot := 2, constantValue := 0 }, { name := "LOG2_ARRAY_BYTE_INDEX_SCALE", type := .int, accessFlags := 25, slot := 3, constantValue := 0 }, { name := "LOG2_ARRAY_CHAR_INDEX_SCALE", type := .int, accessFlags := 25, slot := 4, constantValue := 0 }, { name := "LOG2_ARRAY_SHORT_INDEX_SCALE", type := .int, accessFlags := 25, slot := 5, constantValue := 0 }, { name := "LOG2_ARRAY_INT_INDEX_SCALE", type := .int, accessFlags := 25, slot := 6, constantValue := 0 }, { name := "LOG2_ARRAY_LONG_INDEX_SCALE", type := .int, accessFlags := 25, slot := 7, constantValue := 0 }, { name := "LOG2_ARRAY_FLOAT_INDEX_SCALE", type := .int, accessFlags := 25, slot := 8, constantValue := 0 }, { name := "LOG2_ARRAY_DOUBLE_INDEX_SCALE", type := .int, accessFlags := 25, slot := 9, constantValue := 0 }, { name := "LOG2_BYTE_BIT_SIZE", type := .int, accessFlags := 26, slot := 10, constantValue := 0 }, { name := "T_BOOLEAN", type := .int, accessFlags := 25, slot := 11, constantValue := 0 }, { name := "T_CHAR", type := .int, accessFlags := 25, slot := 12, constantValue := 0 }, { name := "T_FLOAT", type := .int, accessFlags := 25, slot := 13, constantValue := 0 }, { name := "T_DOUBLE", type := .int, accessFlags := 25, slot := 14, constantValue := 0 }, { name := "T_BYTE", type := .int, accessFlags := 25, slot := 15, constantValue := 0 }, { name := "T_SHORT", type := .int, accessFlags := 25, slot := 16, constantValue := 0 }, { name := "T_INT", type := .int, accessFlags := 25, slot := 17, constantValue := 0 }, { name := "T_LONG", type := .int, accessFlags := 25, slot := 18, constantValue := 0 }, { name := "JLA", type := (.object "jdk/internal/access/JavaLangAccess"), accessFlags := 26, slot := 19, constantValue := 0 }, { name := "SOFT_MAX_ARRAY_LENGTH", type := .int, accessFlags := 25, slot := 20, constantValue := 0 }]
  methods := #[k19m0]
  instanceTypes := #[]
  staticTypes := #[(.object "jdk/internal/misc/Unsafe"), .boolean, .int, .int, .int, .int, .int, .int, .int, .int, .int, .int, .int, .int, .int, .int, .int, .int, .int, (.object "jdk/internal/access/JavaLangAccess"), .int]
  resolved := Array.replicate 378 none
  statics := none }

def pool20 : Array CpInfo := pool [(1, u "java/lang/Cloneable"), (0, .class_ 1), (0, u "java/lang/Object"), (0, .class_ 3)] 3

/-- java/lang/Cloneable -/
def k20 : Class := { plain "java/lang/Cloneable" (some 0) with
  accessFlags := 1537
  interfaces := #[]
  cf := some (fileOf pool20 2 #[] #[] 1537 4 #[] #[])
  fields := #[]
  methods := #[]
  instanceTypes := #[]
  staticTypes := #[]
  resolved := Array.replicate 8 none
  statics := none }

/-- the primitive byte -/
def k21 : Class := { plain "byte" none with kind := .primitive 'B', accessFlags := 0x411 }
/-- [B -/
def k22 : Class := { plain "[B" (some 0) with kind := .array 21 .byte, interfaces := #[20, 2], accessFlags := 1041 }

/-- the primitive char -/
def k23 : Class := { plain "char" none with kind := .primitive 'C', accessFlags := 0x411 }
/-- [C -/
def k24 : Class := { plain "[C" (some 0) with kind := .array 23 .char, interfaces := #[20, 2], accessFlags := 1041 }

/-- the primitive int -/
def k25 : Class := { plain "int" none with kind := .primitive 'I', accessFlags := 0x411 }
/-- [I -/
def k26 : Class := { plain "[I" (some 0) with kind := .array 25 .int, interfaces := #[20, 2], accessFlags := 1041 }

def heap : Heap := #[{ cls := 7, slots := #[.long 0, .int 1, .null, .int 0, .null, .int 0, .int 0], vm := .statics 7 },
  { cls := 17, slots := #[.null, .null, .null], vm := .statics 17 }]
def classes : Array Class := #[k0, k1, k2, k3, k4, k5, k6, k7, k8, k9, k10, k11, k12, k13, k14, k15, k16, k17, k18, k19, k20, k21, k22, k23, k24, k25, k26]
def interned : List (Array UInt16 × Addr) := []
def slotsUsed : Nat := 10
def theMethod : MethodId := ⟨1, 1⟩
def args0 : Array Value := #[.int 5, .int 5]
def aboutOver (below : List Frame) : State where
  vm := { classes := classes, interned := interned.toArray }
  heap := heap
  slotsUsed := slotsUsed
  threads := #[{ frames := .invoking theMethod args0 :: below }]
def below0 : List Frame := [.native { method := ⟨0, 0⟩, args := #[] }]
def about1 : State := aboutOver below0
def p0 : Program := .bare "" "" ""
def e0 : Env := launch0.env 0 0 0
theorem w_frames : about1.frames = Frame.invoking theMethod args0 :: below0 := rfl
set_option maxRecDepth 65536 in
theorem w_args : argsFit about1.vm theMethod args0 = true := by decide +kernel
set_option maxRecDepth 65536 in
theorem w_heap : heapFits about1 = true := by decide +kernel
set_option maxRecDepth 65536 in
theorem w_runnable : about1.curStatus? = some .runnable := by decide +kernel
set_option maxRecDepth 65536 in
theorem w_alone : about1.alone = true := by decide +kernel
set_option maxRecDepth 65536 in
theorem w_named : about1.methodNamed? x = some theMethod := by decide +kernel
set_option maxRecDepth 65536 in
theorem w_hears : about1.hears theMethod below0 = true := by decide +kernel
set_option maxRecDepth 65536 in
theorem w_ripe : about1.ripe theMethod args0 below0 = true := by decide +kernel
theorem w_running : about1.status = .running := rfl
set_option maxRecDepth 65536 in
theorem w_room : about1.hasRoom e0.platform room_1 = true :=
  launch0.hasRoom_least _ room_1 (by decide +kernel) (by decide +kernel) (by decide +kernel) (by decide +kernel) (by decide +kernel) (by decide +kernel)
theorem allAtoms_all (ts : List Jvm.Cond) (a : Array Jvm.Value) (st : Jvm.State) : (allAtoms ts).before a st = ts.all (fun c => c.before a st) := by
  induction ts with
  | nil => rfl
  | cons c t ih =>
    show (Jvm.Cond.and c (allAtoms t)).before a st = _
    rw [Jvm.Cond.before_and, ih, List.all_cons]
def words1 : List Jvm.Cond := Jvm.Cond.code x code maxLocals ret :: tables_1
/-- a 'code' word, met by the world's own term for the bytes: nothing is compared byte by byte -/
theorem code_word {y : MethodName} {bytes : ByteArray} {mx : Nat} {rt : Option FieldType} {a : Array Value} {s : State} {m : MethodId} {meth : Method} {c : Code} (h1 : s.methodNamed? y = some m) (h2 : s.vm.method? m = some meth) (h3 : meth.code = some c) (h4 : c.code = bytes)
    (h5 : (c.maxLocals == mx && c.exceptionTable.isEmpty && decide (c.maxStack ≤ mostOperands) && decide (meth.sig.returnType = rt) && !meth.locks && decide (parseMethodDescriptor y.desc = some meth.sig)) = true) : (Jvm.Cond.code y bytes mx rt).before a s = true := by
  simp only [Bool.and_eq_true, beq_iff_eq, Bool.not_eq_true', decide_eq_true_eq] at h5
  obtain ⟨⟨⟨⟨⟨g1, g2⟩, g3⟩, g4⟩, g5⟩, g6⟩ := h5
  simp [Cond.before, Cond.holds, Cond.value, h1, h2, h3, h4, g1, g2, g3, g4, g5, g6]
def isCode : Jvm.Cond → Bool
  | .code _ _ _ _ => true
  | _ => false
theorem all_split {L : List Jvm.Cond} {P : Jvm.Cond → Bool} (h1 : L.all (fun c => isCode c || P c) = true) (h2 : ∀ c ∈ L.filter isCode, P c = true) : L.all P = true := by
  refine List.all_eq_true.mpr fun c hc => ?_
  have h := List.all_eq_true.mp h1 c hc
  rcases Bool.eq_false_or_eq_true (isCode c) with hi | hi
  · exact h2 c (List.mem_filter.mpr ⟨hc, hi⟩)
  · simpa [hi] using h
set_option maxRecDepth 65536 in
theorem w_c0 : (Jvm.Cond.code x code maxLocals ret).before args0 about1 = true := code_word (m := ⟨1, 1⟩) (meth := k1m1) (c := k1c1) (by decide +kernel) rfl rfl rfl (by decide +kernel)
set_option maxRecDepth 65536 in
theorem w_c1 : (Jvm.Cond.code ({ cls := "com/example/naviglio/naviglio/DirtyReadsReadsCommittedPinLaw", name := "str", desc := "(ICC)Ljava/lang/String;" } : Jvm.MethodName) method_3_code (3 : Nat) (Option.some (Jvm.ClassFile.FieldType.object "java/lang/String"))).before args0 about1 = true := code_word (m := ⟨1, 2⟩) (meth := k1m2) (c := k1c2) (by decide +kernel) rfl rfl rfl (by decide +kernel)
set_option maxRecDepth 65536 in
theorem w_c2 : (Jvm.Cond.code ({ cls := "java/lang/String", name := "<init>", desc := "([C)V" } : Jvm.MethodName) jdk_42_method_3_code (2 : Nat) (Option.none : Option Jvm.ClassFile.FieldType)).before args0 about1 = true := code_word (m := ⟨7, 1⟩) (meth := k7m1) (c := k7c1) (by decide +kernel) rfl rfl rfl (by decide +kernel)
set_option maxRecDepth 65536 in
theorem w_c3 : (Jvm.Cond.code ({ cls := "java/lang/String", name := "<init>", desc := "([CIILjava/lang/Void;)V" } : Jvm.MethodName) jdk_42_method_149_code (6 : Nat) (Option.none : Option Jvm.ClassFile.FieldType)).before args0 about1 = true := code_word (m := ⟨7, 7⟩) (meth := k7m7) (c := k7c7) (by decide +kernel) rfl rfl rfl (by decide +kernel)
set_option maxRecDepth 65536 in
theorem w_c4 : (Jvm.Cond.code ({ cls := "java/lang/Object", name := "<init>", desc := "()V" } : Jvm.MethodName) object_method_1_code (1 : Nat) (Option.none : Option Jvm.ClassFile.FieldType)).before args0 about1 = true := code_word (m := ⟨0, 0⟩) (meth := k0m0) (c := k0c0) (by decide +kernel) rfl rfl rfl (by decide +kernel)
set_option maxRecDepth 65536 in
theorem w_c5 : (Jvm.Cond.code ({ cls := "com/example/naviglio/naviglio/Dialect$DirtyReads", name := "<init>", desc := "(Ljava/lang/String;Ljava/lang/String;)V" } : Jvm.MethodName) prog_11_method_1_code (3 : Nat) (Option.none : Option Jvm.ClassFile.FieldType)).before args0 about1 = true := code_word (m := ⟨9, 0⟩) (meth := k9m0) (c := k9c0) (by decide +kernel) rfl rfl rfl (by decide +kernel)
set_option maxRecDepth 65536 in
theorem w_c6 : (Jvm.Cond.code ({ cls := "java/lang/Record", name := "<init>", desc := "()V" } : Jvm.MethodName) jdk_30_method_1_code (1 : Nat) (Option.none : Option Jvm.ClassFile.FieldType)).before args0 about1 = true := code_word (m := ⟨8, 0⟩) (meth := k8m0) (c := k8c0) (by decide +kernel) rfl rfl rfl (by decide +kernel)
set_option maxRecDepth 65536 in
theorem w_c7 : (Jvm.Cond.code ({ cls := "com/example/naviglio/naviglio/Dialect$DirtyReads", name := "readsCommitted", desc := "()Ljava/lang/String;" } : Jvm.MethodName) prog_11_method_2_code (1 : Nat) (Option.some (Jvm.ClassFile.FieldType.object "java/lang/String"))).before args0 about1 = true := code_word (m := ⟨9, 1⟩) (meth := k9m1) (c := k9c1) (by decide +kernel) rfl rfl rfl (by decide +kernel)
set_option maxRecDepth 65536 in
theorem w_c8 : (Jvm.Cond.code ({ cls := "java/lang/StringBuilder", name := "<init>", desc := "()V" } : Jvm.MethodName) jdk_67_method_1_code (1 : Nat) (Option.none : Option Jvm.ClassFile.FieldType)).before args0 about1 = true := code_word (m := ⟨12, 0⟩) (meth := k12m0) (c := k12c0) (by decide +kernel) rfl rfl rfl (by decide +kernel)
set_option maxRecDepth 65536 in
theorem w_c9 : (Jvm.Cond.code ({ cls := "java/lang/AbstractStringBuilder", name := "<init>", desc := "(I)V" } : Jvm.MethodName) jdk_68_method_2_code (2 : Nat) (Option.none : Option Jvm.ClassFile.FieldType)).before args0 about1 = true := code_word (m := ⟨11, 1⟩) (meth := k11m1) (c := k11c1) (by decide +kernel) rfl rfl rfl (by decide +kernel)
set_option maxRecDepth 65536 in
theorem w_c10 : (Jvm.Cond.code ({ cls := "java/lang/StringBuilder", name := "append", desc := "(Ljava/lang/String;)Ljava/lang/StringBuilder;" } : Jvm.MethodName) jdk_67_method_7_code (2 : Nat) (Option.some (Jvm.ClassFile.FieldType.object "java/lang/StringBuilder"))).before args0 about1 = true := code_word (m := ⟨12, 1⟩) (meth := k12m1) (c := k12c1) (by decide +kernel) rfl rfl rfl (by decide +kernel)
set_option maxRecDepth 65536 in
theorem w_c11 : (Jvm.Cond.code ({ cls := "java/lang/AbstractStringBuilder", name := "append", desc := "(Ljava/lang/String;)Ljava/lang/AbstractStringBuilder;" } : Jvm.MethodName) jdk_68_method_22_code (3 : Nat) (Option.some (Jvm.ClassFile.FieldType.object "java/lang/AbstractStringBuilder"))).before args0 about1 = true := code_word (m := ⟨11, 4⟩) (meth := k11m4) (c := k11c4) (by decide +kernel) rfl rfl rfl (by decide +kernel)
set_option maxRecDepth 65536 in
theorem w_c12 : (Jvm.Cond.code ({ cls := "java/lang/String", name := "length", desc := "()I" } : Jvm.MethodName) jdk_42_method_54_code (1 : Nat) (Option.some Jvm.ClassFile.FieldType.int)).before args0 about1 = true := code_word (m := ⟨7, 3⟩) (meth := k7m3) (c := k7c3) (by decide +kernel) rfl rfl rfl (by decide +kernel)
set_option maxRecDepth 65536 in
theorem w_c13 : (Jvm.Cond.code ({ cls := "java/lang/String", name := "coder", desc := "()B" } : Jvm.MethodName) jdk_42_method_152_code (1 : Nat) (Option.some Jvm.ClassFile.FieldType.byte)).before args0 about1 = true := code_word (m := ⟨7, 10⟩) (meth := k7m10) (c := k7c10) (by decide +kernel) rfl rfl rfl (by decide +kernel)
set_option maxRecDepth 65536 in
theorem w_c14 : (Jvm.Cond.code ({ cls := "java/lang/AbstractStringBuilder", name := "ensureCapacityInternal", desc := "(I)V" } : Jvm.MethodName) jdk_68_method_9_code (3 : Nat) (Option.none : Option Jvm.ClassFile.FieldType)).before args0 about1 = true := code_word (m := ⟨11, 3⟩) (meth := k11m3) (c := k11c3) (by decide +kernel) rfl rfl rfl (by decide +kernel)
set_option maxRecDepth 65536 in
theorem w_c15 : (Jvm.Cond.code ({ cls := "java/lang/AbstractStringBuilder", name := "putStringAt", desc := "(ILjava/lang/String;)V" } : Jvm.MethodName) jdk_68_method_73_code (3 : Nat) (Option.none : Option Jvm.ClassFile.FieldType)).before args0 about1 = true := code_word (m := ⟨11, 8⟩) (meth := k11m8) (c := k11c8) (by decide +kernel) rfl rfl rfl (by decide +kernel)
set_option maxRecDepth 65536 in
theorem w_c16 : (Jvm.Cond.code ({ cls := "java/lang/AbstractStringBuilder", name := "inflateIfNeededFor", desc := "(Ljava/lang/String;)V" } : Jvm.MethodName) jdk_68_method_71_code (2 : Nat) (Option.none : Option Jvm.ClassFile.FieldType)).before args0 about1 = true := code_word (m := ⟨11, 7⟩) (meth := k11m7) (c := k11c7) (by decide +kernel) rfl rfl rfl (by decide +kernel)
set_option maxRecDepth 65536 in
theorem w_c17 : (Jvm.Cond.code ({ cls := "java/lang/String", name := "getBytes", desc := "([BIB)V" } : Jvm.MethodName) jdk_42_method_147_code (4 : Nat) (Option.none : Option Jvm.ClassFile.FieldType)).before args0 about1 = true := code_word (m := ⟨7, 6⟩) (meth := k7m6) (c := k7c6) (by decide +kernel) rfl rfl rfl (by decide +kernel)
set_option maxRecDepth 65536 in
theorem w_c18 : (Jvm.Cond.code ({ cls := "java/lang/StringBuilder", name := "toString", desc := "()Ljava/lang/String;" } : Jvm.MethodName) jdk_67_method_42_code (1 : Nat) (Option.some (Jvm.ClassFile.FieldType.object "java/lang/String"))).before args0 about1 = true := code_word (m := ⟨12, 2⟩) (meth := k12m2) (c := k12c2) (by decide +kernel) rfl rfl rfl (by decide +kernel)
set_option maxRecDepth 65536 in
theorem w_c19 : (Jvm.Cond.code ({ cls := "java/lang/String", name := "<init>", desc := "(Ljava/lang/StringBuilder;)V" } : Jvm.MethodName) jdk_42_method_53_code (2 : Nat) (Option.none : Option Jvm.ClassFile.FieldType)).before args0 about1 = true := code_word (m := ⟨7, 2⟩) (meth := k7m2) (c := k7c2) (by decide +kernel) rfl rfl rfl (by decide +kernel)
set_option maxRecDepth 65536 in
theorem w_c20 : (Jvm.Cond.code ({ cls := "java/lang/String", name := "<init>", desc := "(Ljava/lang/AbstractStringBuilder;Ljava/lang/Void;)V" } : Jvm.MethodName) jdk_42_method_150_code (5 : Nat) (Option.none : Option Jvm.ClassFile.FieldType)).before args0 about1 = true := code_word (m := ⟨7, 8⟩) (meth := k7m8) (c := k7c8) (by decide +kernel) rfl rfl rfl (by decide +kernel)
set_option maxRecDepth 65536 in
theorem w_c21 : (Jvm.Cond.code ({ cls := "java/lang/AbstractStringBuilder", name := "getValue", desc := "()[B" } : Jvm.MethodName) jdk_68_method_64_code (1 : Nat) (Option.some (Jvm.ClassFile.FieldType.array Jvm.ClassFile.FieldType.byte))).before args0 about1 = true := code_word (m := ⟨11, 5⟩) (meth := k11m5) (c := k11c5) (by decide +kernel) rfl rfl rfl (by decide +kernel)
set_option maxRecDepth 65536 in
theorem w_c22 : (Jvm.Cond.code ({ cls := "java/lang/StringBuilder", name := "length", desc := "()I" } : Jvm.MethodName) jdk_67_method_93_code (1 : Nat) (Option.some Jvm.ClassFile.FieldType.int)).before args0 about1 = true := code_word (m := ⟨12, 3⟩) (meth := k12m3) (c := k12c3) (by decide +kernel) rfl rfl rfl (by decide +kernel)
set_option maxRecDepth 65536 in
theorem w_c23 : (Jvm.Cond.code ({ cls := "java/lang/AbstractStringBuilder", name := "length", desc := "()I" } : Jvm.MethodName) jdk_68_method_6_code (1 : Nat) (Option.some Jvm.ClassFile.FieldType.int)).before args0 about1 = true := code_word (m := ⟨11, 2⟩) (meth := k11m2) (c := k11c2) (by decide +kernel) rfl rfl rfl (by decide +kernel)
set_option maxRecDepth 65536 in
theorem w_c24 : (Jvm.Cond.code ({ cls := "java/lang/AbstractStringBuilder", name := "isLatin1", desc := "()Z" } : Jvm.MethodName) jdk_68_method_68_code (1 : Nat) (Option.some Jvm.ClassFile.FieldType.boolean)).before args0 about1 = true := code_word (m := ⟨11, 6⟩) (meth := k11m6) (c := k11c6) (by decide +kernel) rfl rfl rfl (by decide +kernel)
set_option maxRecDepth 65536 in
theorem w_c25 : (Jvm.Cond.code ({ cls := "java/util/Arrays", name := "copyOfRange", desc := "([BII)[B" } : Jvm.MethodName) jdk_65_method_132_code (3 : Nat) (Option.some (Jvm.ClassFile.FieldType.array Jvm.ClassFile.FieldType.byte))).before args0 about1 = true := code_word (m := ⟨14, 2⟩) (meth := k14m2) (c := k14c2) (by decide +kernel) rfl rfl rfl (by decide +kernel)
set_option maxRecDepth 65536 in
theorem w_c26 : (Jvm.Cond.code ({ cls := "java/util/Arrays", name := "copyOfRangeByte", desc := "([BII)[B" } : Jvm.MethodName) jdk_65_method_133_code (5 : Nat) (Option.some (Jvm.ClassFile.FieldType.array Jvm.ClassFile.FieldType.byte))).before args0 about1 = true := code_word (m := ⟨14, 3⟩) (meth := k14m3) (c := k14c3) (by decide +kernel) rfl rfl rfl (by decide +kernel)
set_option maxRecDepth 65536 in
theorem w_c27 : (Jvm.Cond.code ({ cls := "java/util/Arrays", name := "checkLength", desc := "(II)V" } : Jvm.MethodName) jdk_65_method_131_code (2 : Nat) (Option.none : Option Jvm.ClassFile.FieldType)).before args0 about1 = true := code_word (m := ⟨14, 1⟩) (meth := k14m1) (c := k14c1) (by decide +kernel) rfl rfl rfl (by decide +kernel)
set_option maxRecDepth 65536 in
theorem w_c28 : (Jvm.Cond.code ({ cls := "java/lang/Math", name := "min", desc := "(II)I" } : Jvm.MethodName) jdk_29_method_69_code (2 : Nat) (Option.some Jvm.ClassFile.FieldType.int)).before args0 about1 = true := code_word (m := ⟨15, 1⟩) (meth := k15m1) (c := k15c1) (by decide +kernel) rfl rfl rfl (by decide +kernel)
set_option maxRecDepth 65536 in
theorem w_c29 : (Jvm.Cond.code ({ cls := "com/example/naviglio/naviglio/DirtyReadsReadsCommittedPinLaw", name := "at", desc := "(Ljava/lang/String;IIICCICC)Z" } : Jvm.MethodName) method_4_code (9 : Nat) (Option.some Jvm.ClassFile.FieldType.boolean)).before args0 about1 = true := code_word (m := ⟨1, 3⟩) (meth := k1m3) (c := k1c3) (by decide +kernel) rfl rfl rfl (by decide +kernel)
set_option maxRecDepth 65536 in
theorem w_c30 : (Jvm.Cond.code ({ cls := "java/lang/String", name := "charAt", desc := "(I)C" } : Jvm.MethodName) jdk_42_method_56_code (2 : Nat) (Option.some Jvm.ClassFile.FieldType.char)).before args0 about1 = true := code_word (m := ⟨7, 4⟩) (meth := k7m4) (c := k7c4) (by decide +kernel) rfl rfl rfl (by decide +kernel)
set_option maxRecDepth 65536 in
theorem w_c31 : (Jvm.Cond.code ({ cls := "java/lang/String", name := "isLatin1", desc := "()Z" } : Jvm.MethodName) jdk_42_method_154_code (1 : Nat) (Option.some Jvm.ClassFile.FieldType.boolean)).before args0 about1 = true := code_word (m := ⟨7, 11⟩) (meth := k7m11) (c := k7c11) (by decide +kernel) rfl rfl rfl (by decide +kernel)
set_option maxRecDepth 65536 in
theorem w_c32 : (Jvm.Cond.code ({ cls := "java/lang/StringLatin1", name := "charAt", desc := "([BI)C" } : Jvm.MethodName) jdk_43_method_2_code (2 : Nat) (Option.some Jvm.ClassFile.FieldType.char)).before args0 about1 = true := code_word (m := ⟨16, 1⟩) (meth := k16m1) (c := k16c1) (by decide +kernel) rfl rfl rfl (by decide +kernel)
set_option maxRecDepth 65536 in
theorem w_c33 : (Jvm.Cond.code ({ cls := "java/lang/String", name := "checkIndex", desc := "(II)V" } : Jvm.MethodName) jdk_42_method_155_code (2 : Nat) (Option.none : Option Jvm.ClassFile.FieldType)).before args0 about1 = true := code_word (m := ⟨7, 12⟩) (meth := k7m12) (c := k7c12) (by decide +kernel) rfl rfl rfl (by decide +kernel)
set_option maxRecDepth 65536 in
theorem w_c34 : (Jvm.Cond.code ({ cls := "jdk/internal/util/Preconditions", name := "checkIndex", desc := "(IILjava/util/function/BiFunction;)I" } : Jvm.MethodName) jdk_41_method_11_code (3 : Nat) (Option.some Jvm.ClassFile.FieldType.int)).before args0 about1 = true := code_word (m := ⟨17, 1⟩) (meth := k17m1) (c := k17c1) (by decide +kernel) rfl rfl rfl (by decide +kernel)
set_option maxRecDepth 65536 in
theorem w_c35 : (Jvm.Cond.code ({ cls := "com/example/naviglio/naviglio/DirtyReadsReadsCommittedPinLaw", name := "exp", desc := "(IICCICC)C" } : Jvm.MethodName) method_5_code (9 : Nat) (Option.some Jvm.ClassFile.FieldType.char)).before args0 about1 = true := code_word (m := ⟨1, 4⟩) (meth := k1m4) (c := k1c4) (by decide +kernel) rfl rfl rfl (by decide +kernel)
set_option maxRecDepth 65536 in
theorem w_c36 : (Jvm.Cond.code ({ cls := "java/lang/StringUTF16", name := "compress", desc := "([CII)[B" } : Jvm.MethodName) jdk_52_method_16_code (6 : Nat) (Option.some (Jvm.ClassFile.FieldType.array Jvm.ClassFile.FieldType.byte))).before args0 about1 = true := code_word (m := ⟨18, 2⟩) (meth := k18m2) (c := k18c2) (by decide +kernel) rfl rfl rfl (by decide +kernel)
set_option maxRecDepth 65536 in
theorem w_c37 : (Jvm.Cond.code ({ cls := "java/lang/StringUTF16", name := "compress", desc := "([CI[BII)I" } : Jvm.MethodName) jdk_52_method_21_code (7 : Nat) (Option.some Jvm.ClassFile.FieldType.int)).before args0 about1 = true := code_word (m := ⟨18, 3⟩) (meth := k18m3) (c := k18c3) (by decide +kernel) rfl rfl rfl (by decide +kernel)
set_option maxRecDepth 65536 in
theorem w_c38 : (Jvm.Cond.code ({ cls := "java/lang/StringUTF16", name := "coderFromArrayLen", desc := "([BI)B" } : Jvm.MethodName) jdk_52_method_15_code (2 : Nat) (Option.some Jvm.ClassFile.FieldType.byte)).before args0 about1 = true := code_word (m := ⟨18, 1⟩) (meth := k18m1) (c := k18c1) (by decide +kernel) rfl rfl rfl (by decide +kernel)
set_option maxRecDepth 65536 in
theorem w_c39 : (Jvm.Cond.code ({ cls := "java/lang/String", name := "valueOf", desc := "(C)Ljava/lang/String;" } : Jvm.MethodName) jdk_42_method_139_code (1 : Nat) (Option.some (Jvm.ClassFile.FieldType.object "java/lang/String"))).before args0 about1 = true := code_word (m := ⟨7, 5⟩) (meth := k7m5) (c := k7c5) (by decide +kernel) rfl rfl rfl (by decide +kernel)
set_option maxRecDepth 65536 in
theorem w_c40 : (Jvm.Cond.code ({ cls := "java/lang/StringLatin1", name := "canEncode", desc := "(C)Z" } : Jvm.MethodName) jdk_43_method_3_code (1 : Nat) (Option.some Jvm.ClassFile.FieldType.boolean)).before args0 about1 = true := code_word (m := ⟨16, 2⟩) (meth := k16m2) (c := k16c2) (by decide +kernel) rfl rfl rfl (by decide +kernel)
set_option maxRecDepth 65536 in
theorem w_c41 : (Jvm.Cond.code ({ cls := "java/lang/StringLatin1", name := "toBytes", desc := "(C)[B" } : Jvm.MethodName) jdk_43_method_46_code (1 : Nat) (Option.some (Jvm.ClassFile.FieldType.array Jvm.ClassFile.FieldType.byte))).before args0 about1 = true := code_word (m := ⟨16, 3⟩) (meth := k16m3) (c := k16c3) (by decide +kernel) rfl rfl rfl (by decide +kernel)
set_option maxRecDepth 65536 in
theorem w_c42 : (Jvm.Cond.code ({ cls := "java/lang/String", name := "<init>", desc := "([BB)V" } : Jvm.MethodName) jdk_42_method_151_code (3 : Nat) (Option.none : Option Jvm.ClassFile.FieldType)).before args0 about1 = true := code_word (m := ⟨7, 9⟩) (meth := k7m9) (c := k7c9) (by decide +kernel) rfl rfl rfl (by decide +kernel)
def codes1 : List Jvm.Cond := [Jvm.Cond.code x code maxLocals ret, Jvm.Cond.code ({ cls := "com/example/naviglio/naviglio/DirtyReadsReadsCommittedPinLaw", name := "str", desc := "(ICC)Ljava/lang/String;" } : Jvm.MethodName) method_3_code (3 : Nat) (Option.some (Jvm.ClassFile.FieldType.object "java/lang/String")), Jvm.Cond.code ({ cls := "java/lang/String", name := "<init>", desc := "([C)V" } : Jvm.MethodName) jdk_42_method_3_code (2 : Nat) (Option.none : Option Jvm.ClassFile.FieldType), Jvm.Cond.code ({ cls := "java/lang/String", name := "<init>", desc := "([CIILjava/lang/Void;)V" } : Jvm.MethodName) jdk_42_method_149_code (6 : Nat) (Option.none : Option Jvm.ClassFile.FieldType), Jvm.Cond.code ({ cls := "java/lang/Object", name := "<init>", desc := "()V" } : Jvm.MethodName) object_method_1_code (1 : Nat) (Option.none : Option Jvm.ClassFile.FieldType), Jvm.Cond.code ({ cls := "com/example/naviglio/naviglio/Dialect$DirtyReads", name := "<init>", desc := "(Ljava/lang/String;Ljava/lang/String;)V" } : Jvm.MethodName) prog_11_method_1_code (3 : Nat) (Option.none : Option Jvm.ClassFile.FieldType), Jvm.Cond.code ({ cls := "java/lang/Record", name := "<init>", desc := "()V" } : Jvm.MethodName) jdk_30_method_1_code (1 : Nat) (Option.none : Option Jvm.ClassFile.FieldType), Jvm.Cond.code ({ cls := "com/example/naviglio/naviglio/Dialect$DirtyReads", name := "readsCommitted", desc := "()Ljava/lang/String;" } : Jvm.MethodName) prog_11_method_2_code (1 : Nat) (Option.some (Jvm.ClassFile.FieldType.object "java/lang/String")), Jvm.Cond.code ({ cls := "java/lang/StringBuilder", name := "<init>", desc := "()V" } : Jvm.MethodName) jdk_67_method_1_code (1 : Nat) (Option.none : Option Jvm.ClassFile.FieldType), Jvm.Cond.code ({ cls := "java/lang/AbstractStringBuilder", name := "<init>", desc := "(I)V" } : Jvm.MethodName) jdk_68_method_2_code (2 : Nat) (Option.none : Option Jvm.ClassFile.FieldType), Jvm.Cond.code ({ cls := "java/lang/StringBuilder", name := "append", desc := "(Ljava/lang/String;)Ljava/lang/StringBuilder;" } : Jvm.MethodName) jdk_67_method_7_code (2 : Nat) (Option.some (Jvm.ClassFile.FieldType.object "java/lang/StringBuilder")), Jvm.Cond.code ({ cls := "java/lang/AbstractStringBuilder", name := "append", desc := "(Ljava/lang/String;)Ljava/lang/AbstractStringBuilder;" } : Jvm.MethodName) jdk_68_method_22_code (3 : Nat) (Option.some (Jvm.ClassFile.FieldType.object "java/lang/AbstractStringBuilder")), Jvm.Cond.code ({ cls := "java/lang/String", name := "length", desc := "()I" } : Jvm.MethodName) jdk_42_method_54_code (1 : Nat) (Option.some Jvm.ClassFile.FieldType.int), Jvm.Cond.code ({ cls := "java/lang/String", name := "coder", desc := "()B" } : Jvm.MethodName) jdk_42_method_152_code (1 : Nat) (Option.some Jvm.ClassFile.FieldType.byte), Jvm.Cond.code ({ cls := "java/lang/AbstractStringBuilder", name := "ensureCapacityInternal", desc := "(I)V" } : Jvm.MethodName) jdk_68_method_9_code (3 : Nat) (Option.none : Option Jvm.ClassFile.FieldType), Jvm.Cond.code ({ cls := "java/lang/AbstractStringBuilder", name := "putStringAt", desc := "(ILjava/lang/String;)V" } : Jvm.MethodName) jdk_68_method_73_code (3 : Nat) (Option.none : Option Jvm.ClassFile.FieldType), Jvm.Cond.code ({ cls := "java/lang/AbstractStringBuilder", name := "inflateIfNeededFor", desc := "(Ljava/lang/String;)V" } : Jvm.MethodName) jdk_68_method_71_code (2 : Nat) (Option.none : Option Jvm.ClassFile.FieldType), Jvm.Cond.code ({ cls := "java/lang/String", name := "getBytes", desc := "([BIB)V" } : Jvm.MethodName) jdk_42_method_147_code (4 : Nat) (Option.none : Option Jvm.ClassFile.FieldType), Jvm.Cond.code ({ cls := "java/lang/StringBuilder", name := "toString", desc := "()Ljava/lang/String;" } : Jvm.MethodName) jdk_67_method_42_code (1 : Nat) (Option.some (Jvm.ClassFile.FieldType.object "java/lang/String")), Jvm.Cond.code ({ cls := "java/lang/String", name := "<init>", desc := "(Ljava/lang/StringBuilder;)V" } : Jvm.MethodName) jdk_42_method_53_code (2 : Nat) (Option.none : Option Jvm.ClassFile.FieldType), Jvm.Cond.code ({ cls := "java/lang/String", name := "<init>", desc := "(Ljava/lang/AbstractStringBuilder;Ljava/lang/Void;)V" } : Jvm.MethodName) jdk_42_method_150_code (5 : Nat) (Option.none : Option Jvm.ClassFile.FieldType), Jvm.Cond.code ({ cls := "java/lang/AbstractStringBuilder", name := "getValue", desc := "()[B" } : Jvm.MethodName) jdk_68_method_64_code (1 : Nat) (Option.some (Jvm.ClassFile.FieldType.array Jvm.ClassFile.FieldType.byte)), Jvm.Cond.code ({ cls := "java/lang/StringBuilder", name := "length", desc := "()I" } : Jvm.MethodName) jdk_67_method_93_code (1 : Nat) (Option.some Jvm.ClassFile.FieldType.int), Jvm.Cond.code ({ cls := "java/lang/AbstractStringBuilder", name := "length", desc := "()I" } : Jvm.MethodName) jdk_68_method_6_code (1 : Nat) (Option.some Jvm.ClassFile.FieldType.int), Jvm.Cond.code ({ cls := "java/lang/AbstractStringBuilder", name := "isLatin1", desc := "()Z" } : Jvm.MethodName) jdk_68_method_68_code (1 : Nat) (Option.some Jvm.ClassFile.FieldType.boolean), Jvm.Cond.code ({ cls := "java/util/Arrays", name := "copyOfRange", desc := "([BII)[B" } : Jvm.MethodName) jdk_65_method_132_code (3 : Nat) (Option.some (Jvm.ClassFile.FieldType.array Jvm.ClassFile.FieldType.byte)), Jvm.Cond.code ({ cls := "java/util/Arrays", name := "copyOfRangeByte", desc := "([BII)[B" } : Jvm.MethodName) jdk_65_method_133_code (5 : Nat) (Option.some (Jvm.ClassFile.FieldType.array Jvm.ClassFile.FieldType.byte)), Jvm.Cond.code ({ cls := "java/util/Arrays", name := "checkLength", desc := "(II)V" } : Jvm.MethodName) jdk_65_method_131_code (2 : Nat) (Option.none : Option Jvm.ClassFile.FieldType), Jvm.Cond.code ({ cls := "java/lang/Math", name := "min", desc := "(II)I" } : Jvm.MethodName) jdk_29_method_69_code (2 : Nat) (Option.some Jvm.ClassFile.FieldType.int), Jvm.Cond.code ({ cls := "com/example/naviglio/naviglio/DirtyReadsReadsCommittedPinLaw", name := "at", desc := "(Ljava/lang/String;IIICCICC)Z" } : Jvm.MethodName) method_4_code (9 : Nat) (Option.some Jvm.ClassFile.FieldType.boolean), Jvm.Cond.code ({ cls := "java/lang/String", name := "charAt", desc := "(I)C" } : Jvm.MethodName) jdk_42_method_56_code (2 : Nat) (Option.some Jvm.ClassFile.FieldType.char), Jvm.Cond.code ({ cls := "java/lang/String", name := "isLatin1", desc := "()Z" } : Jvm.MethodName) jdk_42_method_154_code (1 : Nat) (Option.some Jvm.ClassFile.FieldType.boolean), Jvm.Cond.code ({ cls := "java/lang/StringLatin1", name := "charAt", desc := "([BI)C" } : Jvm.MethodName) jdk_43_method_2_code (2 : Nat) (Option.some Jvm.ClassFile.FieldType.char), Jvm.Cond.code ({ cls := "java/lang/String", name := "checkIndex", desc := "(II)V" } : Jvm.MethodName) jdk_42_method_155_code (2 : Nat) (Option.none : Option Jvm.ClassFile.FieldType), Jvm.Cond.code ({ cls := "jdk/internal/util/Preconditions", name := "checkIndex", desc := "(IILjava/util/function/BiFunction;)I" } : Jvm.MethodName) jdk_41_method_11_code (3 : Nat) (Option.some Jvm.ClassFile.FieldType.int), Jvm.Cond.code ({ cls := "com/example/naviglio/naviglio/DirtyReadsReadsCommittedPinLaw", name := "exp", desc := "(IICCICC)C" } : Jvm.MethodName) method_5_code (9 : Nat) (Option.some Jvm.ClassFile.FieldType.char), Jvm.Cond.code ({ cls := "java/lang/StringUTF16", name := "compress", desc := "([CII)[B" } : Jvm.MethodName) jdk_52_method_16_code (6 : Nat) (Option.some (Jvm.ClassFile.FieldType.array Jvm.ClassFile.FieldType.byte)), Jvm.Cond.code ({ cls := "java/lang/StringUTF16", name := "compress", desc := "([CI[BII)I" } : Jvm.MethodName) jdk_52_method_21_code (7 : Nat) (Option.some Jvm.ClassFile.FieldType.int), Jvm.Cond.code ({ cls := "java/lang/StringUTF16", name := "coderFromArrayLen", desc := "([BI)B" } : Jvm.MethodName) jdk_52_method_15_code (2 : Nat) (Option.some Jvm.ClassFile.FieldType.byte), Jvm.Cond.code ({ cls := "java/lang/String", name := "valueOf", desc := "(C)Ljava/lang/String;" } : Jvm.MethodName) jdk_42_method_139_code (1 : Nat) (Option.some (Jvm.ClassFile.FieldType.object "java/lang/String")), Jvm.Cond.code ({ cls := "java/lang/StringLatin1", name := "canEncode", desc := "(C)Z" } : Jvm.MethodName) jdk_43_method_3_code (1 : Nat) (Option.some Jvm.ClassFile.FieldType.boolean), Jvm.Cond.code ({ cls := "java/lang/StringLatin1", name := "toBytes", desc := "(C)[B" } : Jvm.MethodName) jdk_43_method_46_code (1 : Nat) (Option.some (Jvm.ClassFile.FieldType.array Jvm.ClassFile.FieldType.byte)), Jvm.Cond.code ({ cls := "java/lang/String", name := "<init>", desc := "([BB)V" } : Jvm.MethodName) jdk_42_method_151_code (3 : Nat) (Option.none : Option Jvm.ClassFile.FieldType)]
set_option maxRecDepth 65536 in
theorem codes_eq : words1.filter isCode = codes1 := rfl
theorem w_codes : ∀ c ∈ words1.filter isCode, c.before args0 about1 = true := by
  rw [codes_eq]
  intro c hc
  simp only [codes1, List.mem_cons, List.not_mem_nil, or_false] at hc
  rcases hc with rfl | rfl | rfl | rfl | rfl | rfl | rfl | rfl | rfl | rfl | rfl | rfl | rfl | rfl | rfl | rfl | rfl | rfl | rfl | rfl | rfl | rfl | rfl | rfl | rfl | rfl | rfl | rfl | rfl | rfl | rfl | rfl | rfl | rfl | rfl | rfl | rfl | rfl | rfl | rfl | rfl | rfl | rfl
  · exact w_c0
  · exact w_c1
  · exact w_c2
  · exact w_c3
  · exact w_c4
  · exact w_c5
  · exact w_c6
  · exact w_c7
  · exact w_c8
  · exact w_c9
  · exact w_c10
  · exact w_c11
  · exact w_c12
  · exact w_c13
  · exact w_c14
  · exact w_c15
  · exact w_c16
  · exact w_c17
  · exact w_c18
  · exact w_c19
  · exact w_c20
  · exact w_c21
  · exact w_c22
  · exact w_c23
  · exact w_c24
  · exact w_c25
  · exact w_c26
  · exact w_c27
  · exact w_c28
  · exact w_c29
  · exact w_c30
  · exact w_c31
  · exact w_c32
  · exact w_c33
  · exact w_c34
  · exact w_c35
  · exact w_c36
  · exact w_c37
  · exact w_c38
  · exact w_c39
  · exact w_c40
  · exact w_c41
  · exact w_c42
set_option maxRecDepth 65536 in
theorem w_t1 : (words1.take 24).all (fun c => isCode c || c.before args0 about1) = true := by decide +kernel
set_option maxRecDepth 65536 in
theorem w_t2 : ((words1.drop 24).take 24).all (fun c => isCode c || c.before args0 about1) = true := by decide +kernel
set_option maxRecDepth 65536 in
theorem w_t3 : (((words1.drop 24).drop 24).take 24).all (fun c => isCode c || c.before args0 about1) = true := by decide +kernel
set_option maxRecDepth 65536 in
theorem w_t4 : ((((words1.drop 24).drop 24).drop 24).take 24).all (fun c => isCode c || c.before args0 about1) = true := by decide +kernel
set_option maxRecDepth 65536 in
theorem w_t5 : (((((words1.drop 24).drop 24).drop 24).drop 24).take 24).all (fun c => isCode c || c.before args0 about1) = true := by decide +kernel
set_option maxRecDepth 65536 in
theorem w_t6 : ((((((words1.drop 24).drop 24).drop 24).drop 24).drop 24).take 24).all (fun c => isCode c || c.before args0 about1) = true := by decide +kernel
set_option maxRecDepth 65536 in
theorem w_t7 : (((((((words1.drop 24).drop 24).drop 24).drop 24).drop 24).drop 24).take 24).all (fun c => isCode c || c.before args0 about1) = true := by decide +kernel
set_option maxRecDepth 65536 in
theorem w_t8 : ((((((((words1.drop 24).drop 24).drop 24).drop 24).drop 24).drop 24).drop 24).take 24).all (fun c => isCode c || c.before args0 about1) = true := by decide +kernel
set_option maxRecDepth 65536 in
theorem w_t9 : ((((((((words1.drop 24).drop 24).drop 24).drop 24).drop 24).drop 24).drop 24).drop 24).all (fun c => isCode c || c.before args0 about1) = true := by decide +kernel
theorem w_tables : (allAtoms (Jvm.Cond.code x code maxLocals ret :: tables_1)).before args0 about1 = true := by
  rw [allAtoms_all]
  show words1.all (fun c => c.before args0 about1) = true
  refine all_split ?_ w_codes
  rw [← List.take_append_drop 24 words1, List.all_append, w_t1, ← List.take_append_drop 24 (words1.drop 24), List.all_append, w_t2, ← List.take_append_drop 24 ((words1.drop 24).drop 24), List.all_append, w_t3, ← List.take_append_drop 24 (((words1.drop 24).drop 24).drop 24), List.all_append, w_t4, ← List.take_append_drop 24 ((((words1.drop 24).drop 24).drop 24).drop 24), List.all_append, w_t5, ← List.take_append_drop 24 (((((words1.drop 24).drop 24).drop 24).drop 24).drop 24), List.all_append, w_t6, ← List.take_append_drop 24 ((((((words1.drop 24).drop 24).drop 24).drop 24).drop 24).drop 24), List.all_append, w_t7, ← List.take_append_drop 24 (((((((words1.drop 24).drop 24).drop 24).drop 24).drop 24).drop 24).drop 24), List.all_append, w_t8, w_t9]
  rfl
set_option maxRecDepth 65536 in
theorem w_rest : rest_1_c.before args0 about1 = true := by decide +kernel
set_option maxRecDepth 65536 in
theorem w_case : (Jvm.Cond.and given_1 narrow_1).before args0 about1 = true := by decide +kernel
set_option maxRecDepth 65536 in
theorem w_consts : constsHeld consts_1 about1 := Jvm.Lit.constsHeldB_iff.mp (by decide +kernel)
theorem w_applies : (headSpec (Jvm.Cond.code x code maxLocals ret :: tables_1) room_1).applies x e0.platform about1 = true :=
  (Spec.applies_iff w_frames).mpr ⟨w_running, w_runnable, w_alone, w_named, w_hears, w_ripe, w_room, w_tables⟩
theorem atStart : AtStart classFile x code maxLocals ret World_1 tables_1 room_1 Calls_1 rest_1 Pre_1 launch0 p0 e0 about1 theMethod args0 below0 :=
  ⟨lists_1, trivial, launch0.admits_env _ _ _, launch0.least_env, fairChoices_fair.cas, fairChoices_fair.clock, w_frames, w_args, w_heap, w_applies, ⟨w_consts, trivial⟩, w_rest, w_case⟩
end start1
theorem witness_1 : WitnessClaimed_1 := ⟨start1.p0, start1.e0, start1.about1, start1.theMethod, start1.args0, start1.below0, start1.atStart⟩
end Jvm.Pilot.@@N@@
