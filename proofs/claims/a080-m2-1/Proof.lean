import JvmDerived
import JvmDerived.Pilot.@@N@@Statement
import JvmDerived.Pilot.@@N@@Code
set_option linter.unusedVariables false
set_option linter.unusedSimpArgs false
/- laws to paste: Road.backV (cut by pick.py; bodies as the Statement names them) -/
namespace Jvm.Pilot.@@N@@
namespace StrChars
open Jvm Sem ClassFile Op Lib Jvm.Stand Jvm.Free.XT Jvm.Free.ALB Jvm.Free.JM Jvm.Free
open Jvm.Lib.Cold (StaticIs)
/-- a char array whose places are chars -/
def Ch (a : Addr) (A : Cell) (U : State) : Prop := Arr .char a A U ∧ Typed .char A
theorem Ch.mv {a : Addr} {A : Cell} {U U' : State} (h : Ch a A U) (hal : U.vm.Alike U'.vm) (hh : U'.heap = U.heap) : Ch a A U' := ⟨h.1.mv hal hh, h.2⟩
theorem Ch.keep {a : Addr} {A : Cell} {U U' : State} (h : Ch a A U) (hal : U.vm.Alike U'.vm) (hk : U'.heap[a]? = some A) : Ch a A U' := ⟨h.1.keep hal hk, h.2⟩
/-- what place i of a char[]'s cell holds -/
def cv (A : Cell) (i : Nat) : Int32 := match A.slots[i]? with | some (.int x) => x | _ => 0
theorem Ch.get {a : Addr} {A : Cell} {U : State} (h : Ch a A U) {i : Nat} (hi : i < A.slots.size) : A.slots[i]? = some (.int (cv A i)) := by
  have e := Array.getElem?_eq_getElem hi
  have f := h.2 i _ e
  unfold cv; rw [e]
  generalize A.slots[i] = v at f
  cases v <;> simp [fits] at f ⊢
/-- the byte that i2b leaves of a char -/
def lo8 (x : Int32) : Int32 := x.toInt8.toInt32
theorem fits_lo8 (y : Int32) : fits .byte (.int (lo8 y)) = true := by
  have h1 := y.toInt8.le_toInt
  have h2 := y.toInt8.toInt_lt
  simp only [lo8, fits, Bool.and_eq_true, decide_eq_true_eq, Int32.le_iff_toInt_le, Int8.toInt_toInt32, show (-128 : Int32).toInt = -128 from by decide, show (127 : Int32).toInt = 127 from by decide]
  omega
/-- A' is A but that each place j of lo .. hi - 1 holds f j -/
def Laid (A A' : Cell) (lo hi : Nat) (f : Nat → Value) : Prop := A'.cls = A.cls ∧ A'.vm = A.vm ∧ A'.slots.size = A.slots.size ∧ ∀ i, A'.slots[i]? = if lo ≤ i ∧ i < hi then some (f i) else A.slots[i]?
theorem Laid.zero (A : Cell) (lo : Nat) (f : Nat → Value) : Laid A A lo (lo + 0) f := ⟨rfl, rfl, rfl, fun i => by rw [if_neg (by omega)]⟩
theorem Laid.step {A Ak : Cell} {lo k : Nat} {f : Nat → Value} {v : Value} (h : Laid A Ak lo k f) (hlo : lo ≤ k) (hk : k < Ak.slots.size) (hv : v = f k) : Laid A (Ak.setSlot k v) lo (k + 1) f := by
  refine ⟨h.1, h.2.1, by simpa [Cell.setSlot] using h.2.2.1, fun i => ?_⟩
  by_cases e : k = i
  · subst e; rw [Cell.slots_setSlot_self v hk, if_pos (by omega), hv]
  · rw [Cell.slots_setSlot_ne v e, h.2.2.2 i]
    by_cases q : lo ≤ i ∧ i < k
    · rw [if_pos q, if_pos (by omega)]
    · rw [if_neg q, if_neg (by omega)]
def U16 : String := "java/lang/StringUTF16"
namespace Cmp5
def yN : MethodName := ⟨"java/lang/StringUTF16", "compress", "([CI[BII)I"⟩
abbrev yB : ByteArray := jdk_52_method_21_code
theorem d0 : decode yB 0 = .ok (.iconst 0, 1) := by decide +kernel
theorem d1 : decode yB 1 = .ok (.istore 5, 2) := by decide +kernel
theorem d3 : decode yB 3 = .ok (.iload 5, 2) := by decide +kernel
theorem d5 : decode yB 5 = .ok (.iload 4, 2) := by decide +kernel
theorem d7 : decode yB 7 = .ok (.if_icmp (.ge) 37, 3) := by decide +kernel
theorem d10 : decode yB 10 = .ok (.aload_n 0, 1) := by decide +kernel
theorem d11 : decode yB 11 = .ok (.iload_n 1, 1) := by decide +kernel
theorem d12 : decode yB 12 = .ok (.caload, 1) := by decide +kernel
theorem d13 : decode yB 13 = .ok (.istore 6, 2) := by decide +kernel
theorem d15 : decode yB 15 = .ok (.iload 6, 2) := by decide +kernel
theorem d17 : decode yB 17 = .ok (.sipush 255, 3) := by decide +kernel
theorem d20 : decode yB 20 = .ok (.if_icmp (.le) 6, 3) := by decide +kernel
theorem d26 : decode yB 26 = .ok (.aload_n 2, 1) := by decide +kernel
theorem d27 : decode yB 27 = .ok (.iload_n 3, 1) := by decide +kernel
theorem d28 : decode yB 28 = .ok (.iload 6, 2) := by decide +kernel
theorem d30 : decode yB 30 = .ok (.i2b, 1) := by decide +kernel
theorem d31 : decode yB 31 = .ok (.bastore, 1) := by decide +kernel
theorem d32 : decode yB 32 = .ok (.iinc 1 1, 3) := by decide +kernel
theorem d35 : decode yB 35 = .ok (.iinc 3 1, 3) := by decide +kernel
theorem d38 : decode yB 38 = .ok (.iinc 5 1, 3) := by decide +kernel
theorem d41 : decode yB 41 = .ok (.goto (-38), 3) := by decide +kernel
theorem d44 : decode yB 44 = .ok (.iload 4, 2) := by decide +kernel
theorem d46 : decode yB 46 = .ok (.ireturn, 1) := by decide +kernel
def site : List Cond := []
def tab : Cond := tabOf yN yB 7 (some .int) site
def P (b : Addr) (A : Cell) (d : Addr) (B : Cell) (o q len : Nat) (args : Array Value) (s : State) : Prop := args = #[.ref b, .int (Int32.ofNat o), .ref d, .int (Int32.ofNat q), .int (Int32.ofNat len)] ∧ Ch b A s ∧ Arr .byte d B s ∧ b ≠ d ∧ o + len ≤ A.slots.size ∧ q + len ≤ B.slots.size ∧ ∀ i, i < len → ¬ 255 < cv A (o + i)
def E (b : Addr) (A : Cell) (d : Addr) (B : Cell) (o q len : Nat) (r : Option Value) (s u : State) : Prop := r = some (.int (Int32.ofNat len)) ∧ ∃ B', Put d B' s u ∧ Laid B B' q (q + len) (fun j => Value.int (lo8 (cv A (o + (j - q)))))
/-- no char of the range above 255: len; the places written hold each char's low byte -/
theorem law (l : Launch) (b : Addr) (A : Cell) (d : Addr) (B : Cell) (o q len : Nat) : Law l yN 5 5 0 0 yB 7 (some .int) site (P b A d B o q len) (E b A d B o q len) (copyLocs d q len) 0 0 := by
  refine Law.of_walk (plainFor_of_name (by decide +kernel)) (by decide +kernel) (by decide +kernel) (by decide) (fun _ _ h => by rw [h.1]; rfl) (fun _ U U' hal hh h => ⟨h.1, h.2.1.mv hal hh, h.2.2.1.mv hal hh, h.2.2.2⟩) (fun r U U' V V' h1 hal h2 h => ⟨h.1, h.2.elim fun B' q => ⟨B', q.1.mv h1 h2, q.2⟩⟩) ?_
  intro p e s m args below meth c s₁ X0 hexec hbytes hml hret hlk hnm hown hh0 W hP
  obtain ⟨rfl, hA, hB, hne, l1, l2, hp⟩ := hP
  have c1 : Steps p.tables e below (s₁.setTop (entryFrame m #[.ref b, .int (Int32.ofNat o), .ref d, .int (Int32.ofNat q), .int (Int32.ofNat len)] 7)) (s₁.setTop (mkF m 0 #[.val (.ref b), .val (.int (Int32.ofNat o)), .val (.ref d), .val (.int (Int32.ofNat q)), .val (.int (Int32.ofNat len)), .unset, .unset] [])) := entry rfl
  have hA0 := hA.1.mv X0.warmed.alike hh0
  have hB0 := hB.mv X0.warmed.alike hh0
  have a31 := hA.1.2.2.2
  have c2 : Steps p.tables e below (s₁.setTop (entryFrame m #[.ref b, .int (Int32.ofNat o), .ref d, .int (Int32.ofNat q), .int (Int32.ofNat len)] 7)) (s₁.setTop (mkF m 3 #[.val (.ref b), .val (.int (Int32.ofNat o)), .val (.ref d), .val (.int (Int32.ofNat q)), .val (.int (Int32.ofNat len)), .val (.int 0), .unset] [])) := c1.trans (by
    refine iconstV X0.here hexec rfl 0 (hb hbytes d0) (by decide) ?_
    refine XS.istore X0.here hexec rfl (hb hbytes d1) rfl rfl ?_
    exact Steps.refl _)
  have loop : ∀ (r i : Nat), i + r = len → ∀ (z : Slot), (z = .unset ∨ ∃ w, z = .val w ∧ w.category = 1) → ∀ (Tl : State) (Bk : Cell), Stand p l e { frames := 0, locals := 0, cells := 0, slots := 0 } s m #[.ref b, .int (Int32.ofNat o), .ref d, .int (Int32.ofNat q), .int (Int32.ofNat len)] below meth c Tl ([] ++ copyLocs d q i) 0 0 → Put d Bk s₁ Tl → Laid B Bk q (q + i) (fun j => Value.int (lo8 (cv A (o + (j - q))))) →
      Steps p.tables e below (s₁.setTop (entryFrame m #[.ref b, .int (Int32.ofNat o), .ref d, .int (Int32.ofNat q), .int (Int32.ofNat len)] 7)) (Tl.setTop (mkF m 3 #[.val (.ref b), .val (.int (Int32.ofNat (o + i))), .val (.ref d), .val (.int (Int32.ofNat (q + i))), .val (.int (Int32.ofNat len)), .val (.int (Int32.ofNat i)), z] [])) → ∃ (T' : State) (B' : Cell) (z' : Slot), Stand p l e { frames := 0, locals := 0, cells := 0, slots := 0 } s m #[.ref b, .int (Int32.ofNat o), .ref d, .int (Int32.ofNat q), .int (Int32.ofNat len)] below meth c T' ([] ++ copyLocs d q len) 0 0 ∧ Put d B' s₁ T' ∧ Laid B B' q (q + len) (fun j => Value.int (lo8 (cv A (o + (j - q))))) ∧
      Steps p.tables e below (s₁.setTop (entryFrame m #[.ref b, .int (Int32.ofNat o), .ref d, .int (Int32.ofNat q), .int (Int32.ofNat len)] 7)) (T'.setTop (mkF m 3 #[.val (.ref b), .val (.int (Int32.ofNat (o + len))), .val (.ref d), .val (.int (Int32.ofNat (q + len))), .val (.int (Int32.ofNat len)), .val (.int (Int32.ofNat len)), z'] [])) := by
    intro r
    induction r with
    | zero =>
      intro i hi z hz Tl Bk Xl pl fl cl
      have hil : i = len := by omega
      rw [hil] at Xl fl cl
      exact ⟨Tl, Bk, z, Xl, pl, fl, cl⟩
    | succ r ih =>
      intro i hi z hz Tl Bk Xl pl fl cl
      have all := X0.warmed.alike.symm.trans Xl.warmed.alike
      have hAl := hA0.keep all (pl.other hne hA0.1)
      have hBk := hB0.like all pl.1 fl.1 fl.2.1 fl.2.2.1
      have hlt : q + i < Bk.slots.size := by rw [fl.2.2.1]; omega
      have c3 : Steps p.tables e below (s₁.setTop (entryFrame m #[.ref b, .int (Int32.ofNat o), .ref d, .int (Int32.ofNat q), .int (Int32.ofNat len)] 7)) (Tl.setTop (mkF m 12 #[.val (.ref b), .val (.int (Int32.ofNat (o + i))), .val (.ref d), .val (.int (Int32.ofNat (q + i))), .val (.int (Int32.ofNat len)), .val (.int (Int32.ofNat i)), z] [.int (Int32.ofNat (o + i)), .ref b])) := cl.trans (by
        refine XS.iload Xl.here hexec rfl (hb hbytes d3) rfl ?_
        refine XS.iload Xl.here hexec rfl (hb hbytes d5) rfl ?_
        refine XS.icmpNo Xl.here hexec rfl (hb hbytes d7) rfl (ii_ge_f (lt32 (by omega) (by omega))) ?_
        refine XS.aloadN Xl.here hexec rfl (hb hbytes d10) rfl rfl ?_
        refine XS.iloadN Xl.here hexec rfl (hb hbytes d11) rfl ?_
        exact Steps.refl _)
      have c4 : Steps p.tables e below (s₁.setTop (entryFrame m #[.ref b, .int (Int32.ofNat o), .ref d, .int (Int32.ofNat q), .int (Int32.ofNat len)] 7)) (Tl.setTop (mkF m 13 #[.val (.ref b), .val (.int (Int32.ofNat (o + i))), .val (.ref d), .val (.int (Int32.ofNat (q + i))), .val (.int (Int32.ofNat len)), .val (.int (Int32.ofNat i)), z] [.int (cv A (o + i))])) := c3.trans (by
        refine Xl.aget hexec hAl rfl (hA.get (i := o + i) (by omega)) rfl rfl (hb hbytes d12) ?_
        exact Steps.refl _)
      have c5 : Steps p.tables e below (s₁.setTop (entryFrame m #[.ref b, .int (Int32.ofNat o), .ref d, .int (Int32.ofNat q), .int (Int32.ofNat len)] 7)) (Tl.setTop (mkF m 15 #[.val (.ref b), .val (.int (Int32.ofNat (o + i))), .val (.ref d), .val (.int (Int32.ofNat (q + i))), .val (.int (Int32.ofNat len)), .val (.int (Int32.ofNat i)), .val (.int (cv A (o + i)))] [])) := c4.trans (by
        refine XS.istoreS Xl.here hexec rfl (hb hbytes d13) rfl rfl hz ?_
        exact Steps.refl _)
      have c6 : Steps p.tables e below (s₁.setTop (entryFrame m #[.ref b, .int (Int32.ofNat o), .ref d, .int (Int32.ofNat q), .int (Int32.ofNat len)] 7)) (Tl.setTop (mkF m 31 #[.val (.ref b), .val (.int (Int32.ofNat (o + i))), .val (.ref d), .val (.int (Int32.ofNat (q + i))), .val (.int (Int32.ofNat len)), .val (.int (Int32.ofNat i)), .val (.int (cv A (o + i)))] [.int (lo8 (cv A (o + i))), .int (Int32.ofNat (q + i)), .ref d])) := c5.trans (by
        refine XS.iload Xl.here hexec rfl (hb hbytes d15) rfl ?_
        refine sipushV Xl.here hexec rfl 255 (hb hbytes d17) (by decide) ?_
        refine XS.icmpYes Xl.here hexec rfl (pc0 := 20) rfl (hb hbytes d20) rfl (ii_le_t (hp i (by omega))) (by decide) rfl ?_
        refine XS.aloadN Xl.here hexec rfl (hb hbytes d26) rfl rfl ?_
        refine XS.iloadN Xl.here hexec rfl (hb hbytes d27) rfl ?_
        refine XS.iload Xl.here hexec rfl (hb hbytes d28) rfl ?_
        refine i2b Xl.here hexec rfl (hb hbytes d30) rfl ?_
        exact Steps.refl _)
      obtain ⟨T7, X7, p7, st7⟩ := Xl.aput hexec hBk rfl hlt rfl (fits_lo8 (cv A (o + i))) (g := (mkF m 31 #[.val (.ref b), .val (.int (Int32.ofNat (o + i))), .val (.ref d), .val (.int (Int32.ofNat (q + i))), .val (.int (Int32.ofNat len)), .val (.int (Int32.ofNat i)), .val (.int (cv A (o + i)))] [.int (lo8 (cv A (o + i))), .int (Int32.ofNat (q + i)), .ref d])) rfl (rest := []) rfl (hb hbytes d31)
      have c8 : Steps p.tables e below (s₁.setTop (entryFrame m #[.ref b, .int (Int32.ofNat o), .ref d, .int (Int32.ofNat q), .int (Int32.ofNat len)] 7)) (T7.setTop (mkF m 32 #[.val (.ref b), .val (.int (Int32.ofNat (o + i))), .val (.ref d), .val (.int (Int32.ofNat (q + i))), .val (.int (Int32.ofNat len)), .val (.int (Int32.ofNat i)), .val (.int (cv A (o + i)))] [])) := c6.trans (st7 _ (Steps.refl _))
      have c9 : Steps p.tables e below (s₁.setTop (entryFrame m #[.ref b, .int (Int32.ofNat o), .ref d, .int (Int32.ofNat q), .int (Int32.ofNat len)] 7)) (T7.setTop (mkF m 3 #[.val (.ref b), .val (.int (Int32.ofNat (o + i) + 1)), .val (.ref d), .val (.int (Int32.ofNat (q + i) + 1)), .val (.int (Int32.ofNat len)), .val (.int (Int32.ofNat i + 1)), .val (.int (cv A (o + i)))] [])) := c8.trans (by
        refine iincV X7.here hexec rfl 1 (hb hbytes d32) (by decide) rfl rfl ?_
        refine iincV X7.here hexec rfl 1 (hb hbytes d35) (by decide) rfl rfl ?_
        refine iincV X7.here hexec rfl 1 (hb hbytes d38) (by decide) rfl rfl ?_
        refine XS.goto X7.here hexec rfl (pc0 := 41) rfl (hb hbytes d41) (by decide) rfl ?_
        exact Steps.refl _)
      have c10 : Steps p.tables e below (s₁.setTop (entryFrame m #[.ref b, .int (Int32.ofNat o), .ref d, .int (Int32.ofNat q), .int (Int32.ofNat len)] 7)) (T7.setTop (mkF m 3 #[.val (.ref b), .val (.int (Int32.ofNat (o + (i + 1)))), .val (.ref d), .val (.int (Int32.ofNat (q + (i + 1)))), .val (.int (Int32.ofNat len)), .val (.int (Int32.ofNat (i + 1))), .val (.int (cv A (o + i)))] [])) := by
        have := c9
        rw [succ32, succ32, succ32] at this
        exact this
      exact ih (i + 1) (by omega) _ (Or.inr ⟨_, rfl, rfl⟩) T7 _ (by rw [copyLocs_step, ← List.append_assoc]; exact X7) (pl.trans p7) (fl.step (by omega) hlt (by simp)) c10
  obtain ⟨T9, B9, z9, X9, p9, f9, g9⟩ := loop len 0 (by omega) .unset (Or.inl rfl) s₁ B (by simpa [copyLocs] using X0) ⟨hB0.1, fun _ _ => rfl, rfl⟩ (Laid.zero _ _ _) c2
  have c11 : Steps p.tables e below (s₁.setTop (entryFrame m #[.ref b, .int (Int32.ofNat o), .ref d, .int (Int32.ofNat q), .int (Int32.ofNat len)] 7)) (T9.setTop (mkF m 46 #[.val (.ref b), .val (.int (Int32.ofNat (o + len))), .val (.ref d), .val (.int (Int32.ofNat (q + len))), .val (.int (Int32.ofNat len)), .val (.int (Int32.ofNat len)), z9] [.int (Int32.ofNat len)])) := g9.trans (by
    refine XS.iload X9.here hexec rfl (hb hbytes d3) rfl ?_
    refine XS.iload X9.here hexec rfl (hb hbytes d5) rfl ?_
    refine XS.icmpYes X9.here hexec rfl (pc0 := 7) rfl (hb hbytes d7) rfl (ii_ge_t (nlt32 (by omega) (Nat.le_refl _))) (by decide) rfl ?_
    refine XS.iload X9.here hexec rfl (hb hbytes d44) rfl ?_
    exact Steps.refl _)
  exact ⟨T9, some (.int (Int32.ofNat len)), _, _, _, X9, by simp, rfl, rfl, (fun h => by cases h), ⟨rfl, B9, p9.from hh0, f9⟩, fun fs hl => c11.trans (X9.ireturnOut hexec hret rfl (Or.inl rfl) (hb hbytes d46) hl)⟩
end Cmp5
namespace Cmp3
def yN : MethodName := ⟨"java/lang/StringUTF16", "compress", "([CII)[B"⟩
abbrev yB : ByteArray := jdk_52_method_16_code
theorem d0 : decode yB 0 = .ok (.iload_n 2, 1) := by decide +kernel
theorem d1 : decode yB 1 = .ok (.newarray .byte, 2) := by decide +kernel
theorem d3 : decode yB 3 = .ok (.astore_n 3, 1) := by decide +kernel
theorem d4 : decode yB 4 = .ok (.aload_n 0, 1) := by decide +kernel
theorem d5 : decode yB 5 = .ok (.iload_n 1, 1) := by decide +kernel
theorem d6 : decode yB 6 = .ok (.aload_n 3, 1) := by decide +kernel
theorem d7 : decode yB 7 = .ok (.iconst 0, 1) := by decide +kernel
theorem d8 : decode yB 8 = .ok (.iload_n 2, 1) := by decide +kernel
theorem d9 : decode yB 9 = .ok (.invokestatic 115, 3) := by decide +kernel
theorem d12 : decode yB 12 = .ok (.istore 4, 2) := by decide +kernel
theorem d14 : decode yB 14 = .ok (.iload 4, 2) := by decide +kernel
theorem d16 : decode yB 16 = .ok (.iload_n 2, 1) := by decide +kernel
theorem d17 : decode yB 17 = .ok (.if_icmp (.eq) 40, 3) := by decide +kernel
theorem d57 : decode yB 57 = .ok (.aload_n 3, 1) := by decide +kernel
theorem d58 : decode yB 58 = .ok (.areturn, 1) := by decide +kernel
def site : List Cond := [.arrayClass .byte, Cmp5.tab] ++ staticW U16 115 Cmp5.yN
def tab : Cond := tabOf yN yB 6 (some (.array .byte)) site
def P (b : Addr) (A : Cell) (o len : Nat) (args : Array Value) (s : State) : Prop := args = #[.ref b, .int (Int32.ofNat o), .int (Int32.ofNat len)] ∧ Ch b A s ∧ o + len ≤ A.slots.size ∧ len ≤ 536870912 ∧ ∀ i, i < len → ¬ 255 < cv A (o + i)
def E (b : Addr) (A : Cell) (o len : Nat) (r : Option Value) (s u : State) : Prop := NewArr .byte "[B" len (fun j => .int (lo8 (cv A (o + j)))) r s u ∧ u.heap.size = s.heap.size + 1
/-- no char of the range above 255: a new byte[] of their low bytes -/
theorem law (l : Launch) (b : Addr) (A : Cell) (o len : Nat) : Law l yN 3 3 1 18 yB 6 (some (.array .byte)) site (P b A o len) (E b A o len) [] 1 len := by
  refine Law.of_walk (plainFor_of_name (by decide +kernel)) (by decide +kernel) (by decide +kernel) (by decide) (fun _ _ h => by rw [h.1]; rfl) (fun _ U U' hal hh h => ⟨h.1, h.2.1.mv hal hh, h.2.2⟩) (fun r U U' V V' h1 hal h2 h => ⟨NewArr.mv r U U' V V' h1 hal h2 h.1, by rw [h1, h2]; exact h.2⟩) ?_
  intro p e s m args below meth c s₁ X0 hexec hbytes hml hret hlk hnm hown hh0 W hP
  obtain ⟨rfl, hA, l1, l2, hp⟩ := hP
  have a31 := hA.1.2.2.2
  have c1 : Steps p.tables e below (s₁.setTop (entryFrame m #[.ref b, .int (Int32.ofNat o), .int (Int32.ofNat len)] 6)) (s₁.setTop (mkF m 0 #[.val (.ref b), .val (.int (Int32.ofNat o)), .val (.int (Int32.ofNat len)), .unset, .unset, .unset] [])) := entry rfl
  have c2 : Steps p.tables e below (s₁.setTop (entryFrame m #[.ref b, .int (Int32.ofNat o), .int (Int32.ofNat len)] 6)) (s₁.setTop (mkF m 1 #[.val (.ref b), .val (.int (Int32.ofNat o)), .val (.int (Int32.ofNat len)), .unset, .unset, .unset] [.int (Int32.ofNat len)])) := c1.trans (by
    refine XS.iloadN X0.here hexec rfl (hb hbytes d0) rfl ?_
    exact Steps.refl _)
  obtain ⟨T3, B3, X3, ba3, bs3, bv3, bh3, bf3, st3⟩ := X0.anew hexec (atype := .byte) (wk W (.arrayClass .byte)) rfl (by show len * 1 ≤ _; omega) (by omega) (g := (mkF m 1 #[.val (.ref b), .val (.int (Int32.ofNat o)), .val (.int (Int32.ofNat len)), .unset, .unset, .unset] [.int (Int32.ofNat len)])) rfl (hb hbytes d1) (rest := []) rfl (Nat.le_refl _) (by show 0 + len ≤ len; omega)
  rw [hh0] at ba3 st3
  have kp3 : XT.Kept s T3 := (XT.Kept.of_eq hh0).push bh3
  have hA3 := hA.keep X3.warmed.alike (kp3 _ _ hA.1.1)
  have hne : b ≠ s.heap.size := hA.1.ne
  have c4 : Steps p.tables e below (s₁.setTop (entryFrame m #[.ref b, .int (Int32.ofNat o), .int (Int32.ofNat len)] 6)) (T3.setTop (mkF m 3 #[.val (.ref b), .val (.int (Int32.ofNat o)), .val (.int (Int32.ofNat len)), .unset, .unset, .unset] [.ref s.heap.size])) := c2.trans (st3 _ (Steps.refl _))
  have c5 : Steps p.tables e below (s₁.setTop (entryFrame m #[.ref b, .int (Int32.ofNat o), .int (Int32.ofNat len)] 6)) (T3.setTop (mkF m 9 #[.val (.ref b), .val (.int (Int32.ofNat o)), .val (.int (Int32.ofNat len)), .val (.ref s.heap.size), .unset, .unset] [.int (Int32.ofNat len), .int 0, .ref s.heap.size, .int (Int32.ofNat o), .ref b])) := c4.trans (by
    refine XS.astoreN X3.here hexec rfl (hb hbytes d3) rfl rfl rfl ?_
    refine XS.aloadN X3.here hexec rfl (hb hbytes d4) rfl rfl ?_
    refine XS.iloadN X3.here hexec rfl (hb hbytes d5) rfl ?_
    refine XS.aloadN X3.here hexec rfl (hb hbytes d6) rfl rfl ?_
    refine iconstV X3.here hexec rfl 0 (hb hbytes d7) (by decide) ?_
    refine XS.iloadN X3.here hexec rfl (hb hbytes d8) rfl ?_
    exact Steps.refl _)
  obtain ⟨v6, T6, X6, E6, g6⟩ := X3.callS hexec (Cmp5.law l b A s.heap.size B3 o 0 len) hown (wks W (staticW U16 115 Cmp5.yN)) (wk W Cmp5.tab) (W := 0) (Nat.le_of_ble_eq_true rfl) (Nat.le_of_ble_eq_true rfl) (Nat.le_refl _) (by show 0 + len + 0 ≤ len; omega) (g := (mkF m 9 #[.val (.ref b), .val (.int (Int32.ofNat o)), .val (.int (Int32.ofNat len)), .val (.ref s.heap.size), .unset, .unset] [.int (Int32.ofNat len), .int (Int32.ofNat 0), .ref s.heap.size, .int (Int32.ofNat o), .ref b])) rfl (by rw [hml]; rfl) c5 (argsL := [.ref b, .int (Int32.ofNat o), .ref s.heap.size, .int (Int32.ofNat 0), .int (Int32.ofNat len)]) (rest := []) rfl rfl (by show 2 * 0 + 0 ≤ _; decide) (hb hbytes d9) (⟨rfl, hA3, ba3, hne, l1, by rw [bs3]; simp, hp⟩)
  obtain ⟨rfl, B6, p6, f6⟩ := E6
  have c7 : Steps p.tables e below (s₁.setTop (entryFrame m #[.ref b, .int (Int32.ofNat o), .int (Int32.ofNat len)] 6)) (T6.setTop (mkF m 12 #[.val (.ref b), .val (.int (Int32.ofNat o)), .val (.int (Int32.ofNat len)), .val (.ref s.heap.size), .unset, .unset] [.int (Int32.ofNat len)])) := g6
  have c8 : Steps p.tables e below (s₁.setTop (entryFrame m #[.ref b, .int (Int32.ofNat o), .int (Int32.ofNat len)] 6)) (T6.setTop (mkF m 58 #[.val (.ref b), .val (.int (Int32.ofNat o)), .val (.int (Int32.ofNat len)), .val (.ref s.heap.size), .val (.int (Int32.ofNat len)), .unset] [.ref s.heap.size])) := c7.trans (by
    refine XS.istore X6.here hexec rfl (hb hbytes d12) rfl rfl ?_
    refine XS.iload X6.here hexec rfl (hb hbytes d14) rfl ?_
    refine XS.iloadN X6.here hexec rfl (hb hbytes d16) rfl ?_
    refine XS.icmpYes X6.here hexec rfl (pc0 := 17) rfl (hb hbytes d17) rfl (ii_eq_t rfl) (by decide) rfl ?_
    refine XS.aloadN X6.here hexec rfl (hb hbytes d57) rfl rfl ?_
    exact Steps.refl _)
  have X8 := X6.wide (L' := []) (cells' := 1) (slots' := len) (fun x hx hlt => by
    simp only [List.nil_append, copyLocs, List.mem_map, List.mem_range] at hx
    obtain ⟨i, -, rfl⟩ := hx
    exact absurd hlt (Nat.lt_irrefl _)) (Nat.le_refl _) (by omega)
  exact ⟨T6, some (.ref s.heap.size), _, _, _, X8, rfl, rfl, rfl, (fun h => by cases h), ⟨⟨rfl, B6, ba3.like (X3.warmed.alike.symm.trans X6.warmed.alike) p6.1 f6.1 f6.2.1 f6.2.2.1, f6.2.1.trans bv3, by rw [X6.warmed.alike.findClass, f6.1]; exact bf3, by rw [f6.2.2.1, bs3]; simp, fun j hj => by rw [f6.2.2.2 j, if_pos (by omega)]; rfl, kp3.put p6 (Nat.le_refl _)⟩, by rw [p6.2.2, bh3, hh0]; simp⟩, fun fs hl => c8.trans (X8.areturnOut hexec rfl hret rfl (hb hbytes d58) hl)⟩
end Cmp3
namespace CodL
def yN : MethodName := ⟨"java/lang/StringUTF16", "coderFromArrayLen", "([BI)B"⟩
abbrev yB : ByteArray := jdk_52_method_15_code
theorem d0 : decode yB 0 = .ok (.iload_n 1, 1) := by decide +kernel
theorem d1 : decode yB 1 = .ok (.aload_n 0, 1) := by decide +kernel
theorem d2 : decode yB 2 = .ok (.arraylength, 1) := by decide +kernel
theorem d3 : decode yB 3 = .ok (.isub, 1) := by decide +kernel
theorem d4 : decode yB 4 = .ok (.bipush 31, 2) := by decide +kernel
theorem d6 : decode yB 6 = .ok (.iushr, 1) := by decide +kernel
theorem d7 : decode yB 7 = .ok (.i2b, 1) := by decide +kernel
theorem d8 : decode yB 8 = .ok (.ireturn, 1) := by decide +kernel
def site : List Cond := []
def tab : Cond := tabOf yN yB 2 (some .byte) site
def P (d : Addr) (B : Cell) (args : Array Value) (s : State) : Prop := args = #[.ref d, .int (Int32.ofNat B.slots.size)] ∧ Arr .byte d B s
def E (r : Option Value) (s u : State) : Prop := XT.PureE (some (.int 0)) r s u
/-- an array as long as the number of chars: LATIN1 -/
theorem law (l : Launch) (d : Addr) (B : Cell) : Law l yN 2 2 0 0 yB 2 (some .byte) site (P d B) E [] 0 0 := by
  refine Law.of_walk (plainFor_of_name (by decide +kernel)) (by decide +kernel) (by decide +kernel) (by decide) (fun _ _ h => by rw [h.1]; rfl) (fun _ U U' hal hh h => ⟨h.1, h.2.mv hal hh⟩) (fun r U U' V V' h1 hal h2 h => XT.PureE.mv r U U' V V' h1 hal h2 h) ?_
  intro p e s m args below meth c s₁ X0 hexec hbytes hml hret hlk hnm hown hh0 W hP
  obtain ⟨rfl, hB⟩ := hP
  have hB0 := hB.mv X0.warmed.alike hh0
  have c1 : Steps p.tables e below (s₁.setTop (entryFrame m #[.ref d, .int (Int32.ofNat B.slots.size)] 2)) (s₁.setTop (mkF m 0 #[.val (.ref d), .val (.int (Int32.ofNat B.slots.size))] [])) := entry rfl
  have c2 : Steps p.tables e below (s₁.setTop (entryFrame m #[.ref d, .int (Int32.ofNat B.slots.size)] 2)) (s₁.setTop (mkF m 2 #[.val (.ref d), .val (.int (Int32.ofNat B.slots.size))] [.ref d, .int (Int32.ofNat B.slots.size)])) := c1.trans (by
    refine XS.iloadN X0.here hexec rfl (hb hbytes d0) rfl ?_
    refine XS.aloadN X0.here hexec rfl (hb hbytes d1) rfl rfl ?_
    exact Steps.refl _)
  have c3 : Steps p.tables e below (s₁.setTop (entryFrame m #[.ref d, .int (Int32.ofNat B.slots.size)] 2)) (s₁.setTop (mkF m 8 #[.val (.ref d), .val (.int (Int32.ofNat B.slots.size))] [.int (lo8 (ushr (Int32.ofNat B.slots.size - Int32.ofNat B.slots.size) 31))])) := c2.trans (by
    refine X0.alen hexec hB0 rfl rfl (hb hbytes d2) ?_
    refine XS.isub X0.here hexec rfl (hb hbytes d3) rfl ?_
    refine bipushV X0.here hexec rfl 31 (hb hbytes d4) (by decide) ?_
    refine iushr X0.here hexec rfl (hb hbytes d6) rfl ?_
    refine i2b X0.here hexec rfl (hb hbytes d7) rfl ?_
    exact Steps.refl _)
  have e0 : lo8 (ushr (Int32.ofNat B.slots.size - Int32.ofNat B.slots.size) 31) = 0 := by rw [Int32.sub_self]; decide
  rw [e0] at c3
  exact ⟨s₁, some (.int 0), _, _, _, X0, rfl, rfl, rfl, (fun h => by cases h), ⟨rfl, hh0⟩, fun fs hl => c3.trans (X0.ireturnOut hexec hret rfl (Or.inr (Or.inr (Or.inl rfl))) (hb hbytes d8) hl)⟩
end CodL
/-- the String at a is Latin-1 over a new byte[] (the heap's one new cell): the low bytes of the len chars of A from o on; every cell but a is kept -/
def Got (a : Addr) (D : Cell) (fV fC : Field) (A : Cell) (o len : Nat) (r : Option Value) (s u : State) : Prop := r = none ∧ ∃ D' V : Cell, Blank "java/lang/String" a D' u ∧ Same D D' [fV.slot, fC.slot] ∧ D'.slots[fV.slot]? = some (.ref s.heap.size) ∧ D'.slots[fC.slot]? = some (.int 0) ∧ Arr .byte s.heap.size V u ∧ V.vm = .none ∧ u.vm.findClass "[B" = some V.cls ∧ V.slots.size = len ∧ (∀ j, j < len → V.slots[j]? = some (.int (lo8 (cv A (o + j))))) ∧ (∀ (y : Addr) (c : Cell), y ≠ a → s.heap[y]? = some c → u.heap[y]? = some c) ∧ u.heap.size = s.heap.size + 1
theorem Got.mv {a : Addr} {D A : Cell} {fV fC : Field} {o len : Nat} : ∀ r (U U' V V' : State), U'.heap = U.heap → V.vm.Alike V'.vm → V'.heap = V.heap → Got a D fV fC A o len r U V → Got a D fV fC A o len r U' V' :=
  fun r U U' V V' h1 hal h2 ⟨e0, D', X, a1, a2, a3, a4, a5, a6, a7, a8, a9, a10, a11⟩ => ⟨e0, D', X, a1.mv hal h2, a2, by rw [h1]; exact a3, a4, by rw [h1]; exact a5.mv hal h2, a6, by rw [hal.findClass]; exact a7, a8, a9, by rw [h1, h2]; exact a10, by rw [h1, h2]; exact a11⟩
namespace New4
def yN : MethodName := ⟨"java/lang/String", "<init>", "([CIILjava/lang/Void;)V"⟩
abbrev yB : ByteArray := jdk_42_method_149_code
theorem d0 : decode yB 0 = .ok (.aload_n 0, 1) := by decide +kernel
theorem d1 : decode yB 1 = .ok (.invokespecial 1, 3) := by decide +kernel
theorem d4 : decode yB 4 = .ok (.iload_n 3, 1) := by decide +kernel
theorem d5 : decode yB 5 = .ok (.ifCond (.ne) 22, 3) := by decide +kernel
theorem d27 : decode yB 27 = .ok (.getstatic 38, 3) := by decide +kernel
theorem d30 : decode yB 30 = .ok (.ifCond (.eq) 28, 3) := by decide +kernel
theorem d33 : decode yB 33 = .ok (.aload_n 1, 1) := by decide +kernel
theorem d34 : decode yB 34 = .ok (.iload_n 2, 1) := by decide +kernel
theorem d35 : decode yB 35 = .ok (.iload_n 3, 1) := by decide +kernel
theorem d36 : decode yB 36 = .ok (.invokestatic 177, 3) := by decide +kernel
theorem d39 : decode yB 39 = .ok (.astore 5, 2) := by decide +kernel
theorem d41 : decode yB 41 = .ok (.aload_n 0, 1) := by decide +kernel
theorem d42 : decode yB 42 = .ok (.aload 5, 2) := by decide +kernel
theorem d44 : decode yB 44 = .ok (.iload_n 3, 1) := by decide +kernel
theorem d45 : decode yB 45 = .ok (.invokestatic 47, 3) := by decide +kernel
theorem d48 : decode yB 48 = .ok (.putfield 15, 3) := by decide +kernel
theorem d51 : decode yB 51 = .ok (.aload_n 0, 1) := by decide +kernel
theorem d52 : decode yB 52 = .ok (.aload 5, 2) := by decide +kernel
theorem d54 : decode yB 54 = .ok (.putfield 9, 3) := by decide +kernel
theorem d57 : decode yB 57 = .ok (.return_, 1) := by decide +kernel
def site : List Cond := [.fieldLink "java/lang/String" 38 "java/lang/String" "COMPACT_STRINGS" "Z", Cmp3.tab, CodL.tab, .laysFinal "java/lang/String" "java/lang/String" "value" "[B", .fieldLink "java/lang/String" 9 "java/lang/String" "value" "[B", .laysFinal "java/lang/String" "java/lang/String" "coder" "B", .fieldLink "java/lang/String" 15 "java/lang/String" "coder" "B"] ++ objW "java/lang/String" 1 ++ staticW "java/lang/String" 177 Cmp3.yN ++ staticW "java/lang/String" 47 CodL.yN
def tab : Cond := tabOf yN yB 6 none site
def P (a : Addr) (D : Cell) (fV fC : Field) (b : Addr) (A : Cell) (z : Int32) (o len : Nat) (args : Array Value) (s : State) : Prop := args = #[.ref a, .ref b, .int (Int32.ofNat o), .int (Int32.ofNat len), .null] ∧ Blank "java/lang/String" a D s ∧ Found "java/lang/String" "value" "[B" fV s ∧ Found "java/lang/String" "coder" "B" fC s ∧ Ch b A s ∧ StaticIs s "java/lang/String" "COMPACT_STRINGS" "Z" (.int z) ∧ ¬ z = 0 ∧ 0 < len ∧ o + len ≤ A.slots.size ∧ len ≤ 536870912 ∧ ∀ i, i < len → ¬ 255 < cv A (o + i)
def E (a : Addr) (D : Cell) (fV fC : Field) (A : Cell) (o len : Nat) (r : Option Value) (s u : State) : Prop := Got a D fV fC A o len r s u
/-- len > 0, no char of the range above 255: a Latin-1 String of their low bytes -/
theorem law (l : Launch) (a : Addr) (D : Cell) (fV fC : Field) (b : Addr) (A : Cell) (z : Int32) (o len : Nat) : Law l yN 5 4 2 35 yB 6 none site (P a D fV fC b A z o len) (E a D fV fC A o len) [⟨a, fC.slot⟩, ⟨a, fV.slot⟩] 1 len := by
  refine Law.of_walk (plainFor_of_name (by decide +kernel)) (by decide +kernel) (by decide +kernel) (by decide) (fun _ _ h => by rw [h.1]; rfl) (fun _ U U' hal hh h => ⟨h.1, h.2.1.mv hal hh, h.2.2.1.al hal, h.2.2.2.1.al hal, h.2.2.2.2.1.mv hal hh, h.2.2.2.2.2.1.there hal hh, h.2.2.2.2.2.2⟩) (fun r U U' V V' h1 hal h2 h => Got.mv r U U' V V' h1 hal h2 h) ?_
  intro p e s m args below meth c s₁ X0 hexec hbytes hml hret hlk hnm hown hh0 W hP
  obtain ⟨rfl, hB, f1, f2, hA, s1, hz, l0, l1, l2, hp⟩ := hP
  have a31 := hA.1.2.2.2
  have c1 : Steps p.tables e below (s₁.setTop (entryFrame m #[.ref a, .ref b, .int (Int32.ofNat o), .int (Int32.ofNat len), .null] 6)) (s₁.setTop (mkF m 0 #[.val (.ref a), .val (.ref b), .val (.int (Int32.ofNat o)), .val (.int (Int32.ofNat len)), .val .null, .unset] [])) := entry rfl
  have c2 : Steps p.tables e below (s₁.setTop (entryFrame m #[.ref a, .ref b, .int (Int32.ofNat o), .int (Int32.ofNat len), .null] 6)) (s₁.setTop (mkF m 1 #[.val (.ref a), .val (.ref b), .val (.int (Int32.ofNat o)), .val (.int (Int32.ofNat len)), .val .null, .unset] [.ref a])) := c1.trans (by
    refine XS.aloadN X0.here hexec rfl (hb hbytes d0) rfl rfl ?_
    exact Steps.refl _)
  obtain ⟨T3, X3, q3, st3⟩ := X0.oinit hexec hown (wks W (objW "java/lang/String" 1)) (g := (mkF m 1 #[.val (.ref a), .val (.ref b), .val (.int (Int32.ofNat o)), .val (.int (Int32.ofNat len)), .val .null, .unset] [.ref a])) rfl (by rw [hml]; rfl) (rest := []) rfl (hb hbytes d1) (W := 0) (by show 2 * 0 + 0 ≤ _; decide) (Nat.le_of_ble_eq_true rfl) (Nat.le_of_ble_eq_true rfl)
  have hh3 := q3.trans hh0
  have c4 : Steps p.tables e below (s₁.setTop (entryFrame m #[.ref a, .ref b, .int (Int32.ofNat o), .int (Int32.ofNat len), .null] 6)) (T3.setTop (mkF m 27 #[.val (.ref a), .val (.ref b), .val (.int (Int32.ofNat o)), .val (.int (Int32.ofNat len)), .val .null, .unset] [])) := (c2.trans (st3 _ (Steps.refl _))).trans (by
    refine XS.iloadN X3.here hexec rfl (hb hbytes d4) rfl ?_
    refine XS.ifYes X3.here hexec rfl (pc0 := 5) rfl (hb hbytes d5) rfl (i0_ne_t (nz32 (by omega) l0)) (by decide) rfl ?_
    exact Steps.refl _)
  obtain ⟨T5, X5, q5, st5⟩ := X3.sget hexec hown (wk W (.fieldLink "java/lang/String" 38 "java/lang/String" "COMPACT_STRINGS" "Z")) s1 (fun _ _ h => by rw [hh3]; exact h) (g := (mkF m 27 #[.val (.ref a), .val (.ref b), .val (.int (Int32.ofNat o)), .val (.int (Int32.ofNat len)), .val .null, .unset] [])) rfl (hb hbytes d27)
  have hh5 := q5.trans hh3
  have c6 : Steps p.tables e below (s₁.setTop (entryFrame m #[.ref a, .ref b, .int (Int32.ofNat o), .int (Int32.ofNat len), .null] 6)) (T5.setTop (mkF m 30 #[.val (.ref a), .val (.ref b), .val (.int (Int32.ofNat o)), .val (.int (Int32.ofNat len)), .val .null, .unset] [.int z])) := c4.trans (st5 _ (Steps.refl _))
  have c7 : Steps p.tables e below (s₁.setTop (entryFrame m #[.ref a, .ref b, .int (Int32.ofNat o), .int (Int32.ofNat len), .null] 6)) (T5.setTop (mkF m 36 #[.val (.ref a), .val (.ref b), .val (.int (Int32.ofNat o)), .val (.int (Int32.ofNat len)), .val .null, .unset] [.int (Int32.ofNat len), .int (Int32.ofNat o), .ref b])) := c6.trans (by
    refine XS.ifNo X5.here hexec rfl (hb hbytes d30) rfl (i0_eq_f hz) ?_
    refine XS.aloadN X5.here hexec rfl (hb hbytes d33) rfl rfl ?_
    refine XS.iloadN X5.here hexec rfl (hb hbytes d34) rfl ?_
    refine XS.iloadN X5.here hexec rfl (hb hbytes d35) rfl ?_
    exact Steps.refl _)
  obtain ⟨v8, T8, X8, E8, g8⟩ := X5.callS hexec (Cmp3.law l b A o len) hown (wks W (staticW "java/lang/String" 177 Cmp3.yN)) (wk W Cmp3.tab) (W := 0) (Nat.le_of_ble_eq_true rfl) (Nat.le_of_ble_eq_true rfl) (Nat.le_refl _) (by show 0 + len ≤ len; omega) (g := (mkF m 36 #[.val (.ref a), .val (.ref b), .val (.int (Int32.ofNat o)), .val (.int (Int32.ofNat len)), .val .null, .unset] [.int (Int32.ofNat len), .int (Int32.ofNat o), .ref b])) rfl (by rw [hml]; rfl) c7 (argsL := [.ref b, .int (Int32.ofNat o), .int (Int32.ofNat len)]) (rest := []) rfl rfl (by show 2 * 0 + 0 ≤ _; decide) (hb hbytes d36) (⟨rfl, hA.mv X5.warmed.alike hh5, l1, l2, hp⟩)
  obtain ⟨e8, z8⟩ := E8
  obtain ⟨rfl, N, n1, n2, n3, n4, n5, n6⟩ := NewArr.mv _ T5 s _ _ hh5.symm (Vm.Alike.refl _) rfl e8
  rw [hh5] at z8
  have hB1 := hB.keep X8.warmed.alike (n6 _ _ hB.1)
  have hne : s.heap.size ≠ a := (Nat.ne_of_lt (Array.getElem?_eq_some_iff.mp hB.1).1).symm
  have c9 : Steps p.tables e below (s₁.setTop (entryFrame m #[.ref a, .ref b, .int (Int32.ofNat o), .int (Int32.ofNat len), .null] 6)) (T8.setTop (mkF m 39 #[.val (.ref a), .val (.ref b), .val (.int (Int32.ofNat o)), .val (.int (Int32.ofNat len)), .val .null, .unset] [.ref s.heap.size])) := g8
  have c10 : Steps p.tables e below (s₁.setTop (entryFrame m #[.ref a, .ref b, .int (Int32.ofNat o), .int (Int32.ofNat len), .null] 6)) (T8.setTop (mkF m 45 #[.val (.ref a), .val (.ref b), .val (.int (Int32.ofNat o)), .val (.int (Int32.ofNat len)), .val .null, .val (.ref s.heap.size)] [.int (Int32.ofNat N.slots.size), .ref s.heap.size, .ref a])) := by
    have hc : Steps p.tables e below (s₁.setTop (entryFrame m #[.ref a, .ref b, .int (Int32.ofNat o), .int (Int32.ofNat len), .null] 6)) (T8.setTop (mkF m 45 #[.val (.ref a), .val (.ref b), .val (.int (Int32.ofNat o)), .val (.int (Int32.ofNat len)), .val .null, .val (.ref s.heap.size)] [.int (Int32.ofNat len), .ref s.heap.size, .ref a])) := c9.trans (by
      refine XS.astore X8.here hexec rfl (hb hbytes d39) rfl rfl rfl ?_
      refine XS.aloadN X8.here hexec rfl (hb hbytes d41) rfl rfl ?_
      refine XS.aload X8.here hexec rfl (hb hbytes d42) rfl rfl ?_
      refine XS.iloadN X8.here hexec rfl (hb hbytes d44) rfl ?_
      exact Steps.refl _)
    rw [n4]; exact hc
  obtain ⟨v11, T11, X11, E11, g11⟩ := X8.callS hexec (CodL.law l s.heap.size N) hown (wks W (staticW "java/lang/String" 47 CodL.yN)) (wk W CodL.tab) (W := 1) (Nat.le_of_ble_eq_true rfl) (Nat.le_of_ble_eq_true rfl) (Nat.le_refl _) (by show 0 + len + 0 ≤ len; omega) (g := (mkF m 45 #[.val (.ref a), .val (.ref b), .val (.int (Int32.ofNat o)), .val (.int (Int32.ofNat len)), .val .null, .val (.ref s.heap.size)] [.int (Int32.ofNat N.slots.size), .ref s.heap.size, .ref a])) rfl (by rw [hml]; rfl) c10 (argsL := [.ref s.heap.size, .int (Int32.ofNat N.slots.size)]) (rest := [.ref a]) rfl rfl (by show 2 * 0 + (1 + 0) ≤ _; decide) (hb hbytes d45) (⟨rfl, n1⟩)
  obtain ⟨rfl, q11⟩ := E11
  have hB11 := hB1.mv (X8.warmed.alike.symm.trans X11.warmed.alike) q11
  have c12 : Steps p.tables e below (s₁.setTop (entryFrame m #[.ref a, .ref b, .int (Int32.ofNat o), .int (Int32.ofNat len), .null] 6)) (T11.setTop (mkF m 48 #[.val (.ref a), .val (.ref b), .val (.int (Int32.ofNat o)), .val (.int (Int32.ofNat len)), .val .null, .val (.ref s.heap.size)] [.int 0, .ref a])) := g11
  obtain ⟨T13, X13, p13, bl13, sl13, st13⟩ := X11.finit hexec hown (wk W (.fieldLink "java/lang/String" 15 "java/lang/String" "coder" "B")) (Or.inr ⟨_, (wk W (.laysFinal "java/lang/String" "java/lang/String" "coder" "B"))⟩) (Or.inl ⟨rfl, hnm⟩) f2 (Or.inl rfl) hB11 (t := .byte) (by decide +kernel) rfl (g := (mkF m 48 #[.val (.ref a), .val (.ref b), .val (.int (Int32.ofNat o)), .val (.int (Int32.ofNat len)), .val .null, .val (.ref s.heap.size)] [.int 0, .ref a])) rfl (rest := []) rfl (hb hbytes d48)
  have c14 : Steps p.tables e below (s₁.setTop (entryFrame m #[.ref a, .ref b, .int (Int32.ofNat o), .int (Int32.ofNat len), .null] 6)) (T13.setTop (mkF m 54 #[.val (.ref a), .val (.ref b), .val (.int (Int32.ofNat o)), .val (.int (Int32.ofNat len)), .val .null, .val (.ref s.heap.size)] [.ref s.heap.size, .ref a])) := (c12.trans (st13 _ (Steps.refl _))).trans (by
    refine XS.aloadN X13.here hexec rfl (hb hbytes d51) rfl rfl ?_
    refine XS.aload X13.here hexec rfl (hb hbytes d52) rfl rfl ?_
    exact Steps.refl _)
  obtain ⟨T15, X15, p15, bl15, sl15, st15⟩ := X13.finit hexec hown (wk W (.fieldLink "java/lang/String" 9 "java/lang/String" "value" "[B")) (Or.inr ⟨_, (wk W (.laysFinal "java/lang/String" "java/lang/String" "value" "[B"))⟩) (Or.inl ⟨rfl, hnm⟩) f1 (Or.inl rfl) bl13 (t := (.array .byte)) (by decide +kernel) rfl (g := (mkF m 54 #[.val (.ref a), .val (.ref b), .val (.int (Int32.ofNat o)), .val (.int (Int32.ofNat len)), .val .null, .val (.ref s.heap.size)] [.ref s.heap.size, .ref a])) rfl (rest := []) rfl (hb hbytes d54)
  have c16 : Steps p.tables e below (s₁.setTop (entryFrame m #[.ref a, .ref b, .int (Int32.ofNat o), .int (Int32.ofNat len), .null] 6)) (T15.setTop (mkF m 57 #[.val (.ref a), .val (.ref b), .val (.int (Int32.ofNat o)), .val (.int (Int32.ofNat len)), .val .null, .val (.ref s.heap.size)] [])) := c14.trans (st15 _ (Steps.refl _))
  have ap := apart (Or.inr ⟨_, (wk W (.laysFinal "java/lang/String" "java/lang/String" "value" "[B"))⟩) (Or.inr ⟨_, (wk W (.laysFinal "java/lang/String" "java/lang/String" "coder" "B"))⟩) f1 f2 (t₁ := .array .byte) (t₂ := .byte) (by decide +kernel) (by decide +kernel) (by decide)
  have al := X8.warmed.alike.symm.trans X15.warmed.alike
  have n7 : T11.heap[s.heap.size]? = some N := by rw [q11]; exact n1.1
  exact ⟨T15, none, _, _, _, X15, by simp, rfl, by omega, (fun _ => rfl), ⟨rfl, _, N, bl15, ((Same.refl D _).set _ (by simp)).set _ (by simp), sl15, (Cell.slots_setSlot_ne _ ap).trans sl13, n1.keep al (p15.other hne (p13.other hne n7)), n2, by rw [al.findClass]; exact n3, n4, n5, fun y c h1 h2 => p15.other h1 (p13.other h1 (by rw [q11]; exact n6 y c h2)), by rw [p15.2.2, p13.2.2, q11]; exact z8⟩, fun fs hl => c16.trans (X15.returnOut hexec hret (hb hbytes d57) hl)⟩
end New4
namespace New1
def yN : MethodName := ⟨"java/lang/String", "<init>", "([C)V"⟩
abbrev yB : ByteArray := jdk_42_method_3_code
theorem d0 : decode yB 0 = .ok (.aload_n 0, 1) := by decide +kernel
theorem d1 : decode yB 1 = .ok (.aload_n 1, 1) := by decide +kernel
theorem d2 : decode yB 2 = .ok (.iconst 0, 1) := by decide +kernel
theorem d3 : decode yB 3 = .ok (.aload_n 1, 1) := by decide +kernel
theorem d4 : decode yB 4 = .ok (.arraylength, 1) := by decide +kernel
theorem d5 : decode yB 5 = .ok (.aconst_null, 1) := by decide +kernel
theorem d6 : decode yB 6 = .ok (.invokespecial 27, 3) := by decide +kernel
theorem d9 : decode yB 9 = .ok (.return_, 1) := by decide +kernel
def site : List Cond := [New4.tab] ++ initW "java/lang/String" 27 New4.yN
def tab : Cond := tabOf yN yB 2 none site
def P (a : Addr) (D : Cell) (fV fC : Field) (b : Addr) (A : Cell) (z : Int32) (args : Array Value) (s : State) : Prop := args = #[.ref a, .ref b] ∧ Blank "java/lang/String" a D s ∧ Found "java/lang/String" "value" "[B" fV s ∧ Found "java/lang/String" "coder" "B" fC s ∧ Ch b A s ∧ StaticIs s "java/lang/String" "COMPACT_STRINGS" "Z" (.int z) ∧ ¬ z = 0 ∧ 0 < A.slots.size ∧ A.slots.size ≤ 536870912 ∧ ∀ i, i < A.slots.size → ¬ 255 < cv A i
def E (a : Addr) (D : Cell) (fV fC : Field) (A : Cell) (r : Option Value) (s u : State) : Prop := Got a D fV fC A 0 A.slots.size r s u
/-- new String(chars), not empty, no char above 255: a Latin-1 String of their low bytes -/
theorem law (l : Launch) (a : Addr) (D : Cell) (fV fC : Field) (b : Addr) (A : Cell) (z : Int32) : Law l yN 2 1 3 52 yB 2 none site (P a D fV fC b A z) (E a D fV fC A) [⟨a, fC.slot⟩, ⟨a, fV.slot⟩] 1 A.slots.size := by
  refine Law.of_walk (plainFor_of_name (by decide +kernel)) (by decide +kernel) (by decide +kernel) (by decide) (fun _ _ h => by rw [h.1]; rfl) (fun _ U U' hal hh h => ⟨h.1, h.2.1.mv hal hh, h.2.2.1.al hal, h.2.2.2.1.al hal, h.2.2.2.2.1.mv hal hh, h.2.2.2.2.2.1.there hal hh, h.2.2.2.2.2.2⟩) (fun r U U' V V' h1 hal h2 h => Got.mv r U U' V V' h1 hal h2 h) ?_
  intro p e s m args below meth c s₁ X0 hexec hbytes hml hret hlk hnm hown hh0 W hP
  obtain ⟨rfl, hB, f1, f2, hA, s1, hz, l0, l2, hp⟩ := hP
  have c1 : Steps p.tables e below (s₁.setTop (entryFrame m #[.ref a, .ref b] 2)) (s₁.setTop (mkF m 0 #[.val (.ref a), .val (.ref b)] [])) := entry rfl
  have c2 : Steps p.tables e below (s₁.setTop (entryFrame m #[.ref a, .ref b] 2)) (s₁.setTop (mkF m 6 #[.val (.ref a), .val (.ref b)] [.null, .int (Int32.ofNat A.slots.size), .int 0, .ref b, .ref a])) := c1.trans (by
    refine XS.aloadN X0.here hexec rfl (hb hbytes d0) rfl rfl ?_
    refine XS.aloadN X0.here hexec rfl (hb hbytes d1) rfl rfl ?_
    refine iconstV X0.here hexec rfl 0 (hb hbytes d2) (by decide) ?_
    refine XS.aloadN X0.here hexec rfl (hb hbytes d3) rfl rfl ?_
    refine X0.alen hexec (hA.1.mv X0.warmed.alike hh0) rfl rfl (hb hbytes d4) ?_
    refine XS.aconstNull X0.here hexec rfl (hb hbytes d5) ?_
    exact Steps.refl _)
  obtain ⟨v3, T3, X3, E3, g3⟩ := X0.callN hexec (New4.law l a D fV fC b A z 0 A.slots.size) rfl hown (wks W (initW "java/lang/String" 27 New4.yN)) (W New4.tab (by simp only [site, List.mem_cons, List.mem_append, true_or, or_true])) (W := 0) (Nat.le_of_ble_eq_true rfl) (Nat.le_of_ble_eq_true rfl) (Nat.le_refl _) (by show 0 + A.slots.size ≤ A.slots.size; omega) (g := (mkF m 6 #[.val (.ref a), .val (.ref b)] [.null, .int (Int32.ofNat A.slots.size), .int (Int32.ofNat 0), .ref b, .ref a])) rfl (by rw [hml]; rfl) c2 (argsL := [.ref b, .int (Int32.ofNat 0), .int (Int32.ofNat A.slots.size), .null]) (rest := []) rfl rfl (by show 2 * 0 + 0 ≤ _; decide) (hb hbytes d6) (⟨rfl, hB.mv X0.warmed.alike hh0, f1.al X0.warmed.alike, f2.al X0.warmed.alike, hA.mv X0.warmed.alike hh0, s1.there X0.warmed.alike hh0, hz, l0, by omega, l2, fun i hi => by rw [Nat.zero_add]; exact hp i hi⟩)
  have e0 := Got.mv _ s₁ s _ _ hh0.symm (Vm.Alike.refl _) rfl E3
  obtain rfl := e0.1
  have c4 : Steps p.tables e below (s₁.setTop (entryFrame m #[.ref a, .ref b] 2)) (T3.setTop (mkF m 9 #[.val (.ref a), .val (.ref b)] [])) := g3
  exact ⟨T3, none, _, _, _, X3, by simp, rfl, by omega, (fun _ => rfl), e0, fun fs hl => c4.trans (X3.returnOut hexec hret (hb hbytes d9) hl)⟩
theorem pays {l : Launch} {R : Room} {p : Program} {e : Env} {below : List Frame} {s : State} {sargs : Array Value} {len W : Nat} (a : Addr) (D : Cell) (fV fC : Field) (b : Addr) (A : Cell) (z : Int32) (htab : tab.before sargs s = true) (hfr : 4 ≤ R.frames) (hlo : W + 65 ≤ R.locals) :
    Back l R p e below s sargs yN len W (fun A₁ a₁ => A₁.cells + 1 ≤ R.cells ∧ A₁.slots + A.slots.size ≤ R.slots ∧ P a D fV fC b A z a₁ A₁.U) (fun A₁ _ v₁ B₁ => E a D fV fC A v₁ A₁.U B₁.U ∧ B₁.locs = A₁.locs ++ [⟨a, fC.slot⟩, ⟨a, fV.slot⟩] ∧ B₁.cells = A₁.cells + 1 ∧ B₁.slots = A₁.slots + A.slots.size) :=
  (law l a D fV fC b A z).pays htab hfr (by omega)
end New1
end StrChars
namespace StrChars.Road
open Jvm Sem ClassFile Op Lib Jvm.Stand Jvm.Free Jvm.Free.XT
open Jvm.Lib.Cold (StaticIs)
abbrev ST : String := "java/lang/String"
/-- every table word that New1's law asks, flat -/
abbrev words : List Jvm.Cond := [.code New1.yN New1.yB 2 none, .initialized ST, .methodLink ST 27 New4.yN, .instanceMethod New4.yN,
  .code New4.yN New4.yB 6 none, .fieldLink ST 38 ST "COMPACT_STRINGS" "Z", .laysFinal ST ST "value" "[B", .fieldLink ST 9 ST "value" "[B", .laysFinal ST ST "coder" "B", .fieldLink ST 15 ST "coder" "B",
  .methodLink ST 1 Lib.objectInit, .instanceMethod Lib.objectInit, .code Lib.objectInit ⟨#[0xb1]⟩ 1 none, .methodLink ST 177 Cmp3.yN, .static Cmp3.yN, .methodLink ST 47 CodL.yN, .static CodL.yN,
  .code Cmp3.yN Cmp3.yB 6 (some (.array .byte)), .initialized U16, .arrayClass .byte, .methodLink U16 115 Cmp5.yN, .static Cmp5.yN, .code Cmp5.yN Cmp5.yB 7 (some .int), .code CodL.yN CodL.yB 2 (some .byte)]
theorem tab_of {a : Array Value} {s : State} (h : ∀ w ∈ words, w.before a s = true) : New1.tab.before a s = true := by
  have h5 : Cmp5.tab.before a s = true := unparts (wk h (.code Cmp5.yN Cmp5.yB 7 (some .int))) (wks h (.initialized Cmp5.yN.cls :: Cmp5.site))
  have hc : CodL.tab.before a s = true := unparts (wk h (.code CodL.yN CodL.yB 2 (some .byte))) (wks h (.initialized CodL.yN.cls :: CodL.site))
  have q5 : ∀ w ∈ Cmp5.tab :: words, w.before a s = true := fun w hw => (List.mem_cons.mp hw).elim (fun e => e ▸ h5) (h w)
  have h3 : Cmp3.tab.before a s = true := unparts (wk q5 (.code Cmp3.yN Cmp3.yB 6 (some (.array .byte)))) (wks q5 (.initialized Cmp3.yN.cls :: Cmp3.site))
  have q3 : ∀ w ∈ Cmp3.tab :: CodL.tab :: words, w.before a s = true := fun w hw => (List.mem_cons.mp hw).elim (fun e => e ▸ h3) fun hw => (List.mem_cons.mp hw).elim (fun e => e ▸ hc) (h w)
  have h4 : New4.tab.before a s = true := unparts (wk q3 (.code New4.yN New4.yB 6 none)) (wks q3 (.initialized New4.yN.cls :: New4.site))
  have q4 : ∀ w ∈ New4.tab :: words, w.before a s = true := fun w hw => (List.mem_cons.mp hw).elim (fun e => e ▸ h4) (h w)
  exact unparts (wk q4 (.code New1.yN New1.yB 2 none)) (wks q4 (.initialized New1.yN.cls :: New1.site))
/-- the words ride from the start Z to the walk's own state -/
theorem moved {Z s : State} {a0 args : Array Value} (hZ : Z.Warmed39 s.vm) (hw : ∀ d ∈ words, d.before a0 Z = true) : ∀ d ∈ words, d.before args s = true := fun d hd => by
  have q := hw d hd
  have t : ∀ d ∈ words, d = .arrayClass .byte ∨ (d.onTables && d.keepsFace) = true := by decide +kernel
  rcases t d hd with rfl | t
  · exact RoadKit.mvA hZ q
  · exact RoadKit.mv hZ q t
/-- WHAT COMES BACK, over the tables of the start Z: h the heap at the call, h' behind it -/
def Q (Z : State) (x : Addr) (A : Cell) (h : Heap) (v : Option Value) (h' : Heap) (L : List Loc) : Prop := v = none ∧ (∀ y ∈ L, y.base = x) ∧ RoadKit.Keep h h' [x] ∧ h'.size = h.size + 1 ∧ RoadKit.Exa Z h' x ST ∧ RoadKit.Fld Z h' x ST "value" "[B" (.ref h.size) ∧ RoadKit.Fld Z h' x ST "coder" "B" (.int 0) ∧
  (∃ V : Cell, RoadKit.Arr Z h' h.size V .byte ∧ V.vm = .none ∧ Z.vm.findClass "[B" = some V.cls ∧ V.slots.size = A.slots.size ∧ ∀ j, j < A.slots.size → V.slots[j]? = some (.int (lo8 (cv A j)))) ∧
  ∀ (O n d : String) (w : Value), RoadKit.Fld Z h x O n d w → RoadKit.slotOf Z O n d ≠ RoadKit.slotOf Z ST "value" "[B" → RoadKit.slotOf Z O n d ≠ RoadKit.slotOf Z ST "coder" "B" → RoadKit.Fld Z h' x O n d w
/-- **new String(chars) AT A CALL, IN THE ROAD'S FORM**: for specialBack behind newO: x the fresh String, b the char[] with the cell A -/
theorem back {p : Program} {l : Launch} {e : Env} {R : Room} {s : State} {args : Array Value} {below : List Frame} {len W : Nat} {Z : State} {a0 : Array Value} {h : Heap} (hZ : Z.Warmed39 s.vm) (hw : ∀ d ∈ words, d.before a0 Z = true) {kI : Nat} (wi : (Jvm.Cond.instantiable ST kI).before a0 Z = true)
    {x b : Addr} {A : Cell} {z : Int32} {v0 c0 : Value} (E : RoadKit.Exa Z h x ST) (V : RoadKit.Fld Z h x ST "value" "[B" v0) (C : RoadKit.Fld Z h x ST "coder" "B" c0) (K : RoadKit.Arr Z h b A .char) (hty : Typed .char A) (S : RoadKit.Sta Z h ST "COMPACT_STRINGS" "Z" (.int z)) (hz : ¬ z = 0)
    (l0 : 0 < A.slots.size) (l2 : A.slots.size ≤ 536870912) (hp : ∀ i, i < A.slots.size → ¬ 255 < cv A i) (hfr : 4 ≤ R.frames) (hlo : W + 65 ≤ R.locals) :
    Back l R p e below s args New1.yN len W (fun P a => a = #[.ref x, .ref b] ∧ P.U.heap = h ∧ P.cells + 1 ≤ R.cells ∧ P.slots + A.slots.size ≤ R.slots)
      (fun P _ v B => ∃ L, Q Z x A h v B.U.heap L ∧ B.locs = P.locs ++ L ∧ B.cells = P.cells + 1 ∧ B.slots = P.slots + A.slots.size) := by
  intro m meth c P g ig mk a X hg hsize hdg hW hn hp'
  obtain ⟨rfl, rfl, r1, r2⟩ := hp'
  have al : Z.vm.Alike P.U.vm := hZ.alike.trans X.warmed.alike
  obtain ⟨D, cfV, kV, iV, fV, hD, gV, stV, knV, obV, asV, slV⟩ := id V
  obtain ⟨D', cfC, kC, iC, fC, hD', gC, stC, -, -, asC, slC⟩ := id C
  cases hD.symm.trans hD'
  obtain ⟨D2, kD, e1, e2, e3, e4, e5⟩ := id E
  cases hD.symm.trans e1
  obtain ⟨c2, k2, i1, i2, i3, -⟩ := Cond.instantiable_spec wi
  cases e2.symm.trans i1
  cases e3.symm.trans i2
  obtain ⟨kU, u1, u2⟩ := al.2.2 _ _ e3
  have hB : Blank ST x D P.U := ⟨hD, ⟨knV, fun q hq => by rw [hq] at obV; cases obV⟩, by rw [al.findClass]; exact e2, kU, u1, by rw [u2]; exact i3, by rw [u2]; exact e5 i3⟩
  have F1 : Found ST "value" "[B" fV P.U := ⟨SBG.found_only al ⟨cfV, kV, iV, gV⟩, stV⟩
  have F2 : Found ST "coder" "B" fC P.U := ⟨SBG.found_only al ⟨cfC, kC, iC, gC⟩, stC⟩
  have hA : Ch b A P.U := ⟨⟨K.1, State.isArrayOf_alike al K.2.1, K.2.2, by omega⟩, hty⟩
  have hS : StaticIs P.U ST "COMPACT_STRINGS" "Z" (.int z) := by
    obtain ⟨cfS, iS, kS, fS, st, cS, t1, t2, t3, t4, t5, t6, t7⟩ := S
    exact StaticIs.there (s := { Z with heap := P.U.heap }) ⟨cfS, iS, kS, fS, st, cS, t1, t2, t3, t4, t5, (fun q => by rw [q] at t6; cases t6), t7⟩ al rfl
  obtain ⟨v, B, X', ⟨⟨hv, E', V', q1, q2, q3, q4, q5, q6, q7, q8, q9, q10, q11⟩, hl, hc, hs⟩, st⟩ := New1.pays x D fV fC b A z (tab_of (moved hZ hw)) hfr hlo m meth c P g ig mk _ X hg hsize hdg hW hn ⟨r1, r2, rfl, hB, F1, F2, hA, hS, hz, l0, l2, hp⟩
  have al' : Z.vm.Alike B.U.vm := hZ.alike.trans X'.warmed.alike
  have hsz : E'.slots.size = D.slots.size := by
    obtain ⟨-, -, -, kB, w1, w2, w3⟩ := q1
    obtain ⟨kB', y1, y2⟩ := al'.2.2 _ _ e3
    rw [q2.2.1] at w1
    cases w1.symm.trans y1
    rw [w3, e5 i3, y2]
  refine ⟨v, B, X', ⟨_, ⟨hv, ?_, ⟨by omega, fun y cy hy hn' => q10 y cy (by simpa using hn') hy, fun y cy hy => ?_⟩, q11, ⟨E', _, q1.1, by rw [q2.2.1]; exact e2, by rw [q2.2.1]; exact e3, by rw [q2.1]; exact obV, fun _ => by rw [hsz]; exact e5 i3⟩,
    ⟨E', cfV, kV, iV, fV, q1.1, gV, stV, by rw [q2.1]; exact knV, by rw [q2.1]; exact obV, by rw [q2.2.1]; exact asV, q3⟩, ⟨E', cfC, kC, iC, fC, q1.1, gC, stC, by rw [q2.1]; exact knV, by rw [q2.1]; exact obV, by rw [q2.2.1]; exact asC, q4⟩,
    ⟨V', ⟨q5.1, State.isArrayOf_alike al'.symm q5.2.1, q5.2.2.1⟩, q6, by rw [← al'.findClass]; exact q7, q8, fun j hj => by have := q9 j hj; rwa [Nat.zero_add] at this⟩, fun O n d w F n1 n2 => ?_⟩, hl, hc, hs⟩, st⟩
  · intro y hy
    simp only [List.mem_cons, List.not_mem_nil, or_false] at hy
    rcases hy with rfl | rfl <;> rfl
  · by_cases q : y = x
    · subst q
      cases hD.symm.trans hy
      exact ⟨E', q1.1, q2.2.1, q2.1, hsz⟩
    · exact ⟨cy, q10 y cy q hy, rfl, rfl, rfl⟩
  · obtain ⟨D3, cf, k, i, f, g1, g2, g3, g4, g5, g6, g7⟩ := F
    cases hD.symm.trans g1
    simp only [RoadKit.slotOf, g2, gV, gC, Option.map_some, Option.getD_some] at n1 n2
    exact ⟨E', cf, k, i, f, q1.1, g2, g3, by rw [q2.1]; exact g4, by rw [q2.1]; exact g5, by rw [q2.2.1]; exact g6, by rw [q2.2.2 f.slot (by simp [n1, n2])]; exact g7⟩
end StrChars.Road
namespace StrChars.Road
open Jvm Sem ClassFile Op Lib Jvm.Stand Jvm.Free Jvm.Free.XT
/-- WHAT COMES BACK, the byte[] as a list of values -/
def QA (Z : State) (x : Addr) (zn : Int32) (cs : List Int32) (h : Heap) (v : Option Value) (h' : Heap) (L : List Loc) : Prop := v = none ∧ (∀ y ∈ L, y.base = x) ∧ RoadKit.Keep h h' [x] ∧ h'.size = h.size + 1 ∧ RoadKit.Exa Z h' x ST ∧ RoadKit.Fld Z h' x ST "value" "[B" (.ref h.size) ∧ RoadKit.Fld Z h' x ST "coder" "B" (.int 0) ∧
  (∃ kb, Z.vm.findClass "[B" = some kb ∧ RoadKit.Arv Z h' h.size kb .byte zn (cs.map fun c => .int (lo8 c)) (.int 0)) ∧
  ∀ (O n d : String) (w : Value), RoadKit.Fld Z h x O n d w → RoadKit.slotOf Z O n d ≠ RoadKit.slotOf Z ST "value" "[B" → RoadKit.slotOf Z O n d ≠ RoadKit.slotOf Z ST "coder" "B" → RoadKit.Fld Z h' x O n d w
/-- **new String(chars) AT A CALL, THE ARRAYS AS LISTS**: the char[] at b holds cs, not empty, no char above 255 -/
theorem backArv {p : Program} {l : Launch} {e : Env} {R : Room} {s : State} {args : Array Value} {below : List Frame} {len W : Nat} {Z : State} {a0 : Array Value} {h : Heap} (hZ : Z.Warmed39 s.vm) (hw : ∀ d ∈ words, d.before a0 Z = true) {kI : Nat} (wi : (Jvm.Cond.instantiable ST kI).before a0 Z = true)
    {x b : Addr} {k : ClassId} {zn z : Int32} {cs : List Int32} {dv v0 c0 : Value} (E : RoadKit.Exa Z h x ST) (V : RoadKit.Fld Z h x ST "value" "[B" v0) (C : RoadKit.Fld Z h x ST "coder" "B" c0) (K : RoadKit.Arv Z h b k .char zn (cs.map Value.int) dv) (S : RoadKit.Sta Z h ST "COMPACT_STRINGS" "Z" (.int z)) (hz : ¬ z = 0)
    (hlen : zn.toNatClampNeg = cs.length) (h0 : 0 < cs.length) (hbig : cs.length ≤ 536870912) (hall : ∀ c ∈ cs, ¬ 255 < c) (hfr : 4 ≤ R.frames) (hlo : W + 65 ≤ R.locals) :
    Back l R p e below s args New1.yN len W (fun P a => a = #[.ref x, .ref b] ∧ P.U.heap = h ∧ P.cells + 1 ≤ R.cells ∧ P.slots + cs.length ≤ R.slots)
      (fun P _ v B => ∃ L, QA Z x zn cs h v B.U.heap L ∧ B.locs = P.locs ++ L ∧ B.cells = P.cells + 1 ∧ B.slots = P.slots + cs.length) := by
  obtain ⟨A, K1, K2, K3, K4, K5, K6⟩ := K
  have e : A.slots.size = cs.length := K3.trans hlen
  have hat : ∀ (i : Nat) (hi : i < cs.length), A.slots[i]? = some (.int cs[i]) := fun i hi => by rw [K5 i (by omega)]; simp [List.getD_eq_getElem?_getD, hi]
  have hcv : ∀ (i : Nat) (hi : i < cs.length), cv A i = cs[i] := fun i hi => by unfold cv; rw [hat i hi]
  have hty : Typed .char A := fun i v hv => by
    have hi : i < A.slots.size := (Array.getElem?_eq_some_iff.mp hv).1
    have q := K5 i hi
    rw [hv] at q
    rw [Option.some.inj q]
    exact K6 i hi
  refine Back.mono (back hZ hw wi E V C K1 hty S hz (by omega) (by omega) (fun i hi => by rw [hcv i (by omega)]; exact hall _ (List.getElem_mem _)) hfr hlo) (fun P a hp => ⟨hp.1, hp.2.1, hp.2.2.1, by rw [e]; exact hp.2.2.2⟩) (fun P a v B hp hq => ?_)
  obtain ⟨L, ⟨q1, q2, q3, q4, q5, q6, q7, ⟨V', v1, v2, v3, v4, v5⟩, q9⟩, hl, hc, hs⟩ := hq
  refine ⟨L, ⟨q1, q2, q3, q4, q5, q6, q7, ⟨V'.cls, v3, V', v1, rfl, by rw [v4, e, hlen], K4, fun i hi => ?_, fun i hi => ?_⟩, q9⟩, hl, hc, by rw [hs, e]⟩
  · have hi' : i < cs.length := by omega
    rw [v5 i (by omega), hcv i hi']; simp [List.getD_eq_getElem?_getD, hi']
  · have hi' : i < cs.length := by omega
    simp only [List.getD_eq_getElem?_getD, List.getElem?_map, List.getElem?_eq_getElem hi', Option.map_some, Option.getD_some]
    exact fits_lo8 _
end StrChars.Road
namespace StrChars.Road
open Jvm Sem ClassFile Op Lib Jvm.Stand Jvm.Free Jvm.Free.XT
/-- WHAT COMES BACK, in the writer's own shape -/
def QV (Z : State) (x : Addr) (N : Int32) (bs : List Int32) (h : Heap) (n0 : Nat) (v : Option Value) (h' : Heap) (L : List Loc) : Prop := v = none ∧ RoadKit.Fr n0 L ∧ RoadKit.Keep h h' [x] ∧ RoadKit.Exa Z h' x ST ∧ RoadKit.Fld Z h' x ST "coder" "B" (.int 0) ∧
  ∃ (t : Addr) (kb : ClassId), n0 ≤ t ∧ h.size ≤ t ∧ ¬ t = x ∧ RoadKit.Fld Z h' x ST "value" "[B" (.ref t) ∧ RoadKit.Arv Z h' t kb .byte N (bs.map Value.int) (.int 0)
/-- **new String(chars) AT A CALL, FOR THE WRITER**: a char[] of n known ints, each 0 to 255 -/
theorem backV {p : Program} {l : Launch} {e : Env} {R : Room} {s : State} {args : Array Value} {below : List Frame} {len W : Nat} {Z : State} {a0 : Array Value} {h : Heap} (hZ : Z.Warmed39 s.vm) (hw : ∀ d ∈ words, d.before a0 Z = true) {kI : Nat} (wi : (Jvm.Cond.instantiable ST kI).before a0 Z = true)
    {x b : Addr} {kC : ClassId} {cs bs : List Int32} {d v0 c0 : Value} {z N : Int32} {n n0 : Nat} (hx0 : n0 ≤ x) (hh0 : n0 ≤ h.size) (E : RoadKit.Exa Z h x ST) (V : RoadKit.Fld Z h x ST "value" "[B" v0) (C : RoadKit.Fld Z h x ST "coder" "B" c0) (K : RoadKit.Arv Z h b kC .char N (cs.map Value.int) d) (S : RoadKit.Sta Z h ST "COMPACT_STRINGS" "Z" (.int z)) (hz : ¬ z = 0)
    (hn : cs.length = n) (hN : N = Int32.ofNat n) (l0 : 0 < n) (l2 : n ≤ 4000) (hp : ∀ c ∈ cs, ¬ c < 0 ∧ ¬ (255 : Int32) < c) (hb : bs = cs.map (fun c => c.toInt8.toInt32)) (hfr : 4 ≤ R.frames) (hlo : W + 65 ≤ R.locals) :
    Back l R p e below s args (⟨"java/lang/String", "<init>", "([C)V"⟩ : MethodName) len W (fun P a => a = #[.ref x, .ref b] ∧ P.U.heap = h ∧ P.cells + 1 ≤ R.cells ∧ P.slots + n ≤ R.slots)
      (fun P _ v B => ∃ L, QV Z x N bs h n0 v B.U.heap L ∧ B.locs = P.locs ++ L ∧ B.cells = P.cells + 1 ∧ B.slots = P.slots + n) := by
  subst hn hN hb
  refine Back.mono (backArv hZ hw wi E V C K S hz (n32 (by omega)) l0 (by omega) (fun c hc => (hp c hc).2) hfr hlo) (fun P a hp => hp) (fun P a v B hp hq => ?_)
  obtain ⟨L, ⟨q1, q2, q3, q4, q5, q6, q7, ⟨kb, v1, v2⟩, q9⟩, hl, hc, hs⟩ := hq
  exact ⟨L, ⟨q1, fun y hy => by rw [q2 y hy]; exact hx0, q3, q5, q7, h.size, kb, hh0, Nat.le_refl _, Nat.ne_of_gt E.lt, q6, by rw [List.map_map]; exact v2⟩, hl, hc, hs⟩
end StrChars.Road
end Jvm.Pilot.@@N@@
namespace Jvm.Pilot.@@N@@
open Jvm Jvm.ClassFile Sem Op Lib Jvm.Free Jvm.Stand Jvm.LawKit Jvm.RoadKit Bundle Jvm.Pilot.@@N@@.Jvm.D
/-- the road from here on ends, and G holds of its end -/
def Go (p : Program) (e : Env) (below : List Frame) (G : Outcome → State → Prop) (T : State) (g : JFrame) : Prop :=
  ∃ U o, Steps p.tables e below (T.setTop g) U ∧ U.status = .running ∧ Ended U below o ∧ G o U
/-- what a body leaves: it returned v, Q holds, the frame is kept -/
def Out (s : State) (Q : Option Value → Heap → List Loc → Prop) (C S : Nat) (o : Outcome) (U : State) : Prop :=
  ∃ v L, o = .returned v ∧ Q v U.heap L ∧ FrameEnd s o U L C S
section GoLaws
variable {p : Program} {l : Launch} {e : Env} {R : Room} {s : State} {m : MethodId} {args : Array Value} {below : List Frame} {meth : Method} {c : Code} {T T' : State} {locs : List Loc} {cells slots : Nat} {g g' : JFrame} {G : Outcome → State → Prop} {Q : Option Value → Heap → List Loc → Prop} {C S : Nat}
theorem Go.by (st : ∀ t, Steps p.tables e below (T'.setTop g') t → Steps p.tables e below (T.setTop g) t) (k : Go p e below G T' g') : Go p e below G T g := by
  obtain ⟨U, o, h, r⟩ := k
  exact ⟨U, o, st _ h, r⟩
theorem Go.tr (st : Steps p.tables e below (T.setTop g) (T'.setTop g')) (k : Go p e below G T' g') : Go p e below G T g := by
  obtain ⟨U, o, h, r⟩ := k
  exact ⟨U, o, st.trans h, r⟩
theorem Go.cast (q : g = g') (k : Go p e below G T g') : Go p e below G T g := by subst q; exact k
theorem Go.ends (X : Stand p l e R s m args below meth c T locs cells slots) {v : Option Value} (hlk : meth.locks = false) (hv : meth.sig.returnType = none → v = none)
    (st : ∀ fs, (∀ (f : JFrame) (acts : List Action), f.method = m → f.locked = none → f.entered = [] → (doReturn e (T.setTop f) acts v).1 = T.setFrames fs) → Steps p.tables e below (T.setTop g) (T.setFrames fs))
    (hQ : Q v T.heap locs) (hc : cells ≤ C) (hs : slots ≤ S) : Go p e below (Out s Q C S) T g := by
  obtain ⟨fs, hr, hrun, hended, hW, hsame⟩ := X.leave (v := v) hv hlk
  exact ⟨_, _, st fs hr, hrun, hended, _, _, rfl, hQ, ⟨_, rfl⟩, hW, hsame.mono hc hs⟩
theorem Go.ret0 (X : Stand p l e R s m args below meth c T locs cells slots) (hx : p.tables.exec = Jvm.exec) (hret : meth.sig.returnType = none) (hlk : meth.locks = false) {pc : Nat} {Ls : Array Slot} (hd : decode c.code pc = .ok (.return_, 1))
    (hQ : Q none T.heap locs) (hc : cells ≤ C) (hs : slots ≤ S) : Go p e below (Out s Q C S) T (mkF m pc Ls []) :=
  Go.ends X hlk (fun _ => rfl) (fun fs hr => X.returnOut hx hret hd hr) hQ hc hs
theorem Go.retN (X : Stand p l e R s m args below meth c T locs cells slots) (hx : p.tables.exec = Jvm.exec) {t : FieldType} (hret : meth.sig.returnType = some t) (ht : t = .boolean ∨ t = .byte ∨ t = .char ∨ t = .short) (hlk : meth.locks = false) {pc : Nat} {Ls : Array Slot} {z : Int32} {rest : List Value} (hd : decode c.code pc = .ok (.ireturn, 1))
    (hQ : Q (some (.int (nar t z))) T.heap locs) (hc : cells ≤ C) (hs : slots ≤ S) : Go p e below (Out s Q C S) T (mkF m pc Ls (.int z :: rest)) :=
  Go.ends X hlk (fun h => by rw [hret] at h; cases h) (fun fs hr => RoadKit.retN X hx hret ht hd hr) hQ hc hs
theorem Go.retI (X : Stand p l e R s m args below meth c T locs cells slots) (hx : p.tables.exec = Jvm.exec) (hret : meth.sig.returnType = some .int) (hlk : meth.locks = false) {pc : Nat} {Ls : Array Slot} {z : Int32} {rest : List Value} (hd : decode c.code pc = .ok (.ireturn, 1))
    (hQ : Q (some (.int z)) T.heap locs) (hc : cells ≤ C) (hs : slots ≤ S) : Go p e below (Out s Q C S) T (mkF m pc Ls (.int z :: rest)) :=
  Go.ends X hlk (fun h => by rw [hret] at h; cases h) (fun fs hr => retOut X hx hret rfl (Or.inl ⟨rfl, Or.inl rfl, z, rfl⟩) hd hr) hQ hc hs
theorem Go.retL (X : Stand p l e R s m args below meth c T locs cells slots) (hx : p.tables.exec = Jvm.exec) (hret : meth.sig.returnType = some .long) (hlk : meth.locks = false) {pc : Nat} {Ls : Array Slot} {z : Int64} {rest : List Value} (hd : decode c.code pc = .ok (.lreturn, 1))
    (hQ : Q (some (.long z)) T.heap locs) (hc : cells ≤ C) (hs : slots ≤ S) : Go p e below (Out s Q C S) T (mkF m pc Ls (.long z :: rest)) :=
  Go.ends X hlk (fun h => by rw [hret] at h; cases h) (fun fs hr => retOut X hx hret rfl (Or.inr (Or.inl ⟨rfl, rfl, z, rfl⟩)) hd hr) hQ hc hs
theorem Go.retD (X : Stand p l e R s m args below meth c T locs cells slots) (hx : p.tables.exec = Jvm.exec) (hret : meth.sig.returnType = some .double) (hlk : meth.locks = false) {pc : Nat} {Ls : Array Slot} {z : UInt64} {rest : List Value} (hd : decode c.code pc = .ok (.dreturn, 1))
    (hQ : Q (some (.double z)) T.heap locs) (hc : cells ≤ C) (hs : slots ≤ S) : Go p e below (Out s Q C S) T (mkF m pc Ls (.double z :: rest)) :=
  Go.ends X hlk (fun h => by rw [hret] at h; cases h) (fun fs hr => retOut X hx hret rfl (Or.inr (Or.inr (Or.inl ⟨rfl, rfl, z, rfl⟩))) hd hr) hQ hc hs
theorem Go.retR (X : Stand p l e R s m args below meth c T locs cells slots) (hx : p.tables.exec = Jvm.exec) {t : FieldType} {w : Value} (hret : meth.sig.returnType = some t) (hn : narrow t w = w) (ht : t.isReference = true) (hw : w.isRef = true) (hlk : meth.locks = false) {pc : Nat} {Ls : Array Slot} {rest : List Value} (hd : decode c.code pc = .ok (.areturn, 1))
    (hQ : Q (some w) T.heap locs) (hc : cells ≤ C) (hs : slots ≤ S) : Go p e below (Out s Q C S) T (mkF m pc Ls (w :: rest)) :=
  Go.ends X hlk (fun h => by rw [hret] at h; cases h) (fun fs hr => retOut X hx hret hn (Or.inr (Or.inr (Or.inr (Or.inr ⟨rfl, ht, hw⟩)))) hd hr) hQ hc hs
theorem Stand_grow {cells' slots' : Nat} (X : Stand p l e R s m args below meth c T locs cells slots) (hc : cells ≤ cells') (hs : slots ≤ slots') : Stand p l e R s m args below meth c T locs cells' slots' :=
  { X with same := X.same.mono hc hs }
end GoLaws
theorem ne_arv {Z : State} {h : Heap} {a b : Addr} {C : String} {a0 : Array Value} {k : Nat} {kc : ClassId} {ty : FieldType} {z : Int32} {vs : List Value} {dv : Value} (F : Exa Z h a C) (wi : (Jvm.Cond.instantiable C k).before a0 Z = true) (G : Arv Z h b kc ty z vs dv) : a ≠ b := by
  obtain ⟨c, A, -⟩ := G
  exact ne_arr F wi A
theorem chars_lo (x : Int32) : ¬ nar .char ((x &&& (255 : Int32)).toUInt32.toUInt16.toUInt32.toInt32) < 0 ∧ ¬ (255 : Int32) < nar .char ((x &&& (255 : Int32)).toUInt32.toUInt16.toUInt32.toInt32) := by
  have t : ∀ k : Fin 256, ¬ nar .char ((Int32.ofNat k.val).toUInt32.toUInt16.toUInt32.toInt32) < 0 ∧ ¬ (255 : Int32) < nar .char ((Int32.ofNat k.val).toUInt32.toUInt16.toUInt32.toInt32) := by decide +kernel
  have h : (x &&& 255).toBitVec.toNat < 256 := by
    simp only [Int32.toBitVec_and, BitVec.toNat_and]
    exact Nat.lt_succ_of_le Nat.and_le_right
  have e : (x &&& 255) = Int32.ofNat (x &&& 255).toBitVec.toNat := by
    apply Int32.toBitVec_inj.mp
    show _ = BitVec.ofNat 32 _
    rw [BitVec.ofNat_toNat]; simp
  rw [e]
  exact t ⟨_, h⟩
abbrev HW (a0 : Array Value) (Z : State) : Prop := ∀ d ∈ tables_1, d.before a0 Z = true
theorem ow0 {a0 : Array Value} {Z : State} (hw : HW a0 Z) : (Jvm.Cond.methodLink "com/example/spool/spool/ClaimedJobUnclaimedPinLaw" (12 : Nat) ({ cls := "com/example/spool/spool/ClaimedJobUnclaimedPinLaw", name := "draw", desc := "(I)Ljava/lang/String;" } : Jvm.MethodName)).before a0 Z = true := hw _ (List.mem_of_getElem? (i := 0) rfl)
theorem ow1 {a0 : Array Value} {Z : State} (hw : HW a0 Z) : (Jvm.Cond.static ({ cls := "com/example/spool/spool/ClaimedJobUnclaimedPinLaw", name := "draw", desc := "(I)Ljava/lang/String;" } : Jvm.MethodName)).before a0 Z = true := hw _ (List.mem_of_getElem? (i := 1) rfl)
theorem ow2 {a0 : Array Value} {Z : State} (hw : HW a0 Z) : (Jvm.Cond.initialized "com/example/spool/spool/ClaimedJobUnclaimedPinLaw").before a0 Z = true := hw _ (List.mem_of_getElem? (i := 2) rfl)
theorem ow3 {a0 : Array Value} {Z : State} (hw : HW a0 Z) : (Jvm.Cond.code ({ cls := "com/example/spool/spool/ClaimedJobUnclaimedPinLaw", name := "draw", desc := "(I)Ljava/lang/String;" } : Jvm.MethodName) method_2_code (2 : Nat) (Option.some (Jvm.ClassFile.FieldType.object "java/lang/String"))).before a0 Z = true := hw _ (List.mem_of_getElem? (i := 3) rfl)
theorem ow4 {a0 : Array Value} {Z : State} (hw : HW a0 Z) : (Jvm.Cond.arrayClass Jvm.ClassFile.FieldType.char).before a0 Z = true := hw _ (List.mem_of_getElem? (i := 4) rfl)
theorem ow5 {a0 : Array Value} {Z : State} (hw : HW a0 Z) : (Jvm.Cond.classLink "com/example/spool/spool/ClaimedJobUnclaimedPinLaw" (7 : Nat) "java/lang/String").before a0 Z = true := hw _ (List.mem_of_getElem? (i := 5) rfl)
theorem ow6 {a0 : Array Value} {Z : State} (hw : HW a0 Z) : (Jvm.Cond.instantiable "java/lang/String" (4 : Nat)).before a0 Z = true := hw _ (List.mem_of_getElem? (i := 6) rfl)
theorem ow7 {a0 : Array Value} {Z : State} (hw : HW a0 Z) : (Jvm.Cond.initialized "java/lang/String").before a0 Z = true := hw _ (List.mem_of_getElem? (i := 7) rfl)
theorem ow8 {a0 : Array Value} {Z : State} (hw : HW a0 Z) : (Jvm.Cond.methodLink "com/example/spool/spool/ClaimedJobUnclaimedPinLaw" (9 : Nat) ({ cls := "java/lang/String", name := "<init>", desc := "([C)V" } : Jvm.MethodName)).before a0 Z = true := hw _ (List.mem_of_getElem? (i := 8) rfl)
theorem ow9 {a0 : Array Value} {Z : State} (hw : HW a0 Z) : (Jvm.Cond.instanceMethod ({ cls := "java/lang/String", name := "<init>", desc := "([C)V" } : Jvm.MethodName)).before a0 Z = true := hw _ (List.mem_of_getElem? (i := 9) rfl)
theorem ow10 {a0 : Array Value} {Z : State} (hw : HW a0 Z) : (Jvm.Cond.code ({ cls := "java/lang/String", name := "<init>", desc := "([C)V" } : Jvm.MethodName) jdk_42_method_3_code (2 : Nat) (Option.none : Option Jvm.ClassFile.FieldType)).before a0 Z = true := hw _ (List.mem_of_getElem? (i := 10) rfl)
theorem ow16 {a0 : Array Value} {Z : State} (hw : HW a0 Z) : (Jvm.Cond.instanceMethod ({ cls := "java/lang/Object", name := "<init>", desc := "()V" } : Jvm.MethodName)).before a0 Z = true := hw _ (List.mem_of_getElem? (i := 16) rfl)
theorem ow17 {a0 : Array Value} {Z : State} (hw : HW a0 Z) : (Jvm.Cond.code ({ cls := "java/lang/Object", name := "<init>", desc := "()V" } : Jvm.MethodName) object_method_1_code (1 : Nat) (Option.none : Option Jvm.ClassFile.FieldType)).before a0 Z = true := hw _ (List.mem_of_getElem? (i := 17) rfl)
theorem ow31 {a0 : Array Value} {Z : State} (hw : HW a0 Z) : (Jvm.Cond.laysFinal "java/lang/String" "java/lang/String" "coder" "B").before a0 Z = true := hw _ (List.mem_of_getElem? (i := 31) rfl)
theorem ow33 {a0 : Array Value} {Z : State} (hw : HW a0 Z) : (Jvm.Cond.laysFinal "java/lang/String" "java/lang/String" "value" "[B").before a0 Z = true := hw _ (List.mem_of_getElem? (i := 33) rfl)
theorem ow34 {a0 : Array Value} {Z : State} (hw : HW a0 Z) : (Jvm.Cond.methodLink "com/example/spool/spool/ClaimedJobUnclaimedPinLaw" (18 : Nat) ({ cls := "com/example/spool/spool/ClaimedJob", name := "unclaimed", desc := "(JILjava/lang/String;Ljava/lang/String;Ljava/lang/String;)Lcom/example/spool/spool/ClaimedJob;" } : Jvm.MethodName)).before a0 Z = true := hw _ (List.mem_of_getElem? (i := 34) rfl)
theorem ow35 {a0 : Array Value} {Z : State} (hw : HW a0 Z) : (Jvm.Cond.static ({ cls := "com/example/spool/spool/ClaimedJob", name := "unclaimed", desc := "(JILjava/lang/String;Ljava/lang/String;Ljava/lang/String;)Lcom/example/spool/spool/ClaimedJob;" } : Jvm.MethodName)).before a0 Z = true := hw _ (List.mem_of_getElem? (i := 35) rfl)
theorem ow36 {a0 : Array Value} {Z : State} (hw : HW a0 Z) : (Jvm.Cond.initialized "com/example/spool/spool/ClaimedJob").before a0 Z = true := hw _ (List.mem_of_getElem? (i := 36) rfl)
theorem ow37 {a0 : Array Value} {Z : State} (hw : HW a0 Z) : (Jvm.Cond.code ({ cls := "com/example/spool/spool/ClaimedJob", name := "unclaimed", desc := "(JILjava/lang/String;Ljava/lang/String;Ljava/lang/String;)Lcom/example/spool/spool/ClaimedJob;" } : Jvm.MethodName) prog_2_method_2_code (6 : Nat) (Option.some (Jvm.ClassFile.FieldType.object "com/example/spool/spool/ClaimedJob"))).before a0 Z = true := hw _ (List.mem_of_getElem? (i := 37) rfl)
theorem ow38 {a0 : Array Value} {Z : State} (hw : HW a0 Z) : (Jvm.Cond.classLink "com/example/spool/spool/ClaimedJob" (8 : Nat) "com/example/spool/spool/ClaimedJob").before a0 Z = true := hw _ (List.mem_of_getElem? (i := 38) rfl)
theorem ow39 {a0 : Array Value} {Z : State} (hw : HW a0 Z) : (Jvm.Cond.instantiable "com/example/spool/spool/ClaimedJob" (10 : Nat)).before a0 Z = true := hw _ (List.mem_of_getElem? (i := 39) rfl)
theorem ow40 {a0 : Array Value} {Z : State} (hw : HW a0 Z) : (Jvm.Cond.methodLink "com/example/spool/spool/ClaimedJob" (41 : Nat) ({ cls := "com/example/spool/spool/ClaimedJob", name := "<init>", desc := "(JILjava/lang/String;Ljava/lang/String;Ljava/lang/String;Ljava/time/Duration;Ljava/time/Instant;Ljava/lang/String;Ljava/time/Instant;)V" } : Jvm.MethodName)).before a0 Z = true := hw _ (List.mem_of_getElem? (i := 40) rfl)
theorem ow41 {a0 : Array Value} {Z : State} (hw : HW a0 Z) : (Jvm.Cond.instanceMethod ({ cls := "com/example/spool/spool/ClaimedJob", name := "<init>", desc := "(JILjava/lang/String;Ljava/lang/String;Ljava/lang/String;Ljava/time/Duration;Ljava/time/Instant;Ljava/lang/String;Ljava/time/Instant;)V" } : Jvm.MethodName)).before a0 Z = true := hw _ (List.mem_of_getElem? (i := 41) rfl)
theorem ow42 {a0 : Array Value} {Z : State} (hw : HW a0 Z) : (Jvm.Cond.code ({ cls := "com/example/spool/spool/ClaimedJob", name := "<init>", desc := "(JILjava/lang/String;Ljava/lang/String;Ljava/lang/String;Ljava/time/Duration;Ljava/time/Instant;Ljava/lang/String;Ljava/time/Instant;)V" } : Jvm.MethodName) prog_2_method_1_code (11 : Nat) (Option.none : Option Jvm.ClassFile.FieldType)).before a0 Z = true := hw _ (List.mem_of_getElem? (i := 42) rfl)
theorem ow43 {a0 : Array Value} {Z : State} (hw : HW a0 Z) : (Jvm.Cond.methodLink "com/example/spool/spool/ClaimedJob" (1 : Nat) ({ cls := "java/lang/Object", name := "<init>", desc := "()V" } : Jvm.MethodName)).before a0 Z = true := hw _ (List.mem_of_getElem? (i := 43) rfl)
theorem ow44 {a0 : Array Value} {Z : State} (hw : HW a0 Z) : (Jvm.Cond.fieldLink "com/example/spool/spool/ClaimedJob" (7 : Nat) "com/example/spool/spool/ClaimedJob" "id" "J").before a0 Z = true := hw _ (List.mem_of_getElem? (i := 44) rfl)
theorem ow45 {a0 : Array Value} {Z : State} (hw : HW a0 Z) : (Jvm.Cond.laysFinal "com/example/spool/spool/ClaimedJob" "com/example/spool/spool/ClaimedJob" "id" "J").before a0 Z = true := hw _ (List.mem_of_getElem? (i := 45) rfl)
theorem ow46 {a0 : Array Value} {Z : State} (hw : HW a0 Z) : (Jvm.Cond.fieldLink "com/example/spool/spool/ClaimedJob" (13 : Nat) "com/example/spool/spool/ClaimedJob" "attempt" "I").before a0 Z = true := hw _ (List.mem_of_getElem? (i := 46) rfl)
theorem ow47 {a0 : Array Value} {Z : State} (hw : HW a0 Z) : (Jvm.Cond.laysFinal "com/example/spool/spool/ClaimedJob" "com/example/spool/spool/ClaimedJob" "attempt" "I").before a0 Z = true := hw _ (List.mem_of_getElem? (i := 47) rfl)
theorem ow48 {a0 : Array Value} {Z : State} (hw : HW a0 Z) : (Jvm.Cond.fieldLink "com/example/spool/spool/ClaimedJob" (17 : Nat) "com/example/spool/spool/ClaimedJob" "queue" "Ljava/lang/String;").before a0 Z = true := hw _ (List.mem_of_getElem? (i := 48) rfl)
theorem ow49 {a0 : Array Value} {Z : State} (hw : HW a0 Z) : (Jvm.Cond.laysFinal "com/example/spool/spool/ClaimedJob" "com/example/spool/spool/ClaimedJob" "queue" "Ljava/lang/String;").before a0 Z = true := hw _ (List.mem_of_getElem? (i := 49) rfl)
theorem ow50 {a0 : Array Value} {Z : State} (hw : HW a0 Z) : (Jvm.Cond.fieldLink "com/example/spool/spool/ClaimedJob" (21 : Nat) "com/example/spool/spool/ClaimedJob" "kind" "Ljava/lang/String;").before a0 Z = true := hw _ (List.mem_of_getElem? (i := 50) rfl)
theorem ow51 {a0 : Array Value} {Z : State} (hw : HW a0 Z) : (Jvm.Cond.laysFinal "com/example/spool/spool/ClaimedJob" "com/example/spool/spool/ClaimedJob" "kind" "Ljava/lang/String;").before a0 Z = true := hw _ (List.mem_of_getElem? (i := 51) rfl)
theorem ow52 {a0 : Array Value} {Z : State} (hw : HW a0 Z) : (Jvm.Cond.fieldLink "com/example/spool/spool/ClaimedJob" (24 : Nat) "com/example/spool/spool/ClaimedJob" "payload" "Ljava/lang/String;").before a0 Z = true := hw _ (List.mem_of_getElem? (i := 52) rfl)
theorem ow53 {a0 : Array Value} {Z : State} (hw : HW a0 Z) : (Jvm.Cond.laysFinal "com/example/spool/spool/ClaimedJob" "com/example/spool/spool/ClaimedJob" "payload" "Ljava/lang/String;").before a0 Z = true := hw _ (List.mem_of_getElem? (i := 53) rfl)
theorem ow54 {a0 : Array Value} {Z : State} (hw : HW a0 Z) : (Jvm.Cond.fieldLink "com/example/spool/spool/ClaimedJob" (27 : Nat) "com/example/spool/spool/ClaimedJob" "timeout" "Ljava/time/Duration;").before a0 Z = true := hw _ (List.mem_of_getElem? (i := 54) rfl)
theorem ow55 {a0 : Array Value} {Z : State} (hw : HW a0 Z) : (Jvm.Cond.laysFinal "com/example/spool/spool/ClaimedJob" "com/example/spool/spool/ClaimedJob" "timeout" "Ljava/time/Duration;").before a0 Z = true := hw _ (List.mem_of_getElem? (i := 55) rfl)
theorem ow56 {a0 : Array Value} {Z : State} (hw : HW a0 Z) : (Jvm.Cond.fieldLink "com/example/spool/spool/ClaimedJob" (31 : Nat) "com/example/spool/spool/ClaimedJob" "runAt" "Ljava/time/Instant;").before a0 Z = true := hw _ (List.mem_of_getElem? (i := 56) rfl)
theorem ow57 {a0 : Array Value} {Z : State} (hw : HW a0 Z) : (Jvm.Cond.laysFinal "com/example/spool/spool/ClaimedJob" "com/example/spool/spool/ClaimedJob" "runAt" "Ljava/time/Instant;").before a0 Z = true := hw _ (List.mem_of_getElem? (i := 57) rfl)
theorem ow58 {a0 : Array Value} {Z : State} (hw : HW a0 Z) : (Jvm.Cond.fieldLink "com/example/spool/spool/ClaimedJob" (35 : Nat) "com/example/spool/spool/ClaimedJob" "schedule" "Ljava/lang/String;").before a0 Z = true := hw _ (List.mem_of_getElem? (i := 58) rfl)
theorem ow59 {a0 : Array Value} {Z : State} (hw : HW a0 Z) : (Jvm.Cond.laysFinal "com/example/spool/spool/ClaimedJob" "com/example/spool/spool/ClaimedJob" "schedule" "Ljava/lang/String;").before a0 Z = true := hw _ (List.mem_of_getElem? (i := 59) rfl)
theorem ow60 {a0 : Array Value} {Z : State} (hw : HW a0 Z) : (Jvm.Cond.fieldLink "com/example/spool/spool/ClaimedJob" (38 : Nat) "com/example/spool/spool/ClaimedJob" "slot" "Ljava/time/Instant;").before a0 Z = true := hw _ (List.mem_of_getElem? (i := 60) rfl)
theorem ow61 {a0 : Array Value} {Z : State} (hw : HW a0 Z) : (Jvm.Cond.laysFinal "com/example/spool/spool/ClaimedJob" "com/example/spool/spool/ClaimedJob" "slot" "Ljava/time/Instant;").before a0 Z = true := hw _ (List.mem_of_getElem? (i := 61) rfl)
theorem ow62 {a0 : Array Value} {Z : State} (hw : HW a0 Z) : (Jvm.Cond.methodLink "com/example/spool/spool/ClaimedJobUnclaimedPinLaw" (24 : Nat) ({ cls := "com/example/spool/spool/ClaimedJob", name := "id", desc := "()J" } : Jvm.MethodName)).before a0 Z = true := hw _ (List.mem_of_getElem? (i := 62) rfl)
theorem ow63 {a0 : Array Value} {Z : State} (hw : HW a0 Z) : (Jvm.Cond.declares ({ cls := "com/example/spool/spool/ClaimedJob", name := "id", desc := "()J" } : Jvm.MethodName)).before a0 Z = true := hw _ (List.mem_of_getElem? (i := 63) rfl)
theorem ow64 {a0 : Array Value} {Z : State} (hw : HW a0 Z) : (Jvm.Cond.instanceMethod ({ cls := "com/example/spool/spool/ClaimedJob", name := "id", desc := "()J" } : Jvm.MethodName)).before a0 Z = true := hw _ (List.mem_of_getElem? (i := 64) rfl)
theorem ow65 {a0 : Array Value} {Z : State} (hw : HW a0 Z) : (Jvm.Cond.selects "com/example/spool/spool/ClaimedJob" ({ cls := "com/example/spool/spool/ClaimedJob", name := "id", desc := "()J" } : Jvm.MethodName) ({ cls := "com/example/spool/spool/ClaimedJob", name := "id", desc := "()J" } : Jvm.MethodName)).before a0 Z = true := hw _ (List.mem_of_getElem? (i := 65) rfl)
theorem ow66 {a0 : Array Value} {Z : State} (hw : HW a0 Z) : (Jvm.Cond.code ({ cls := "com/example/spool/spool/ClaimedJob", name := "id", desc := "()J" } : Jvm.MethodName) prog_2_method_3_code (1 : Nat) (Option.some Jvm.ClassFile.FieldType.long)).before a0 Z = true := hw _ (List.mem_of_getElem? (i := 66) rfl)
theorem ow67 {a0 : Array Value} {Z : State} (hw : HW a0 Z) : (Jvm.Cond.methodLink "com/example/spool/spool/ClaimedJobUnclaimedPinLaw" (28 : Nat) ({ cls := "com/example/spool/spool/ClaimedJob", name := "attempt", desc := "()I" } : Jvm.MethodName)).before a0 Z = true := hw _ (List.mem_of_getElem? (i := 67) rfl)
theorem ow68 {a0 : Array Value} {Z : State} (hw : HW a0 Z) : (Jvm.Cond.declares ({ cls := "com/example/spool/spool/ClaimedJob", name := "attempt", desc := "()I" } : Jvm.MethodName)).before a0 Z = true := hw _ (List.mem_of_getElem? (i := 68) rfl)
theorem ow69 {a0 : Array Value} {Z : State} (hw : HW a0 Z) : (Jvm.Cond.instanceMethod ({ cls := "com/example/spool/spool/ClaimedJob", name := "attempt", desc := "()I" } : Jvm.MethodName)).before a0 Z = true := hw _ (List.mem_of_getElem? (i := 69) rfl)
theorem ow70 {a0 : Array Value} {Z : State} (hw : HW a0 Z) : (Jvm.Cond.selects "com/example/spool/spool/ClaimedJob" ({ cls := "com/example/spool/spool/ClaimedJob", name := "attempt", desc := "()I" } : Jvm.MethodName) ({ cls := "com/example/spool/spool/ClaimedJob", name := "attempt", desc := "()I" } : Jvm.MethodName)).before a0 Z = true := hw _ (List.mem_of_getElem? (i := 70) rfl)
theorem ow71 {a0 : Array Value} {Z : State} (hw : HW a0 Z) : (Jvm.Cond.code ({ cls := "com/example/spool/spool/ClaimedJob", name := "attempt", desc := "()I" } : Jvm.MethodName) prog_2_method_4_code (1 : Nat) (Option.some Jvm.ClassFile.FieldType.int)).before a0 Z = true := hw _ (List.mem_of_getElem? (i := 71) rfl)
theorem ow72 {a0 : Array Value} {Z : State} (hw : HW a0 Z) : (Jvm.Cond.methodLink "com/example/spool/spool/ClaimedJobUnclaimedPinLaw" (32 : Nat) ({ cls := "com/example/spool/spool/ClaimedJob", name := "queue", desc := "()Ljava/lang/String;" } : Jvm.MethodName)).before a0 Z = true := hw _ (List.mem_of_getElem? (i := 72) rfl)
theorem ow73 {a0 : Array Value} {Z : State} (hw : HW a0 Z) : (Jvm.Cond.declares ({ cls := "com/example/spool/spool/ClaimedJob", name := "queue", desc := "()Ljava/lang/String;" } : Jvm.MethodName)).before a0 Z = true := hw _ (List.mem_of_getElem? (i := 73) rfl)
theorem ow74 {a0 : Array Value} {Z : State} (hw : HW a0 Z) : (Jvm.Cond.instanceMethod ({ cls := "com/example/spool/spool/ClaimedJob", name := "queue", desc := "()Ljava/lang/String;" } : Jvm.MethodName)).before a0 Z = true := hw _ (List.mem_of_getElem? (i := 74) rfl)
theorem ow75 {a0 : Array Value} {Z : State} (hw : HW a0 Z) : (Jvm.Cond.selects "com/example/spool/spool/ClaimedJob" ({ cls := "com/example/spool/spool/ClaimedJob", name := "queue", desc := "()Ljava/lang/String;" } : Jvm.MethodName) ({ cls := "com/example/spool/spool/ClaimedJob", name := "queue", desc := "()Ljava/lang/String;" } : Jvm.MethodName)).before a0 Z = true := hw _ (List.mem_of_getElem? (i := 75) rfl)
theorem ow76 {a0 : Array Value} {Z : State} (hw : HW a0 Z) : (Jvm.Cond.code ({ cls := "com/example/spool/spool/ClaimedJob", name := "queue", desc := "()Ljava/lang/String;" } : Jvm.MethodName) prog_2_method_5_code (1 : Nat) (Option.some (Jvm.ClassFile.FieldType.object "java/lang/String"))).before a0 Z = true := hw _ (List.mem_of_getElem? (i := 76) rfl)
theorem ow77 {a0 : Array Value} {Z : State} (hw : HW a0 Z) : (Jvm.Cond.methodLink "com/example/spool/spool/ClaimedJobUnclaimedPinLaw" (36 : Nat) ({ cls := "com/example/spool/spool/ClaimedJob", name := "kind", desc := "()Ljava/lang/String;" } : Jvm.MethodName)).before a0 Z = true := hw _ (List.mem_of_getElem? (i := 77) rfl)
theorem ow78 {a0 : Array Value} {Z : State} (hw : HW a0 Z) : (Jvm.Cond.declares ({ cls := "com/example/spool/spool/ClaimedJob", name := "kind", desc := "()Ljava/lang/String;" } : Jvm.MethodName)).before a0 Z = true := hw _ (List.mem_of_getElem? (i := 78) rfl)
theorem ow79 {a0 : Array Value} {Z : State} (hw : HW a0 Z) : (Jvm.Cond.instanceMethod ({ cls := "com/example/spool/spool/ClaimedJob", name := "kind", desc := "()Ljava/lang/String;" } : Jvm.MethodName)).before a0 Z = true := hw _ (List.mem_of_getElem? (i := 79) rfl)
theorem ow80 {a0 : Array Value} {Z : State} (hw : HW a0 Z) : (Jvm.Cond.selects "com/example/spool/spool/ClaimedJob" ({ cls := "com/example/spool/spool/ClaimedJob", name := "kind", desc := "()Ljava/lang/String;" } : Jvm.MethodName) ({ cls := "com/example/spool/spool/ClaimedJob", name := "kind", desc := "()Ljava/lang/String;" } : Jvm.MethodName)).before a0 Z = true := hw _ (List.mem_of_getElem? (i := 80) rfl)
theorem ow81 {a0 : Array Value} {Z : State} (hw : HW a0 Z) : (Jvm.Cond.code ({ cls := "com/example/spool/spool/ClaimedJob", name := "kind", desc := "()Ljava/lang/String;" } : Jvm.MethodName) prog_2_method_6_code (1 : Nat) (Option.some (Jvm.ClassFile.FieldType.object "java/lang/String"))).before a0 Z = true := hw _ (List.mem_of_getElem? (i := 81) rfl)
theorem ow82 {a0 : Array Value} {Z : State} (hw : HW a0 Z) : (Jvm.Cond.methodLink "com/example/spool/spool/ClaimedJobUnclaimedPinLaw" (39 : Nat) ({ cls := "com/example/spool/spool/ClaimedJob", name := "payload", desc := "()Ljava/lang/String;" } : Jvm.MethodName)).before a0 Z = true := hw _ (List.mem_of_getElem? (i := 82) rfl)
theorem ow83 {a0 : Array Value} {Z : State} (hw : HW a0 Z) : (Jvm.Cond.declares ({ cls := "com/example/spool/spool/ClaimedJob", name := "payload", desc := "()Ljava/lang/String;" } : Jvm.MethodName)).before a0 Z = true := hw _ (List.mem_of_getElem? (i := 83) rfl)
theorem ow84 {a0 : Array Value} {Z : State} (hw : HW a0 Z) : (Jvm.Cond.instanceMethod ({ cls := "com/example/spool/spool/ClaimedJob", name := "payload", desc := "()Ljava/lang/String;" } : Jvm.MethodName)).before a0 Z = true := hw _ (List.mem_of_getElem? (i := 84) rfl)
theorem ow85 {a0 : Array Value} {Z : State} (hw : HW a0 Z) : (Jvm.Cond.selects "com/example/spool/spool/ClaimedJob" ({ cls := "com/example/spool/spool/ClaimedJob", name := "payload", desc := "()Ljava/lang/String;" } : Jvm.MethodName) ({ cls := "com/example/spool/spool/ClaimedJob", name := "payload", desc := "()Ljava/lang/String;" } : Jvm.MethodName)).before a0 Z = true := hw _ (List.mem_of_getElem? (i := 85) rfl)
theorem ow86 {a0 : Array Value} {Z : State} (hw : HW a0 Z) : (Jvm.Cond.code ({ cls := "com/example/spool/spool/ClaimedJob", name := "payload", desc := "()Ljava/lang/String;" } : Jvm.MethodName) prog_2_method_7_code (1 : Nat) (Option.some (Jvm.ClassFile.FieldType.object "java/lang/String"))).before a0 Z = true := hw _ (List.mem_of_getElem? (i := 86) rfl)
theorem ow87 {a0 : Array Value} {Z : State} (hw : HW a0 Z) : (Jvm.Cond.methodLink "com/example/spool/spool/ClaimedJobUnclaimedPinLaw" (42 : Nat) ({ cls := "com/example/spool/spool/ClaimedJob", name := "runAt", desc := "()Ljava/time/Instant;" } : Jvm.MethodName)).before a0 Z = true := hw _ (List.mem_of_getElem? (i := 87) rfl)
theorem ow88 {a0 : Array Value} {Z : State} (hw : HW a0 Z) : (Jvm.Cond.declares ({ cls := "com/example/spool/spool/ClaimedJob", name := "runAt", desc := "()Ljava/time/Instant;" } : Jvm.MethodName)).before a0 Z = true := hw _ (List.mem_of_getElem? (i := 88) rfl)
theorem ow89 {a0 : Array Value} {Z : State} (hw : HW a0 Z) : (Jvm.Cond.instanceMethod ({ cls := "com/example/spool/spool/ClaimedJob", name := "runAt", desc := "()Ljava/time/Instant;" } : Jvm.MethodName)).before a0 Z = true := hw _ (List.mem_of_getElem? (i := 89) rfl)
theorem ow90 {a0 : Array Value} {Z : State} (hw : HW a0 Z) : (Jvm.Cond.selects "com/example/spool/spool/ClaimedJob" ({ cls := "com/example/spool/spool/ClaimedJob", name := "runAt", desc := "()Ljava/time/Instant;" } : Jvm.MethodName) ({ cls := "com/example/spool/spool/ClaimedJob", name := "runAt", desc := "()Ljava/time/Instant;" } : Jvm.MethodName)).before a0 Z = true := hw _ (List.mem_of_getElem? (i := 90) rfl)
theorem ow91 {a0 : Array Value} {Z : State} (hw : HW a0 Z) : (Jvm.Cond.code ({ cls := "com/example/spool/spool/ClaimedJob", name := "runAt", desc := "()Ljava/time/Instant;" } : Jvm.MethodName) prog_2_method_11_code (1 : Nat) (Option.some (Jvm.ClassFile.FieldType.object "java/time/Instant"))).before a0 Z = true := hw _ (List.mem_of_getElem? (i := 91) rfl)
theorem od_m_2_0 : decode method_2_code 0 = .ok (.iconst 2, 1) := by decide +kernel
theorem od_m_2_1 : decode method_2_code 1 = .ok (.newarray .char, 2) := by decide +kernel
theorem od_m_2_3 : decode method_2_code 3 = .ok (.astore_n 1, 1) := by decide +kernel
theorem od_m_2_4 : decode method_2_code 4 = .ok (.aload_n 1, 1) := by decide +kernel
theorem od_m_2_5 : decode method_2_code 5 = .ok (.iconst 0, 1) := by decide +kernel
theorem od_m_2_6 : decode method_2_code 6 = .ok (.iload_n 0, 1) := by decide +kernel
theorem od_m_2_7 : decode method_2_code 7 = .ok (.sipush 255, 3) := by decide +kernel
theorem od_m_2_10 : decode method_2_code 10 = .ok (.iand, 1) := by decide +kernel
theorem od_m_2_11 : decode method_2_code 11 = .ok (.i2c, 1) := by decide +kernel
theorem od_m_2_12 : decode method_2_code 12 = .ok (.castore, 1) := by decide +kernel
theorem od_m_2_13 : decode method_2_code 13 = .ok (.aload_n 1, 1) := by decide +kernel
theorem od_m_2_14 : decode method_2_code 14 = .ok (.iconst 1, 1) := by decide +kernel
theorem od_m_2_15 : decode method_2_code 15 = .ok (.iload_n 0, 1) := by decide +kernel
theorem od_m_2_16 : decode method_2_code 16 = .ok (.bipush 8, 2) := by decide +kernel
theorem od_m_2_18 : decode method_2_code 18 = .ok (.iushr, 1) := by decide +kernel
theorem od_m_2_19 : decode method_2_code 19 = .ok (.sipush 255, 3) := by decide +kernel
theorem od_m_2_22 : decode method_2_code 22 = .ok (.iand, 1) := by decide +kernel
theorem od_m_2_23 : decode method_2_code 23 = .ok (.i2c, 1) := by decide +kernel
theorem od_m_2_24 : decode method_2_code 24 = .ok (.castore, 1) := by decide +kernel
theorem od_m_2_25 : decode method_2_code 25 = .ok (.new 7, 3) := by decide +kernel
theorem od_m_2_28 : decode method_2_code 28 = .ok (.dup, 1) := by decide +kernel
theorem od_m_2_29 : decode method_2_code 29 = .ok (.aload_n 1, 1) := by decide +kernel
theorem od_m_2_30 : decode method_2_code 30 = .ok (.invokespecial 9, 3) := by decide +kernel
theorem od_m_2_33 : decode method_2_code 33 = .ok (.areturn, 1) := by decide +kernel
theorem od_prog_2_m_11_0 : decode prog_2_method_11_code 0 = .ok (.aload_n 0, 1) := by decide +kernel
theorem od_prog_2_m_11_1 : decode prog_2_method_11_code 1 = .ok (.getfield 31, 3) := by decide +kernel
theorem od_prog_2_m_11_4 : decode prog_2_method_11_code 4 = .ok (.areturn, 1) := by decide +kernel
theorem od_prog_2_m_1_0 : decode prog_2_method_1_code 0 = .ok (.aload_n 0, 1) := by decide +kernel
theorem od_prog_2_m_1_1 : decode prog_2_method_1_code 1 = .ok (.invokespecial 1, 3) := by decide +kernel
theorem od_prog_2_m_1_4 : decode prog_2_method_1_code 4 = .ok (.aload_n 0, 1) := by decide +kernel
theorem od_prog_2_m_1_5 : decode prog_2_method_1_code 5 = .ok (.lload_n 1, 1) := by decide +kernel
theorem od_prog_2_m_1_6 : decode prog_2_method_1_code 6 = .ok (.putfield 7, 3) := by decide +kernel
theorem od_prog_2_m_1_9 : decode prog_2_method_1_code 9 = .ok (.aload_n 0, 1) := by decide +kernel
theorem od_prog_2_m_1_10 : decode prog_2_method_1_code 10 = .ok (.iload_n 3, 1) := by decide +kernel
theorem od_prog_2_m_1_11 : decode prog_2_method_1_code 11 = .ok (.putfield 13, 3) := by decide +kernel
theorem od_prog_2_m_1_14 : decode prog_2_method_1_code 14 = .ok (.aload_n 0, 1) := by decide +kernel
theorem od_prog_2_m_1_15 : decode prog_2_method_1_code 15 = .ok (.aload 4, 2) := by decide +kernel
theorem od_prog_2_m_1_17 : decode prog_2_method_1_code 17 = .ok (.putfield 17, 3) := by decide +kernel
theorem od_prog_2_m_1_20 : decode prog_2_method_1_code 20 = .ok (.aload_n 0, 1) := by decide +kernel
theorem od_prog_2_m_1_21 : decode prog_2_method_1_code 21 = .ok (.aload 5, 2) := by decide +kernel
theorem od_prog_2_m_1_23 : decode prog_2_method_1_code 23 = .ok (.putfield 21, 3) := by decide +kernel
theorem od_prog_2_m_1_26 : decode prog_2_method_1_code 26 = .ok (.aload_n 0, 1) := by decide +kernel
theorem od_prog_2_m_1_27 : decode prog_2_method_1_code 27 = .ok (.aload 6, 2) := by decide +kernel
theorem od_prog_2_m_1_29 : decode prog_2_method_1_code 29 = .ok (.putfield 24, 3) := by decide +kernel
theorem od_prog_2_m_1_32 : decode prog_2_method_1_code 32 = .ok (.aload_n 0, 1) := by decide +kernel
theorem od_prog_2_m_1_33 : decode prog_2_method_1_code 33 = .ok (.aload 7, 2) := by decide +kernel
theorem od_prog_2_m_1_35 : decode prog_2_method_1_code 35 = .ok (.putfield 27, 3) := by decide +kernel
theorem od_prog_2_m_1_38 : decode prog_2_method_1_code 38 = .ok (.aload_n 0, 1) := by decide +kernel
theorem od_prog_2_m_1_39 : decode prog_2_method_1_code 39 = .ok (.aload 8, 2) := by decide +kernel
theorem od_prog_2_m_1_41 : decode prog_2_method_1_code 41 = .ok (.putfield 31, 3) := by decide +kernel
theorem od_prog_2_m_1_44 : decode prog_2_method_1_code 44 = .ok (.aload_n 0, 1) := by decide +kernel
theorem od_prog_2_m_1_45 : decode prog_2_method_1_code 45 = .ok (.aload 9, 2) := by decide +kernel
theorem od_prog_2_m_1_47 : decode prog_2_method_1_code 47 = .ok (.putfield 35, 3) := by decide +kernel
theorem od_prog_2_m_1_50 : decode prog_2_method_1_code 50 = .ok (.aload_n 0, 1) := by decide +kernel
theorem od_prog_2_m_1_51 : decode prog_2_method_1_code 51 = .ok (.aload 10, 2) := by decide +kernel
theorem od_prog_2_m_1_53 : decode prog_2_method_1_code 53 = .ok (.putfield 38, 3) := by decide +kernel
theorem od_prog_2_m_1_56 : decode prog_2_method_1_code 56 = .ok (.return_, 1) := by decide +kernel
theorem od_prog_2_m_2_0 : decode prog_2_method_2_code 0 = .ok (.new 8, 3) := by decide +kernel
theorem od_prog_2_m_2_3 : decode prog_2_method_2_code 3 = .ok (.dup, 1) := by decide +kernel
theorem od_prog_2_m_2_4 : decode prog_2_method_2_code 4 = .ok (.lload_n 0, 1) := by decide +kernel
theorem od_prog_2_m_2_5 : decode prog_2_method_2_code 5 = .ok (.iload_n 2, 1) := by decide +kernel
theorem od_prog_2_m_2_6 : decode prog_2_method_2_code 6 = .ok (.aload_n 3, 1) := by decide +kernel
theorem od_prog_2_m_2_7 : decode prog_2_method_2_code 7 = .ok (.aload 4, 2) := by decide +kernel
theorem od_prog_2_m_2_9 : decode prog_2_method_2_code 9 = .ok (.aload 5, 2) := by decide +kernel
theorem od_prog_2_m_2_11 : decode prog_2_method_2_code 11 = .ok (.aconst_null, 1) := by decide +kernel
theorem od_prog_2_m_2_12 : decode prog_2_method_2_code 12 = .ok (.aconst_null, 1) := by decide +kernel
theorem od_prog_2_m_2_13 : decode prog_2_method_2_code 13 = .ok (.aconst_null, 1) := by decide +kernel
theorem od_prog_2_m_2_14 : decode prog_2_method_2_code 14 = .ok (.aconst_null, 1) := by decide +kernel
theorem od_prog_2_m_2_15 : decode prog_2_method_2_code 15 = .ok (.invokespecial 41, 3) := by decide +kernel
theorem od_prog_2_m_2_18 : decode prog_2_method_2_code 18 = .ok (.areturn, 1) := by decide +kernel
theorem od_prog_2_m_3_0 : decode prog_2_method_3_code 0 = .ok (.aload_n 0, 1) := by decide +kernel
theorem od_prog_2_m_3_1 : decode prog_2_method_3_code 1 = .ok (.getfield 7, 3) := by decide +kernel
theorem od_prog_2_m_3_4 : decode prog_2_method_3_code 4 = .ok (.lreturn, 1) := by decide +kernel
theorem od_prog_2_m_4_0 : decode prog_2_method_4_code 0 = .ok (.aload_n 0, 1) := by decide +kernel
theorem od_prog_2_m_4_1 : decode prog_2_method_4_code 1 = .ok (.getfield 13, 3) := by decide +kernel
theorem od_prog_2_m_4_4 : decode prog_2_method_4_code 4 = .ok (.ireturn, 1) := by decide +kernel
theorem od_prog_2_m_5_0 : decode prog_2_method_5_code 0 = .ok (.aload_n 0, 1) := by decide +kernel
theorem od_prog_2_m_5_1 : decode prog_2_method_5_code 1 = .ok (.getfield 17, 3) := by decide +kernel
theorem od_prog_2_m_5_4 : decode prog_2_method_5_code 4 = .ok (.areturn, 1) := by decide +kernel
theorem od_prog_2_m_6_0 : decode prog_2_method_6_code 0 = .ok (.aload_n 0, 1) := by decide +kernel
theorem od_prog_2_m_6_1 : decode prog_2_method_6_code 1 = .ok (.getfield 21, 3) := by decide +kernel
theorem od_prog_2_m_6_4 : decode prog_2_method_6_code 4 = .ok (.areturn, 1) := by decide +kernel
theorem od_prog_2_m_7_0 : decode prog_2_method_7_code 0 = .ok (.aload_n 0, 1) := by decide +kernel
theorem od_prog_2_m_7_1 : decode prog_2_method_7_code 1 = .ok (.getfield 24, 3) := by decide +kernel
theorem od_prog_2_m_7_4 : decode prog_2_method_7_code 4 = .ok (.areturn, 1) := by decide +kernel
theorem opd_0 : parseMethodDescriptor "([C)V" = some ⟨[(.array .char)], none⟩ := by decide +kernel
theorem opd_1 : parseMethodDescriptor "(JILjava/lang/String;Ljava/lang/String;Ljava/lang/String;Ljava/time/Duration;Ljava/time/Instant;Ljava/lang/String;Ljava/time/Instant;)V" = some ⟨[.long, .int, (.object "java/lang/String"), (.object "java/lang/String"), (.object "java/lang/String"), (.object "java/time/Duration"), (.object "java/time/Instant"), (.object "java/lang/String"), (.object "java/time/Instant")], none⟩ := by decide +kernel
theorem opd_2 : parseMethodDescriptor "(I)Ljava/lang/String;" = some ⟨[.int], some (.object "java/lang/String")⟩ := by decide +kernel
theorem opd_3 : parseMethodDescriptor "(JILjava/lang/String;Ljava/lang/String;Ljava/lang/String;)Lcom/example/spool/spool/ClaimedJob;" = some ⟨[.long, .int, (.object "java/lang/String"), (.object "java/lang/String"), (.object "java/lang/String")], some (.object "com/example/spool/spool/ClaimedJob")⟩ := by decide +kernel
theorem opd_4 : parseMethodDescriptor "()J" = some ⟨[], some .long⟩ := by decide +kernel
theorem opd_5 : parseMethodDescriptor "()I" = some ⟨[], some .int⟩ := by decide +kernel
theorem opd_6 : parseMethodDescriptor "()Ljava/lang/String;" = some ⟨[], some (.object "java/lang/String")⟩ := by decide +kernel
theorem opd_7 : parseMethodDescriptor "()Ljava/time/Instant;" = some ⟨[], some (.object "java/time/Instant")⟩ := by decide +kernel
theorem opn_0 : plainName "com/example/spool/spool/ClaimedJobUnclaimedPinLaw" = true := by first | (simp [plainName, overriddenIn]; done) | decide +kernel
theorem opn_1 : plainName "com/example/spool/spool/ClaimedJob" = true := by first | (simp [plainName, overriddenIn]; done) | decide +kernel
theorem oef_draw (m : MethodId) (x0 : Int32) : entryFrame m #[(.int x0)] 2 = mkF m 0 #[.val (.int x0), .unset] [] := by first | (simp [entryFrame, mkF, argsToLocals, Value.category, maxLocals]; done) | rfl
theorem oef_cjinit (m : MethodId) (x0 : Addr) (x1 : Int64) (x2 : Int32) (x3 : Addr) (x4 : Addr) (x5 : Addr) : entryFrame m #[(.ref x0), (.long x1), (.int x2), (.ref x3), (.ref x4), (.ref x5), .null, .null, .null, .null] 11 = mkF m 0 #[.val (.ref x0), .val (.long x1), .second, .val (.int x2), .val (.ref x3), .val (.ref x4), .val (.ref x5), .val .null, .val .null, .val .null, .val .null] [] := by first | (simp [entryFrame, mkF, argsToLocals, Value.category, maxLocals]; done) | rfl
theorem oef_unclaimed (m : MethodId) (x0 : Int64) (x1 : Int32) (x2 : Addr) (x3 : Addr) (x4 : Addr) : entryFrame m #[(.long x0), (.int x1), (.ref x2), (.ref x3), (.ref x4)] 6 = mkF m 0 #[.val (.long x0), .second, .val (.int x1), .val (.ref x2), .val (.ref x3), .val (.ref x4)] [] := by first | (simp [entryFrame, mkF, argsToLocals, Value.category, maxLocals]; done) | rfl
theorem oef_get_id (m : MethodId) (x0 : Addr) : entryFrame m #[(.ref x0)] 1 = mkF m 0 #[.val (.ref x0)] [] := by first | (simp [entryFrame, mkF, argsToLocals, Value.category, maxLocals]; done) | rfl
theorem oef_get_attempt (m : MethodId) (x0 : Addr) : entryFrame m #[(.ref x0)] 1 = mkF m 0 #[.val (.ref x0)] [] := by first | (simp [entryFrame, mkF, argsToLocals, Value.category, maxLocals]; done) | rfl
theorem oef_get_queue (m : MethodId) (x0 : Addr) : entryFrame m #[(.ref x0)] 1 = mkF m 0 #[.val (.ref x0)] [] := by first | (simp [entryFrame, mkF, argsToLocals, Value.category, maxLocals]; done) | rfl
theorem oef_get_kind (m : MethodId) (x0 : Addr) : entryFrame m #[(.ref x0)] 1 = mkF m 0 #[.val (.ref x0)] [] := by first | (simp [entryFrame, mkF, argsToLocals, Value.category, maxLocals]; done) | rfl
theorem oef_get_payload (m : MethodId) (x0 : Addr) : entryFrame m #[(.ref x0)] 1 = mkF m 0 #[.val (.ref x0)] [] := by first | (simp [entryFrame, mkF, argsToLocals, Value.category, maxLocals]; done) | rfl
theorem oef_get_runAt (m : MethodId) (x0 : Addr) : entryFrame m #[(.ref x0)] 1 = mkF m 0 #[.val (.ref x0)] [] := by first | (simp [entryFrame, mkF, argsToLocals, Value.category, maxLocals]; done) | rfl
theorem oef_law (m : MethodId) (x0 : Int64) (x1 : Int32) (x2 : Int32) (x3 : Int32) (x4 : Int32) : entryFrame m #[(.long x0), (.int x1), (.int x2), (.int x3), (.int x4)] maxLocals = mkF m 0 #[.val (.long x0), .second, .val (.int x1), .val (.int x2), .val (.int x3), .val (.int x4), .unset, .unset, .unset, .unset, .unset] [] := by first | (simp [entryFrame, mkF, argsToLocals, Value.category, maxLocals]; done) | rfl
def Q_draw (Z : State) (p1 : Int32) (G1 : Int32) (h0 : Heap) (n0 : Nat) (v : Option Value) (h : Heap) (L : List Loc) : Prop := ∃ bs : Addr, v = some (.ref bs) ∧ Fr n0 L ∧ Keep h0 h [] ∧ (h0.size ≤ bs)
set_option maxRecDepth 65536 in
set_option maxHeartbeats 40000000 in
theorem rm_draw (l : Launch) (Z : State) (a0 : Array Value) (hw : HW a0 Z) (ws : List Jvm.Cond) (p1 : Int32) (G1 : Int32) (h0 : Heap) (n0 : Nat) (Z0 : n0 ≤ h0.size) (O2 : Sta Z Z.heap "java/lang/String" "COMPACT_STRINGS" "Z" (.int G1)) (P5 : ¬ (G1 = (0 : Int32))) (X00 : Old Z n0 h0) :
    MetFree l (⟨"com/example/spool/spool/ClaimedJobUnclaimedPinLaw", "draw", "(I)Ljava/lang/String;"⟩ : MethodName) (head1 (Jvm.Cond.code (⟨"com/example/spool/spool/ClaimedJobUnclaimedPinLaw", "draw", "(I)Ljava/lang/String;"⟩ : MethodName) method_2_code 2 (Option.some (Jvm.ClassFile.FieldType.object "java/lang/String")) :: ws) ({ frames := 4, cells := 3, slots := 8, locals := 66 } : Room)) (fun a U => a = #[(.int p1)] ∧ Z.Warmed39 U.vm ∧ U.heap = h0) (fun _ _ _ _ _ => True) (fun _ U o U' => Out U (Q_draw Z p1 G1 h0 n0) ({ frames := 4, cells := 3, slots := 8, locals := 66 } : Room).cells ({ frames := 4, cells := 3, slots := 8, locals := 66 } : Room).slots o U') := by
  refine MetFree.of_bodySF (plainFor_of_name opn_0) hisR ?_
  intro p e s m args below meth c s₁ Bd hml0 hP hK
  obtain ⟨rfl, hZ, hh⟩ := hP
  have hx := Bd.exec
  have hby := Bd.bytes
  have hml : c.maxLocals = 2 := hml0
  have hret := Bd.returns
  have hlk : meth.locks = false := BodyLoose.notSynchronized Bd
  have hown : s.vm.findClass "com/example/spool/spool/ClaimedJobUnclaimedPinLaw" = some m.cls := findClass_of_methodNamed Bd.named
  have hnm := (name_of_methodNamed Bd.named Bd.method).1
  have X0 : Stand p l e ({ frames := 4, cells := 3, slots := 8, locals := 66 } : Room) s m #[(.int p1)] below meth c s₁ [] 0 0 := Stand.of_body Bd
  have e0 : s₁.heap = h0 := by rw [← hh, Bd.state]; rfl
  have N0 := Fr.nil n0
  have K0 : Keep h0 h0 [] := Keep.refl h0 _
  show Go p e below (Out s (Q_draw Z p1 G1 h0 n0) ({ frames := 4, cells := 3, slots := 8, locals := 66 } : Room).cells ({ frames := 4, cells := 3, slots := 8, locals := 66 } : Room).slots) s₁ (entryFrame m #[(.int p1)] 2)
  refine Go.cast (oef_draw m p1) ?_
  show Go p e below _ s₁ (mkF m 0 #[.val (.int p1), .unset] [])
  refine Go.by (fun t k => XS.iconst X0.here hx rfl (hb hby od_m_2_0) k) ?_
  show Go p e below _ s₁ (mkF m 1 #[.val (.int p1), .unset] [(.int (2 : Int32))])
  obtain ⟨T101, h101, k101, X101, e101, E101, A101, st101⟩ := newP X0 hx hZ (aty := .char) (ow4 hw) e0 (g := (mkF m 1 #[.val (.int p1), .unset] [(.int (2 : Int32))])) rfl (hb hby od_m_2_1) rfl (by decide) (cap := 2) (by decide) (by decide) (by decide) (by decide)
  obtain ⟨b101, g101⟩ : ∃ z, z = h0.size := ⟨_, rfl⟩
  rw [← g101] at A101 st101
  refine Go.by st101 ?_
  have K102 : Keep h0 h101 [] := K0.ext E101
  have O102 : Old Z n0 h101 := X00.ext E101
  show Go p e below _ T101 (mkF m 3 #[.val (.int p1), .unset] [(.ref b101)])
  have V101 : Arv Z h101 b101 k101 .char (2 : Int32) [(.int (0 : Int32)), (.int (0 : Int32))] (.int (0 : Int32)) := (Arv.new A101 (by decide)).pad (pad_rep [] (.int (0 : Int32)) 2)
  refine Go.by (fun t k => XS.astoreN X101.here hx rfl (hb hby od_m_2_3) rfl rfl (l' := #[.val (.int p1), .val (.ref b101)]) rfl (XS.aloadN X101.here hx rfl (hb hby od_m_2_4) rfl rfl (XS.iconst X101.here hx rfl (hb hby od_m_2_5) (XS.iloadN X101.here hx rfl (hb hby od_m_2_6) rfl k)))) ?_
  show Go p e below _ T101 (mkF m 7 #[.val (.int p1), .val (.ref b101)] [(.int p1), (.int (0 : Int32)), (.ref b101)])
  refine Go.by (fun t k => XS.sipush X101.here hx rfl (hb hby od_m_2_7) (XS.iand X101.here hx rfl (hb hby od_m_2_10) rfl (XS.i2c X101.here hx rfl (hb hby od_m_2_11) rfl k))) ?_
  show Go p e below _ T101 (mkF m 12 #[.val (.int p1), .val (.ref b101)] [(.int ((p1 &&& (255 : Int32)).toUInt32.toUInt16.toUInt32.toInt32)), (.int (0 : Int32)), (.ref b101)])
  obtain ⟨c103, A103, q103, S103, M103, G103, J103⟩ := id V101
  obtain ⟨T103, h103, X103, e103, W103, st103⟩ := stC X101 hx hZ e101 A103 (j := (0 : Int32)) (inb_of S103 ⟨by decide, by decide⟩) (g := (mkF m 12 #[.val (.int p1), .val (.ref b101)] [(.int ((p1 &&& (255 : Int32)).toUInt32.toUInt16.toUInt32.toInt32)), (.int (0 : Int32)), (.ref b101)])) rfl rfl (hb hby od_m_2_12)
  refine Go.by st103 ?_
  have N103 := Fr.snoc X103 N0 (Nat.le_trans (Nat.le_trans Z0 (Nat.le_refl _)) (Nat.le_of_eq g101.symm))
  have K104 : Keep h0 h103 [] := K102.wr W103 (Or.inr (Nat.le_trans (Nat.le_refl _) (Nat.le_of_eq g101.symm)))
  have O104 : Old Z n0 h103 := O102.wr W103 (Nat.le_trans (Nat.le_trans Z0 (Nat.le_refl _)) (Nat.le_of_eq g101.symm))
  show Go p e below _ T103 (mkF m 13 #[.val (.int p1), .val (.ref b101)] [])
  have V103 : Arv Z h103 b101 k101 .char (2 : Int32) ([(.int (nar .char ((p1 &&& (255 : Int32)).toUInt32.toUInt16.toUInt32.toInt32))), (.int (0 : Int32))]) (.int (0 : Int32)) := Arv.set A103 q103 S103 M103 G103 J103 (fits_nar_char _) W103 0 rfl (Nat.le_of_ble_eq_true rfl)
  refine Go.by (fun t k => XS.aloadN X103.here hx rfl (hb hby od_m_2_13) rfl rfl (XS.iconst X103.here hx rfl (hb hby od_m_2_14) (XS.iloadN X103.here hx rfl (hb hby od_m_2_15) rfl (XS.bipush X103.here hx rfl (hb hby od_m_2_16) k)))) ?_
  show Go p e below _ T103 (mkF m 18 #[.val (.int p1), .val (.ref b101)] [(.int (8 : Int32)), (.int p1), (.int (1 : Int32)), (.ref b101)])
  refine Go.by (fun t k => XS.iushr X103.here hx rfl (hb hby od_m_2_18) rfl (XS.sipush X103.here hx rfl (hb hby od_m_2_19) (XS.iand X103.here hx rfl (hb hby od_m_2_22) rfl (XS.i2c X103.here hx rfl (hb hby od_m_2_23) rfl k)))) ?_
  show Go p e below _ T103 (mkF m 24 #[.val (.int p1), .val (.ref b101)] [(.int ((((p1.toUInt32 >>> ((8 : Int32) &&& 31).toUInt32).toInt32) &&& (255 : Int32)).toUInt32.toUInt16.toUInt32.toInt32)), (.int (1 : Int32)), (.ref b101)])
  obtain ⟨c105, A105, q105, S105, M105, G105, J105⟩ := id V103
  obtain ⟨T105, h105, X105, e105, W105, st105⟩ := stC X103 hx hZ e103 A105 (j := (1 : Int32)) (inb_of S105 ⟨by decide, by decide⟩) (g := (mkF m 24 #[.val (.int p1), .val (.ref b101)] [(.int ((((p1.toUInt32 >>> ((8 : Int32) &&& 31).toUInt32).toInt32) &&& (255 : Int32)).toUInt32.toUInt16.toUInt32.toInt32)), (.int (1 : Int32)), (.ref b101)])) rfl rfl (hb hby od_m_2_24)
  refine Go.by st105 ?_
  have N105 := Fr.snoc X105 N103 (Nat.le_trans (Nat.le_trans Z0 (Nat.le_refl _)) (Nat.le_of_eq g101.symm))
  have K106 : Keep h0 h105 [] := K104.wr W105 (Or.inr (Nat.le_trans (Nat.le_refl _) (Nat.le_of_eq g101.symm)))
  have O106 : Old Z n0 h105 := O104.wr W105 (Nat.le_trans (Nat.le_trans Z0 (Nat.le_refl _)) (Nat.le_of_eq g101.symm))
  show Go p e below _ T105 (mkF m 25 #[.val (.int p1), .val (.ref b101)] [])
  have V105 : Arv Z h105 b101 k101 .char (2 : Int32) ([(.int (nar .char ((p1 &&& (255 : Int32)).toUInt32.toUInt16.toUInt32.toInt32))), (.int (nar .char ((((p1.toUInt32 >>> ((8 : Int32) &&& 31).toUInt32).toInt32) &&& (255 : Int32)).toUInt32.toUInt16.toUInt32.toInt32)))]) (.int (0 : Int32)) := Arv.set A105 q105 S105 M105 G105 J105 (fits_nar_char _) W105 1 rfl (Nat.le_of_ble_eq_true rfl)
  obtain ⟨T107, h107, X107, e107, E107, A107, D107, U107, st107⟩ := newO X105 hx hZ hown (ow5 hw) (ow6 hw) (ow7 hw) e105 (g := (mkF m 25 #[.val (.int p1), .val (.ref b101)] [])) rfl (hb hby od_m_2_25) (by decide) (by decide)
  obtain ⟨b107, g107⟩ : ∃ z, z = h105.size := ⟨_, rfl⟩
  rw [← g107] at A107 D107 U107 st107
  refine Go.by st107 ?_
  have K108 : Keep h0 h107 [] := K106.ext E107
  have O108 : Old Z n0 h107 := O106.ext E107
  show Go p e below _ T107 (mkF m 28 #[.val (.int p1), .val (.ref b101)] [(.ref b107)])
  refine Go.by (fun t k => XS.dup X107.here hx rfl (hb hby od_m_2_28) rfl rfl (XS.aloadN X107.here hx rfl (hb hby od_m_2_29) rfl rfl k)) ?_
  show Go p e below _ T107 (mkF m 30 #[.val (.int p1), .val (.ref b101)] [(.ref b101), (.ref b107), (.ref b107)])
  have hp109 : ∀ c ∈ ([(nar .char ((p1 &&& (255 : Int32)).toUInt32.toUInt16.toUInt32.toInt32)), (nar .char ((((p1.toUInt32 >>> ((8 : Int32) &&& 31).toUInt32).toInt32) &&& (255 : Int32)).toUInt32.toUInt16.toUInt32.toInt32))] : List Int32), ¬ c < 0 ∧ ¬ (255 : Int32) < c := by
    intro c hc; simp only [List.mem_cons, List.not_mem_nil, or_false] at hc; rcases hc with rfl | rfl <;> exact chars_lo _
  have hws : ∀ d ∈ StrChars.Road.words, d.before a0 Z = true := fun d hd => hw d ((by decide +kernel : ∀ d ∈ StrChars.Road.words, d ∈ tables_1) d hd)
  have F111 : Arv Z h107 b101 k101 .char (2 : Int32) ([(.int (nar .char ((p1 &&& (255 : Int32)).toUInt32.toUInt16.toUInt32.toInt32))), (.int (nar .char ((((p1.toUInt32 >>> ((8 : Int32) &&& 31).toUInt32).toInt32) &&& (255 : Int32)).toUInt32.toUInt16.toUInt32.toInt32)))]) (.int (0 : Int32)) := (V105.ext E107)
  obtain ⟨_, _, ⟨T110, L110, k110, n110⟩, -, X110, ⟨Lc110, hQ110, l110, y110, z110⟩, st110⟩ := X107.specialBack hx (y := (⟨"java/lang/String", "<init>", "([C)V"⟩ : MethodName)) rfl hown (mvT hZ (ow8 hw)) (mvT hZ (ow9 hw)) (mvT hZ (ow10 hw)) (by decide) (StrChars.Road.backV (W := 1) hZ hws (kI := 4) (ow6 hw) (cs := ([(nar .char ((p1 &&& (255 : Int32)).toUInt32.toUInt16.toUInt32.toInt32)), (nar .char ((((p1.toUInt32 >>> ((8 : Int32) &&& 31).toUInt32).toInt32) &&& (255 : Int32)).toUInt32.toUInt16.toUInt32.toInt32))] : List Int32)) (bs := ([(nar .char ((p1 &&& (255 : Int32)).toUInt32.toUInt16.toUInt32.toInt32)), (nar .char ((((p1.toUInt32 >>> ((8 : Int32) &&& 31).toUInt32).toInt32) &&& (255 : Int32)).toUInt32.toUInt16.toUInt32.toInt32))] : List Int32).map (fun c => c.toInt8.toInt32)) (n := 2) (Nat.le_trans (Nat.le_trans Z0 (Nat.le_trans (Nat.le_trans E101.1 (Keep.of_wr W103).1) (Keep.of_wr W105).1)) (Nat.le_of_eq g107.symm)) (Nat.le_trans Z0 (Nat.le_trans (Nat.le_trans (Nat.le_trans E101.1 (Keep.of_wr W103).1) (Keep.of_wr W105).1) E107.1)) A107 (D107 (Or.inr (ow33 hw)) (ty := (.array .byte)) (by decide)) (D107 (Or.inr (ow31 hw)) (ty := .byte) (by decide)) F111 (O2.ext O108.2) P5 rfl rfl (by decide) (by decide) hp109 rfl (by decide) (by decide)) (g := (mkF m 30 #[.val (.int p1), .val (.ref b101)] [(.ref b101), (.ref b107), (.ref b107)])) rfl (by rw [hml]; rfl) (Steps.refl _) (a := b107) (argsL := [(.ref b101)]) (rest := [(.ref b107)]) (lenOf opd_0 rfl) rfl (by show 2 * 0 + _ ≤ _; exact Nat.le_of_eq rfl) (hb hby od_m_2_30) (fun _ _ => ⟨rfl, e107, (by decide : 2 + 1 ≤ _), (by decide : 6 + 2 ≤ _)⟩)
  dsimp only [Pt.U, Pt.locs, Pt.cells, Pt.slots] at X110 l110 y110 z110 st110 hQ110
  subst l110 y110 z110
  obtain ⟨rfl, N110q, K110q, PE110, PC110, t110, kb110, -, u110, v110, PV110, PA110⟩ := hQ110
  have N110 := Fr.app N105 N110q
  refine Go.tr st110 ?_
  have K112 : Keep h0 T110.heap [] := K108.trans K110q (allS (Or.inr (Nat.le_trans (Nat.le_trans (Nat.le_trans E101.1 (Keep.of_wr W103).1) (Keep.of_wr W105).1) (Nat.le_of_eq g107.symm))) all0)
  have O112 : Old Z n0 T110.heap := O108.keep K110q (allS (Nat.le_trans (Nat.le_trans Z0 (Nat.le_trans (Nat.le_trans E101.1 (Keep.of_wr W103).1) (Keep.of_wr W105).1)) (Nat.le_of_eq g107.symm)) all0)
  show Go p e below _ T110 (mkF m 33 #[.val (.int p1), .val (.ref b101)] [(.ref b107)])
  exact Go.retR X110 hx hret rfl rfl rfl hlk (hb hby od_m_2_33) ⟨b107, rfl, N110, K112, (Nat.le_trans (Nat.le_trans (Nat.le_trans E101.1 (Keep.of_wr W103).1) (Keep.of_wr W105).1) (Nat.le_of_eq g107.symm))⟩ (by decide) (by decide)
def Q_cjinit (Z : State) (a1 : Addr) (q1 : Int64) (p2 : Int32) (a3 : Addr) (a4 : Addr) (a5 : Addr) (h0 : Heap) (n0 : Nat) (v : Option Value) (h : Heap) (L : List Loc) : Prop := v = none ∧ Fr n0 L ∧ Keep h0 h [a1] ∧ (Exa Z h a1 "com/example/spool/spool/ClaimedJob") ∧ (Fld Z h a1 "com/example/spool/spool/ClaimedJob" "id" "J" (.long q1)) ∧ (Fld Z h a1 "com/example/spool/spool/ClaimedJob" "attempt" "I" (.int p2)) ∧ (Fld Z h a1 "com/example/spool/spool/ClaimedJob" "queue" "Ljava/lang/String;" (.ref a3)) ∧ (Fld Z h a1 "com/example/spool/spool/ClaimedJob" "kind" "Ljava/lang/String;" (.ref a4)) ∧ (Fld Z h a1 "com/example/spool/spool/ClaimedJob" "payload" "Ljava/lang/String;" (.ref a5)) ∧ (Fld Z h a1 "com/example/spool/spool/ClaimedJob" "timeout" "Ljava/time/Duration;" .null) ∧ (Fld Z h a1 "com/example/spool/spool/ClaimedJob" "runAt" "Ljava/time/Instant;" .null) ∧ (Fld Z h a1 "com/example/spool/spool/ClaimedJob" "schedule" "Ljava/lang/String;" .null) ∧ (Fld Z h a1 "com/example/spool/spool/ClaimedJob" "slot" "Ljava/time/Instant;" .null)
set_option maxRecDepth 65536 in
set_option maxHeartbeats 40000000 in
theorem rm_cjinit (l : Launch) (Z : State) (a0 : Array Value) (hw : HW a0 Z) (ws : List Jvm.Cond) (a1 : Addr) (q1 : Int64) (p2 : Int32) (a3 : Addr) (a4 : Addr) (a5 : Addr) (h0 : Heap) (n0 : Nat) (Z0 : n0 ≤ h0.size) (E1 : Exa Z h0 a1 "com/example/spool/spool/ClaimedJob") (g_a1 : n0 ≤ a1) (Fid : Fld Z h0 a1 "com/example/spool/spool/ClaimedJob" "id" "J" (.long (0 : Int64))) (Fattempt : Fld Z h0 a1 "com/example/spool/spool/ClaimedJob" "attempt" "I" (.int (0 : Int32))) (Fqueue : Fld Z h0 a1 "com/example/spool/spool/ClaimedJob" "queue" "Ljava/lang/String;" .null) (Fkind : Fld Z h0 a1 "com/example/spool/spool/ClaimedJob" "kind" "Ljava/lang/String;" .null) (Fpayload : Fld Z h0 a1 "com/example/spool/spool/ClaimedJob" "payload" "Ljava/lang/String;" .null) (Ftimeout : Fld Z h0 a1 "com/example/spool/spool/ClaimedJob" "timeout" "Ljava/time/Duration;" .null) (FrunAt : Fld Z h0 a1 "com/example/spool/spool/ClaimedJob" "runAt" "Ljava/time/Instant;" .null) (Fschedule : Fld Z h0 a1 "com/example/spool/spool/ClaimedJob" "schedule" "Ljava/lang/String;" .null) (Fslot : Fld Z h0 a1 "com/example/spool/spool/ClaimedJob" "slot" "Ljava/time/Instant;" .null) :
    MetFree l (⟨"com/example/spool/spool/ClaimedJob", "<init>", "(JILjava/lang/String;Ljava/lang/String;Ljava/lang/String;Ljava/time/Duration;Ljava/time/Instant;Ljava/lang/String;Ljava/time/Instant;)V"⟩ : MethodName) (head1 (Jvm.Cond.code (⟨"com/example/spool/spool/ClaimedJob", "<init>", "(JILjava/lang/String;Ljava/lang/String;Ljava/lang/String;Ljava/time/Duration;Ljava/time/Instant;Ljava/lang/String;Ljava/time/Instant;)V"⟩ : MethodName) prog_2_method_1_code 11 (Option.none : Option Jvm.ClassFile.FieldType) :: ws) ({ frames := 1, cells := 0, slots := 0, locals := 12 } : Room)) (fun a U => a = #[(.ref a1), (.long q1), (.int p2), (.ref a3), (.ref a4), (.ref a5), .null, .null, .null, .null] ∧ Z.Warmed39 U.vm ∧ U.heap = h0) (fun _ _ _ _ _ => True) (fun _ U o U' => Out U (Q_cjinit Z a1 q1 p2 a3 a4 a5 h0 n0) ({ frames := 1, cells := 0, slots := 0, locals := 12 } : Room).cells ({ frames := 1, cells := 0, slots := 0, locals := 12 } : Room).slots o U') := by
  refine MetFree.of_bodySF (plainFor_of_name opn_1) hisR ?_
  intro p e s m args below meth c s₁ Bd hml0 hP hK
  obtain ⟨rfl, hZ, hh⟩ := hP
  have hx := Bd.exec
  have hby := Bd.bytes
  have hml : c.maxLocals = 11 := hml0
  have hret := Bd.returns
  have hlk : meth.locks = false := BodyLoose.notSynchronized Bd
  have hown : s.vm.findClass "com/example/spool/spool/ClaimedJob" = some m.cls := findClass_of_methodNamed Bd.named
  have hnm := (name_of_methodNamed Bd.named Bd.method).1
  have X0 : Stand p l e ({ frames := 1, cells := 0, slots := 0, locals := 12 } : Room) s m #[(.ref a1), (.long q1), (.int p2), (.ref a3), (.ref a4), (.ref a5), .null, .null, .null, .null] below meth c s₁ [] 0 0 := Stand.of_body Bd
  have e0 : s₁.heap = h0 := by rw [← hh, Bd.state]; rfl
  have N0 := Fr.nil n0
  have K0 : Keep h0 h0 [a1] := Keep.refl h0 _
  show Go p e below (Out s (Q_cjinit Z a1 q1 p2 a3 a4 a5 h0 n0) ({ frames := 1, cells := 0, slots := 0, locals := 12 } : Room).cells ({ frames := 1, cells := 0, slots := 0, locals := 12 } : Room).slots) s₁ (entryFrame m #[(.ref a1), (.long q1), (.int p2), (.ref a3), (.ref a4), (.ref a5), .null, .null, .null, .null] 11)
  refine Go.cast (oef_cjinit m a1 q1 p2 a3 a4 a5) ?_
  show Go p e below _ s₁ (mkF m 0 #[.val (.ref a1), .val (.long q1), .second, .val (.int p2), .val (.ref a3), .val (.ref a4), .val (.ref a5), .val .null, .val .null, .val .null, .val .null] [])
  refine Go.by (fun t k => XS.aloadN X0.here hx rfl (hb hby od_prog_2_m_1_0) rfl rfl k) ?_
  show Go p e below _ s₁ (mkF m 1 #[.val (.ref a1), .val (.long q1), .second, .val (.int p2), .val (.ref a3), .val (.ref a4), .val (.ref a5), .val .null, .val .null, .val .null, .val .null] [(.ref a1)])
  obtain ⟨T113, X113, e113, st113⟩ := initO X0 hx hZ hown (ow43 hw) (ow16 hw) (ow17 hw) e0 (g := (mkF m 1 #[.val (.ref a1), .val (.long q1), .second, .val (.int p2), .val (.ref a3), .val (.ref a4), .val (.ref a5), .val .null, .val .null, .val .null, .val .null] [(.ref a1)])) rfl (by rw [hml]; rfl) rfl (hb hby od_prog_2_m_1_1) (by decide) (W := 0) (by show 2 * 0 + _ ≤ _; exact Nat.le_of_eq rfl) (by decide)
  refine Go.by st113 ?_
  show Go p e below _ T113 (mkF m 4 #[.val (.ref a1), .val (.long q1), .second, .val (.int p2), .val (.ref a3), .val (.ref a4), .val (.ref a5), .val .null, .val .null, .val .null, .val .null] [])
  refine Go.by (fun t k => XS.aloadN X113.here hx rfl (hb hby od_prog_2_m_1_4) rfl rfl (XS.lloadN X113.here hx rfl (hb hby od_prog_2_m_1_5) rfl k)) ?_
  show Go p e below _ T113 (mkF m 6 #[.val (.ref a1), .val (.long q1), .second, .val (.int p2), .val (.ref a3), .val (.ref a4), .val (.ref a5), .val .null, .val .null, .val .null, .val .null] [(.long q1), (.ref a1)])
  obtain ⟨T114, h114, X114, e114, W114, st114⟩ := putF X113 hx hZ hown (host := "") (Or.inl (ow44 hw)) Via.refl e113 Fid E1 (Or.inr ⟨(ow45 hw), rfl, hnm⟩) (ow39 hw) (ty := .long) (by decide) rfl rfl (g := (mkF m 6 #[.val (.ref a1), .val (.long q1), .second, .val (.int p2), .val (.ref a3), .val (.ref a4), .val (.ref a5), .val .null, .val .null, .val .null, .val .null] [(.long q1), (.ref a1)])) rfl rfl (hb hby od_prog_2_m_1_6)
  refine Go.by st114 ?_
  have N114 := Fr.snoc X114 N0 g_a1
  have K115 : Keep h0 h114 [a1] := K0.wr W114 (Or.inl (List.mem_of_getElem? (i := 0) rfl))
  show Go p e below _ T114 (mkF m 9 #[.val (.ref a1), .val (.long q1), .second, .val (.int p2), .val (.ref a3), .val (.ref a4), .val (.ref a5), .val .null, .val .null, .val .null, .val .null] [])
  refine Go.by (fun t k => XS.aloadN X114.here hx rfl (hb hby od_prog_2_m_1_9) rfl rfl (XS.iloadN X114.here hx rfl (hb hby od_prog_2_m_1_10) rfl k)) ?_
  show Go p e below _ T114 (mkF m 11 #[.val (.ref a1), .val (.long q1), .second, .val (.int p2), .val (.ref a3), .val (.ref a4), .val (.ref a5), .val .null, .val .null, .val .null, .val .null] [(.int p2), (.ref a1)])
  have F117 : Fld Z h114 a1 "com/example/spool/spool/ClaimedJob" "attempt" "I" (.int (0 : Int32)) := (Fattempt.other W114 (Or.inr (slot_ne (Or.inr (ow47 hw)) (Or.inr (ow45 hw)) (by decide) (t := .int) (t' := .long) (by decide) (by decide))))
  have F118 : Exa Z h114 a1 "com/example/spool/spool/ClaimedJob" := (E1.wr W114)
  obtain ⟨T116, h116, X116, e116, W116, st116⟩ := putF X114 hx hZ hown (host := "") (Or.inl (ow46 hw)) Via.refl e114 F117 F118 (Or.inr ⟨(ow47 hw), rfl, hnm⟩) (ow39 hw) (ty := .int) (by decide) rfl rfl (g := (mkF m 11 #[.val (.ref a1), .val (.long q1), .second, .val (.int p2), .val (.ref a3), .val (.ref a4), .val (.ref a5), .val .null, .val .null, .val .null, .val .null] [(.int p2), (.ref a1)])) rfl rfl (hb hby od_prog_2_m_1_11)
  refine Go.by st116 ?_
  have N116 := Fr.snoc X116 N114 g_a1
  have K119 : Keep h0 h116 [a1] := K115.wr W116 (Or.inl (List.mem_of_getElem? (i := 0) rfl))
  show Go p e below _ T116 (mkF m 14 #[.val (.ref a1), .val (.long q1), .second, .val (.int p2), .val (.ref a3), .val (.ref a4), .val (.ref a5), .val .null, .val .null, .val .null, .val .null] [])
  refine Go.by (fun t k => XS.aloadN X116.here hx rfl (hb hby od_prog_2_m_1_14) rfl rfl (XS.aload X116.here hx rfl (hb hby od_prog_2_m_1_15) rfl rfl k)) ?_
  show Go p e below _ T116 (mkF m 17 #[.val (.ref a1), .val (.long q1), .second, .val (.int p2), .val (.ref a3), .val (.ref a4), .val (.ref a5), .val .null, .val .null, .val .null, .val .null] [(.ref a3), (.ref a1)])
  have F121 : Fld Z h116 a1 "com/example/spool/spool/ClaimedJob" "queue" "Ljava/lang/String;" .null := ((Fqueue.other W114 (Or.inr (slot_ne (Or.inr (ow49 hw)) (Or.inr (ow45 hw)) (by decide) (t := (.object "java/lang/String")) (t' := .long) (by decide) (by decide)))).other W116 (Or.inr (slot_ne (Or.inr (ow49 hw)) (Or.inr (ow47 hw)) (by decide) (t := (.object "java/lang/String")) (t' := .int) (by decide) (by decide))))
  have F122 : Exa Z h116 a1 "com/example/spool/spool/ClaimedJob" := (F118.wr W116)
  obtain ⟨T120, h120, X120, e120, W120, st120⟩ := putF X116 hx hZ hown (host := "") (Or.inl (ow48 hw)) Via.refl e116 F121 F122 (Or.inr ⟨(ow49 hw), rfl, hnm⟩) (ow39 hw) (ty := (.object "java/lang/String")) (by decide) rfl rfl (g := (mkF m 17 #[.val (.ref a1), .val (.long q1), .second, .val (.int p2), .val (.ref a3), .val (.ref a4), .val (.ref a5), .val .null, .val .null, .val .null, .val .null] [(.ref a3), (.ref a1)])) rfl rfl (hb hby od_prog_2_m_1_17)
  refine Go.by st120 ?_
  have N120 := Fr.snoc X120 N116 g_a1
  have K123 : Keep h0 h120 [a1] := K119.wr W120 (Or.inl (List.mem_of_getElem? (i := 0) rfl))
  show Go p e below _ T120 (mkF m 20 #[.val (.ref a1), .val (.long q1), .second, .val (.int p2), .val (.ref a3), .val (.ref a4), .val (.ref a5), .val .null, .val .null, .val .null, .val .null] [])
  refine Go.by (fun t k => XS.aloadN X120.here hx rfl (hb hby od_prog_2_m_1_20) rfl rfl (XS.aload X120.here hx rfl (hb hby od_prog_2_m_1_21) rfl rfl k)) ?_
  show Go p e below _ T120 (mkF m 23 #[.val (.ref a1), .val (.long q1), .second, .val (.int p2), .val (.ref a3), .val (.ref a4), .val (.ref a5), .val .null, .val .null, .val .null, .val .null] [(.ref a4), (.ref a1)])
  have F125 : Fld Z h120 a1 "com/example/spool/spool/ClaimedJob" "kind" "Ljava/lang/String;" .null := (((Fkind.other W114 (Or.inr (slot_ne (Or.inr (ow51 hw)) (Or.inr (ow45 hw)) (by decide) (t := (.object "java/lang/String")) (t' := .long) (by decide) (by decide)))).other W116 (Or.inr (slot_ne (Or.inr (ow51 hw)) (Or.inr (ow47 hw)) (by decide) (t := (.object "java/lang/String")) (t' := .int) (by decide) (by decide)))).other W120 (Or.inr (slot_ne (Or.inr (ow51 hw)) (Or.inr (ow49 hw)) (by decide) (t := (.object "java/lang/String")) (t' := (.object "java/lang/String")) (by decide) (by decide))))
  have F126 : Exa Z h120 a1 "com/example/spool/spool/ClaimedJob" := (F122.wr W120)
  obtain ⟨T124, h124, X124, e124, W124, st124⟩ := putF X120 hx hZ hown (host := "") (Or.inl (ow50 hw)) Via.refl e120 F125 F126 (Or.inr ⟨(ow51 hw), rfl, hnm⟩) (ow39 hw) (ty := (.object "java/lang/String")) (by decide) rfl rfl (g := (mkF m 23 #[.val (.ref a1), .val (.long q1), .second, .val (.int p2), .val (.ref a3), .val (.ref a4), .val (.ref a5), .val .null, .val .null, .val .null, .val .null] [(.ref a4), (.ref a1)])) rfl rfl (hb hby od_prog_2_m_1_23)
  refine Go.by st124 ?_
  have N124 := Fr.snoc X124 N120 g_a1
  have K127 : Keep h0 h124 [a1] := K123.wr W124 (Or.inl (List.mem_of_getElem? (i := 0) rfl))
  show Go p e below _ T124 (mkF m 26 #[.val (.ref a1), .val (.long q1), .second, .val (.int p2), .val (.ref a3), .val (.ref a4), .val (.ref a5), .val .null, .val .null, .val .null, .val .null] [])
  refine Go.by (fun t k => XS.aloadN X124.here hx rfl (hb hby od_prog_2_m_1_26) rfl rfl (XS.aload X124.here hx rfl (hb hby od_prog_2_m_1_27) rfl rfl k)) ?_
  show Go p e below _ T124 (mkF m 29 #[.val (.ref a1), .val (.long q1), .second, .val (.int p2), .val (.ref a3), .val (.ref a4), .val (.ref a5), .val .null, .val .null, .val .null, .val .null] [(.ref a5), (.ref a1)])
  have F129 : Fld Z h124 a1 "com/example/spool/spool/ClaimedJob" "payload" "Ljava/lang/String;" .null := ((((Fpayload.other W114 (Or.inr (slot_ne (Or.inr (ow53 hw)) (Or.inr (ow45 hw)) (by decide) (t := (.object "java/lang/String")) (t' := .long) (by decide) (by decide)))).other W116 (Or.inr (slot_ne (Or.inr (ow53 hw)) (Or.inr (ow47 hw)) (by decide) (t := (.object "java/lang/String")) (t' := .int) (by decide) (by decide)))).other W120 (Or.inr (slot_ne (Or.inr (ow53 hw)) (Or.inr (ow49 hw)) (by decide) (t := (.object "java/lang/String")) (t' := (.object "java/lang/String")) (by decide) (by decide)))).other W124 (Or.inr (slot_ne (Or.inr (ow53 hw)) (Or.inr (ow51 hw)) (by decide) (t := (.object "java/lang/String")) (t' := (.object "java/lang/String")) (by decide) (by decide))))
  have F130 : Exa Z h124 a1 "com/example/spool/spool/ClaimedJob" := (F126.wr W124)
  obtain ⟨T128, h128, X128, e128, W128, st128⟩ := putF X124 hx hZ hown (host := "") (Or.inl (ow52 hw)) Via.refl e124 F129 F130 (Or.inr ⟨(ow53 hw), rfl, hnm⟩) (ow39 hw) (ty := (.object "java/lang/String")) (by decide) rfl rfl (g := (mkF m 29 #[.val (.ref a1), .val (.long q1), .second, .val (.int p2), .val (.ref a3), .val (.ref a4), .val (.ref a5), .val .null, .val .null, .val .null, .val .null] [(.ref a5), (.ref a1)])) rfl rfl (hb hby od_prog_2_m_1_29)
  refine Go.by st128 ?_
  have N128 := Fr.snoc X128 N124 g_a1
  have K131 : Keep h0 h128 [a1] := K127.wr W128 (Or.inl (List.mem_of_getElem? (i := 0) rfl))
  show Go p e below _ T128 (mkF m 32 #[.val (.ref a1), .val (.long q1), .second, .val (.int p2), .val (.ref a3), .val (.ref a4), .val (.ref a5), .val .null, .val .null, .val .null, .val .null] [])
  refine Go.by (fun t k => XS.aloadN X128.here hx rfl (hb hby od_prog_2_m_1_32) rfl rfl (XS.aload X128.here hx rfl (hb hby od_prog_2_m_1_33) rfl rfl k)) ?_
  show Go p e below _ T128 (mkF m 35 #[.val (.ref a1), .val (.long q1), .second, .val (.int p2), .val (.ref a3), .val (.ref a4), .val (.ref a5), .val .null, .val .null, .val .null, .val .null] [.null, (.ref a1)])
  have F133 : Fld Z h128 a1 "com/example/spool/spool/ClaimedJob" "timeout" "Ljava/time/Duration;" .null := (((((Ftimeout.other W114 (Or.inr (slot_ne (Or.inr (ow55 hw)) (Or.inr (ow45 hw)) (by decide) (t := (.object "java/time/Duration")) (t' := .long) (by decide) (by decide)))).other W116 (Or.inr (slot_ne (Or.inr (ow55 hw)) (Or.inr (ow47 hw)) (by decide) (t := (.object "java/time/Duration")) (t' := .int) (by decide) (by decide)))).other W120 (Or.inr (slot_ne (Or.inr (ow55 hw)) (Or.inr (ow49 hw)) (by decide) (t := (.object "java/time/Duration")) (t' := (.object "java/lang/String")) (by decide) (by decide)))).other W124 (Or.inr (slot_ne (Or.inr (ow55 hw)) (Or.inr (ow51 hw)) (by decide) (t := (.object "java/time/Duration")) (t' := (.object "java/lang/String")) (by decide) (by decide)))).other W128 (Or.inr (slot_ne (Or.inr (ow55 hw)) (Or.inr (ow53 hw)) (by decide) (t := (.object "java/time/Duration")) (t' := (.object "java/lang/String")) (by decide) (by decide))))
  have F134 : Exa Z h128 a1 "com/example/spool/spool/ClaimedJob" := (F130.wr W128)
  obtain ⟨T132, h132, X132, e132, W132, st132⟩ := putF X128 hx hZ hown (host := "") (Or.inl (ow54 hw)) Via.refl e128 F133 F134 (Or.inr ⟨(ow55 hw), rfl, hnm⟩) (ow39 hw) (ty := (.object "java/time/Duration")) (by decide) rfl rfl (g := (mkF m 35 #[.val (.ref a1), .val (.long q1), .second, .val (.int p2), .val (.ref a3), .val (.ref a4), .val (.ref a5), .val .null, .val .null, .val .null, .val .null] [.null, (.ref a1)])) rfl rfl (hb hby od_prog_2_m_1_35)
  refine Go.by st132 ?_
  have N132 := Fr.snoc X132 N128 g_a1
  have K135 : Keep h0 h132 [a1] := K131.wr W132 (Or.inl (List.mem_of_getElem? (i := 0) rfl))
  show Go p e below _ T132 (mkF m 38 #[.val (.ref a1), .val (.long q1), .second, .val (.int p2), .val (.ref a3), .val (.ref a4), .val (.ref a5), .val .null, .val .null, .val .null, .val .null] [])
  refine Go.by (fun t k => XS.aloadN X132.here hx rfl (hb hby od_prog_2_m_1_38) rfl rfl (XS.aload X132.here hx rfl (hb hby od_prog_2_m_1_39) rfl rfl k)) ?_
  show Go p e below _ T132 (mkF m 41 #[.val (.ref a1), .val (.long q1), .second, .val (.int p2), .val (.ref a3), .val (.ref a4), .val (.ref a5), .val .null, .val .null, .val .null, .val .null] [.null, (.ref a1)])
  have F137 : Fld Z h132 a1 "com/example/spool/spool/ClaimedJob" "runAt" "Ljava/time/Instant;" .null := ((((((FrunAt.other W114 (Or.inr (slot_ne (Or.inr (ow57 hw)) (Or.inr (ow45 hw)) (by decide) (t := (.object "java/time/Instant")) (t' := .long) (by decide) (by decide)))).other W116 (Or.inr (slot_ne (Or.inr (ow57 hw)) (Or.inr (ow47 hw)) (by decide) (t := (.object "java/time/Instant")) (t' := .int) (by decide) (by decide)))).other W120 (Or.inr (slot_ne (Or.inr (ow57 hw)) (Or.inr (ow49 hw)) (by decide) (t := (.object "java/time/Instant")) (t' := (.object "java/lang/String")) (by decide) (by decide)))).other W124 (Or.inr (slot_ne (Or.inr (ow57 hw)) (Or.inr (ow51 hw)) (by decide) (t := (.object "java/time/Instant")) (t' := (.object "java/lang/String")) (by decide) (by decide)))).other W128 (Or.inr (slot_ne (Or.inr (ow57 hw)) (Or.inr (ow53 hw)) (by decide) (t := (.object "java/time/Instant")) (t' := (.object "java/lang/String")) (by decide) (by decide)))).other W132 (Or.inr (slot_ne (Or.inr (ow57 hw)) (Or.inr (ow55 hw)) (by decide) (t := (.object "java/time/Instant")) (t' := (.object "java/time/Duration")) (by decide) (by decide))))
  have F138 : Exa Z h132 a1 "com/example/spool/spool/ClaimedJob" := (F134.wr W132)
  obtain ⟨T136, h136, X136, e136, W136, st136⟩ := putF X132 hx hZ hown (host := "") (Or.inl (ow56 hw)) Via.refl e132 F137 F138 (Or.inr ⟨(ow57 hw), rfl, hnm⟩) (ow39 hw) (ty := (.object "java/time/Instant")) (by decide) rfl rfl (g := (mkF m 41 #[.val (.ref a1), .val (.long q1), .second, .val (.int p2), .val (.ref a3), .val (.ref a4), .val (.ref a5), .val .null, .val .null, .val .null, .val .null] [.null, (.ref a1)])) rfl rfl (hb hby od_prog_2_m_1_41)
  refine Go.by st136 ?_
  have N136 := Fr.snoc X136 N132 g_a1
  have K139 : Keep h0 h136 [a1] := K135.wr W136 (Or.inl (List.mem_of_getElem? (i := 0) rfl))
  show Go p e below _ T136 (mkF m 44 #[.val (.ref a1), .val (.long q1), .second, .val (.int p2), .val (.ref a3), .val (.ref a4), .val (.ref a5), .val .null, .val .null, .val .null, .val .null] [])
  refine Go.by (fun t k => XS.aloadN X136.here hx rfl (hb hby od_prog_2_m_1_44) rfl rfl (XS.aload X136.here hx rfl (hb hby od_prog_2_m_1_45) rfl rfl k)) ?_
  show Go p e below _ T136 (mkF m 47 #[.val (.ref a1), .val (.long q1), .second, .val (.int p2), .val (.ref a3), .val (.ref a4), .val (.ref a5), .val .null, .val .null, .val .null, .val .null] [.null, (.ref a1)])
  have F141 : Fld Z h136 a1 "com/example/spool/spool/ClaimedJob" "schedule" "Ljava/lang/String;" .null := (((((((Fschedule.other W114 (Or.inr (slot_ne (Or.inr (ow59 hw)) (Or.inr (ow45 hw)) (by decide) (t := (.object "java/lang/String")) (t' := .long) (by decide) (by decide)))).other W116 (Or.inr (slot_ne (Or.inr (ow59 hw)) (Or.inr (ow47 hw)) (by decide) (t := (.object "java/lang/String")) (t' := .int) (by decide) (by decide)))).other W120 (Or.inr (slot_ne (Or.inr (ow59 hw)) (Or.inr (ow49 hw)) (by decide) (t := (.object "java/lang/String")) (t' := (.object "java/lang/String")) (by decide) (by decide)))).other W124 (Or.inr (slot_ne (Or.inr (ow59 hw)) (Or.inr (ow51 hw)) (by decide) (t := (.object "java/lang/String")) (t' := (.object "java/lang/String")) (by decide) (by decide)))).other W128 (Or.inr (slot_ne (Or.inr (ow59 hw)) (Or.inr (ow53 hw)) (by decide) (t := (.object "java/lang/String")) (t' := (.object "java/lang/String")) (by decide) (by decide)))).other W132 (Or.inr (slot_ne (Or.inr (ow59 hw)) (Or.inr (ow55 hw)) (by decide) (t := (.object "java/lang/String")) (t' := (.object "java/time/Duration")) (by decide) (by decide)))).other W136 (Or.inr (slot_ne (Or.inr (ow59 hw)) (Or.inr (ow57 hw)) (by decide) (t := (.object "java/lang/String")) (t' := (.object "java/time/Instant")) (by decide) (by decide))))
  have F142 : Exa Z h136 a1 "com/example/spool/spool/ClaimedJob" := (F138.wr W136)
  obtain ⟨T140, h140, X140, e140, W140, st140⟩ := putF X136 hx hZ hown (host := "") (Or.inl (ow58 hw)) Via.refl e136 F141 F142 (Or.inr ⟨(ow59 hw), rfl, hnm⟩) (ow39 hw) (ty := (.object "java/lang/String")) (by decide) rfl rfl (g := (mkF m 47 #[.val (.ref a1), .val (.long q1), .second, .val (.int p2), .val (.ref a3), .val (.ref a4), .val (.ref a5), .val .null, .val .null, .val .null, .val .null] [.null, (.ref a1)])) rfl rfl (hb hby od_prog_2_m_1_47)
  refine Go.by st140 ?_
  have N140 := Fr.snoc X140 N136 g_a1
  have K143 : Keep h0 h140 [a1] := K139.wr W140 (Or.inl (List.mem_of_getElem? (i := 0) rfl))
  show Go p e below _ T140 (mkF m 50 #[.val (.ref a1), .val (.long q1), .second, .val (.int p2), .val (.ref a3), .val (.ref a4), .val (.ref a5), .val .null, .val .null, .val .null, .val .null] [])
  refine Go.by (fun t k => XS.aloadN X140.here hx rfl (hb hby od_prog_2_m_1_50) rfl rfl (XS.aload X140.here hx rfl (hb hby od_prog_2_m_1_51) rfl rfl k)) ?_
  show Go p e below _ T140 (mkF m 53 #[.val (.ref a1), .val (.long q1), .second, .val (.int p2), .val (.ref a3), .val (.ref a4), .val (.ref a5), .val .null, .val .null, .val .null, .val .null] [.null, (.ref a1)])
  have F145 : Fld Z h140 a1 "com/example/spool/spool/ClaimedJob" "slot" "Ljava/time/Instant;" .null := ((((((((Fslot.other W114 (Or.inr (slot_ne (Or.inr (ow61 hw)) (Or.inr (ow45 hw)) (by decide) (t := (.object "java/time/Instant")) (t' := .long) (by decide) (by decide)))).other W116 (Or.inr (slot_ne (Or.inr (ow61 hw)) (Or.inr (ow47 hw)) (by decide) (t := (.object "java/time/Instant")) (t' := .int) (by decide) (by decide)))).other W120 (Or.inr (slot_ne (Or.inr (ow61 hw)) (Or.inr (ow49 hw)) (by decide) (t := (.object "java/time/Instant")) (t' := (.object "java/lang/String")) (by decide) (by decide)))).other W124 (Or.inr (slot_ne (Or.inr (ow61 hw)) (Or.inr (ow51 hw)) (by decide) (t := (.object "java/time/Instant")) (t' := (.object "java/lang/String")) (by decide) (by decide)))).other W128 (Or.inr (slot_ne (Or.inr (ow61 hw)) (Or.inr (ow53 hw)) (by decide) (t := (.object "java/time/Instant")) (t' := (.object "java/lang/String")) (by decide) (by decide)))).other W132 (Or.inr (slot_ne (Or.inr (ow61 hw)) (Or.inr (ow55 hw)) (by decide) (t := (.object "java/time/Instant")) (t' := (.object "java/time/Duration")) (by decide) (by decide)))).other W136 (Or.inr (slot_ne (Or.inr (ow61 hw)) (Or.inr (ow57 hw)) (by decide) (t := (.object "java/time/Instant")) (t' := (.object "java/time/Instant")) (by decide) (by decide)))).other W140 (Or.inr (slot_ne (Or.inr (ow61 hw)) (Or.inr (ow59 hw)) (by decide) (t := (.object "java/time/Instant")) (t' := (.object "java/lang/String")) (by decide) (by decide))))
  have F146 : Exa Z h140 a1 "com/example/spool/spool/ClaimedJob" := (F142.wr W140)
  obtain ⟨T144, h144, X144, e144, W144, st144⟩ := putF X140 hx hZ hown (host := "") (Or.inl (ow60 hw)) Via.refl e140 F145 F146 (Or.inr ⟨(ow61 hw), rfl, hnm⟩) (ow39 hw) (ty := (.object "java/time/Instant")) (by decide) rfl rfl (g := (mkF m 53 #[.val (.ref a1), .val (.long q1), .second, .val (.int p2), .val (.ref a3), .val (.ref a4), .val (.ref a5), .val .null, .val .null, .val .null, .val .null] [.null, (.ref a1)])) rfl rfl (hb hby od_prog_2_m_1_53)
  refine Go.by st144 ?_
  have N144 := Fr.snoc X144 N140 g_a1
  have K147 : Keep h0 h144 [a1] := K143.wr W144 (Or.inl (List.mem_of_getElem? (i := 0) rfl))
  show Go p e below _ T144 (mkF m 56 #[.val (.ref a1), .val (.long q1), .second, .val (.int p2), .val (.ref a3), .val (.ref a4), .val (.ref a5), .val .null, .val .null, .val .null, .val .null] [])
  have F148 : Exa Z h144 a1 "com/example/spool/spool/ClaimedJob" := (F146.wr W144)
  have F149 : Fld Z h144 a1 "com/example/spool/spool/ClaimedJob" "id" "J" (.long q1) := (((((((((Fid.same W114).other W116 (Or.inr (slot_ne (Or.inr (ow45 hw)) (Or.inr (ow47 hw)) (by decide) (t := .long) (t' := .int) (by decide) (by decide)))).other W120 (Or.inr (slot_ne (Or.inr (ow45 hw)) (Or.inr (ow49 hw)) (by decide) (t := .long) (t' := (.object "java/lang/String")) (by decide) (by decide)))).other W124 (Or.inr (slot_ne (Or.inr (ow45 hw)) (Or.inr (ow51 hw)) (by decide) (t := .long) (t' := (.object "java/lang/String")) (by decide) (by decide)))).other W128 (Or.inr (slot_ne (Or.inr (ow45 hw)) (Or.inr (ow53 hw)) (by decide) (t := .long) (t' := (.object "java/lang/String")) (by decide) (by decide)))).other W132 (Or.inr (slot_ne (Or.inr (ow45 hw)) (Or.inr (ow55 hw)) (by decide) (t := .long) (t' := (.object "java/time/Duration")) (by decide) (by decide)))).other W136 (Or.inr (slot_ne (Or.inr (ow45 hw)) (Or.inr (ow57 hw)) (by decide) (t := .long) (t' := (.object "java/time/Instant")) (by decide) (by decide)))).other W140 (Or.inr (slot_ne (Or.inr (ow45 hw)) (Or.inr (ow59 hw)) (by decide) (t := .long) (t' := (.object "java/lang/String")) (by decide) (by decide)))).other W144 (Or.inr (slot_ne (Or.inr (ow45 hw)) (Or.inr (ow61 hw)) (by decide) (t := .long) (t' := (.object "java/time/Instant")) (by decide) (by decide))))
  have F150 : Fld Z h144 a1 "com/example/spool/spool/ClaimedJob" "attempt" "I" (.int p2) := ((((((((F117.same W116).other W120 (Or.inr (slot_ne (Or.inr (ow47 hw)) (Or.inr (ow49 hw)) (by decide) (t := .int) (t' := (.object "java/lang/String")) (by decide) (by decide)))).other W124 (Or.inr (slot_ne (Or.inr (ow47 hw)) (Or.inr (ow51 hw)) (by decide) (t := .int) (t' := (.object "java/lang/String")) (by decide) (by decide)))).other W128 (Or.inr (slot_ne (Or.inr (ow47 hw)) (Or.inr (ow53 hw)) (by decide) (t := .int) (t' := (.object "java/lang/String")) (by decide) (by decide)))).other W132 (Or.inr (slot_ne (Or.inr (ow47 hw)) (Or.inr (ow55 hw)) (by decide) (t := .int) (t' := (.object "java/time/Duration")) (by decide) (by decide)))).other W136 (Or.inr (slot_ne (Or.inr (ow47 hw)) (Or.inr (ow57 hw)) (by decide) (t := .int) (t' := (.object "java/time/Instant")) (by decide) (by decide)))).other W140 (Or.inr (slot_ne (Or.inr (ow47 hw)) (Or.inr (ow59 hw)) (by decide) (t := .int) (t' := (.object "java/lang/String")) (by decide) (by decide)))).other W144 (Or.inr (slot_ne (Or.inr (ow47 hw)) (Or.inr (ow61 hw)) (by decide) (t := .int) (t' := (.object "java/time/Instant")) (by decide) (by decide))))
  have F151 : Fld Z h144 a1 "com/example/spool/spool/ClaimedJob" "queue" "Ljava/lang/String;" (.ref a3) := (((((((F121.same W120).other W124 (Or.inr (slot_ne (Or.inr (ow49 hw)) (Or.inr (ow51 hw)) (by decide) (t := (.object "java/lang/String")) (t' := (.object "java/lang/String")) (by decide) (by decide)))).other W128 (Or.inr (slot_ne (Or.inr (ow49 hw)) (Or.inr (ow53 hw)) (by decide) (t := (.object "java/lang/String")) (t' := (.object "java/lang/String")) (by decide) (by decide)))).other W132 (Or.inr (slot_ne (Or.inr (ow49 hw)) (Or.inr (ow55 hw)) (by decide) (t := (.object "java/lang/String")) (t' := (.object "java/time/Duration")) (by decide) (by decide)))).other W136 (Or.inr (slot_ne (Or.inr (ow49 hw)) (Or.inr (ow57 hw)) (by decide) (t := (.object "java/lang/String")) (t' := (.object "java/time/Instant")) (by decide) (by decide)))).other W140 (Or.inr (slot_ne (Or.inr (ow49 hw)) (Or.inr (ow59 hw)) (by decide) (t := (.object "java/lang/String")) (t' := (.object "java/lang/String")) (by decide) (by decide)))).other W144 (Or.inr (slot_ne (Or.inr (ow49 hw)) (Or.inr (ow61 hw)) (by decide) (t := (.object "java/lang/String")) (t' := (.object "java/time/Instant")) (by decide) (by decide))))
  have F152 : Fld Z h144 a1 "com/example/spool/spool/ClaimedJob" "kind" "Ljava/lang/String;" (.ref a4) := ((((((F125.same W124).other W128 (Or.inr (slot_ne (Or.inr (ow51 hw)) (Or.inr (ow53 hw)) (by decide) (t := (.object "java/lang/String")) (t' := (.object "java/lang/String")) (by decide) (by decide)))).other W132 (Or.inr (slot_ne (Or.inr (ow51 hw)) (Or.inr (ow55 hw)) (by decide) (t := (.object "java/lang/String")) (t' := (.object "java/time/Duration")) (by decide) (by decide)))).other W136 (Or.inr (slot_ne (Or.inr (ow51 hw)) (Or.inr (ow57 hw)) (by decide) (t := (.object "java/lang/String")) (t' := (.object "java/time/Instant")) (by decide) (by decide)))).other W140 (Or.inr (slot_ne (Or.inr (ow51 hw)) (Or.inr (ow59 hw)) (by decide) (t := (.object "java/lang/String")) (t' := (.object "java/lang/String")) (by decide) (by decide)))).other W144 (Or.inr (slot_ne (Or.inr (ow51 hw)) (Or.inr (ow61 hw)) (by decide) (t := (.object "java/lang/String")) (t' := (.object "java/time/Instant")) (by decide) (by decide))))
  have F153 : Fld Z h144 a1 "com/example/spool/spool/ClaimedJob" "payload" "Ljava/lang/String;" (.ref a5) := (((((F129.same W128).other W132 (Or.inr (slot_ne (Or.inr (ow53 hw)) (Or.inr (ow55 hw)) (by decide) (t := (.object "java/lang/String")) (t' := (.object "java/time/Duration")) (by decide) (by decide)))).other W136 (Or.inr (slot_ne (Or.inr (ow53 hw)) (Or.inr (ow57 hw)) (by decide) (t := (.object "java/lang/String")) (t' := (.object "java/time/Instant")) (by decide) (by decide)))).other W140 (Or.inr (slot_ne (Or.inr (ow53 hw)) (Or.inr (ow59 hw)) (by decide) (t := (.object "java/lang/String")) (t' := (.object "java/lang/String")) (by decide) (by decide)))).other W144 (Or.inr (slot_ne (Or.inr (ow53 hw)) (Or.inr (ow61 hw)) (by decide) (t := (.object "java/lang/String")) (t' := (.object "java/time/Instant")) (by decide) (by decide))))
  have F154 : Fld Z h144 a1 "com/example/spool/spool/ClaimedJob" "timeout" "Ljava/time/Duration;" .null := ((((F133.same W132).other W136 (Or.inr (slot_ne (Or.inr (ow55 hw)) (Or.inr (ow57 hw)) (by decide) (t := (.object "java/time/Duration")) (t' := (.object "java/time/Instant")) (by decide) (by decide)))).other W140 (Or.inr (slot_ne (Or.inr (ow55 hw)) (Or.inr (ow59 hw)) (by decide) (t := (.object "java/time/Duration")) (t' := (.object "java/lang/String")) (by decide) (by decide)))).other W144 (Or.inr (slot_ne (Or.inr (ow55 hw)) (Or.inr (ow61 hw)) (by decide) (t := (.object "java/time/Duration")) (t' := (.object "java/time/Instant")) (by decide) (by decide))))
  have F155 : Fld Z h144 a1 "com/example/spool/spool/ClaimedJob" "runAt" "Ljava/time/Instant;" .null := (((F137.same W136).other W140 (Or.inr (slot_ne (Or.inr (ow57 hw)) (Or.inr (ow59 hw)) (by decide) (t := (.object "java/time/Instant")) (t' := (.object "java/lang/String")) (by decide) (by decide)))).other W144 (Or.inr (slot_ne (Or.inr (ow57 hw)) (Or.inr (ow61 hw)) (by decide) (t := (.object "java/time/Instant")) (t' := (.object "java/time/Instant")) (by decide) (by decide))))
  have F156 : Fld Z h144 a1 "com/example/spool/spool/ClaimedJob" "schedule" "Ljava/lang/String;" .null := ((F141.same W140).other W144 (Or.inr (slot_ne (Or.inr (ow59 hw)) (Or.inr (ow61 hw)) (by decide) (t := (.object "java/lang/String")) (t' := (.object "java/time/Instant")) (by decide) (by decide))))
  exact Go.ret0 X144 hx hret hlk (hb hby od_prog_2_m_1_56) (by first | (rw [e144]; exact ⟨rfl, N144, K147, F148, F149, F150, F151, F152, F153, F154, F155, F156, (F145.same W144)⟩) | exact ⟨rfl, N144, K147, F148, F149, F150, F151, F152, F153, F154, F155, F156, (F145.same W144)⟩) (by decide) (by decide)
def Q_unclaimed (Z : State) (q1 : Int64) (p2 : Int32) (a3 : Addr) (a4 : Addr) (a5 : Addr) (h0 : Heap) (n0 : Nat) (v : Option Value) (h : Heap) (L : List Loc) : Prop := ∃ bj : Addr, v = some (.ref bj) ∧ Fr n0 L ∧ Keep h0 h [] ∧ (h0.size ≤ bj) ∧ (Exa Z h bj "com/example/spool/spool/ClaimedJob") ∧ (Fld Z h bj "com/example/spool/spool/ClaimedJob" "id" "J" (.long q1)) ∧ (Fld Z h bj "com/example/spool/spool/ClaimedJob" "attempt" "I" (.int p2)) ∧ (Fld Z h bj "com/example/spool/spool/ClaimedJob" "queue" "Ljava/lang/String;" (.ref a3)) ∧ (Fld Z h bj "com/example/spool/spool/ClaimedJob" "kind" "Ljava/lang/String;" (.ref a4)) ∧ (Fld Z h bj "com/example/spool/spool/ClaimedJob" "payload" "Ljava/lang/String;" (.ref a5)) ∧ (Fld Z h bj "com/example/spool/spool/ClaimedJob" "timeout" "Ljava/time/Duration;" .null) ∧ (Fld Z h bj "com/example/spool/spool/ClaimedJob" "runAt" "Ljava/time/Instant;" .null) ∧ (Fld Z h bj "com/example/spool/spool/ClaimedJob" "schedule" "Ljava/lang/String;" .null) ∧ (Fld Z h bj "com/example/spool/spool/ClaimedJob" "slot" "Ljava/time/Instant;" .null)
set_option maxRecDepth 65536 in
set_option maxHeartbeats 40000000 in
theorem rm_unclaimed (l : Launch) (Z : State) (a0 : Array Value) (hw : HW a0 Z) (ws : List Jvm.Cond) (q1 : Int64) (p2 : Int32) (a3 : Addr) (a4 : Addr) (a5 : Addr) (h0 : Heap) (n0 : Nat) (Z0 : n0 ≤ h0.size)  :
    MetFree l (⟨"com/example/spool/spool/ClaimedJob", "unclaimed", "(JILjava/lang/String;Ljava/lang/String;Ljava/lang/String;)Lcom/example/spool/spool/ClaimedJob;"⟩ : MethodName) (head1 (Jvm.Cond.code (⟨"com/example/spool/spool/ClaimedJob", "unclaimed", "(JILjava/lang/String;Ljava/lang/String;Ljava/lang/String;)Lcom/example/spool/spool/ClaimedJob;"⟩ : MethodName) prog_2_method_2_code 6 (Option.some (Jvm.ClassFile.FieldType.object "com/example/spool/spool/ClaimedJob")) :: ws) ({ frames := 2, cells := 1, slots := 10, locals := 35 } : Room)) (fun a U => a = #[(.long q1), (.int p2), (.ref a3), (.ref a4), (.ref a5)] ∧ Z.Warmed39 U.vm ∧ U.heap = h0) (fun _ _ _ _ _ => True) (fun _ U o U' => Out U (Q_unclaimed Z q1 p2 a3 a4 a5 h0 n0) ({ frames := 2, cells := 1, slots := 10, locals := 35 } : Room).cells ({ frames := 2, cells := 1, slots := 10, locals := 35 } : Room).slots o U') := by
  refine MetFree.of_bodySF (plainFor_of_name opn_1) hisR ?_
  intro p e s m args below meth c s₁ Bd hml0 hP hK
  obtain ⟨rfl, hZ, hh⟩ := hP
  have hx := Bd.exec
  have hby := Bd.bytes
  have hml : c.maxLocals = 6 := hml0
  have hret := Bd.returns
  have hlk : meth.locks = false := BodyLoose.notSynchronized Bd
  have hown : s.vm.findClass "com/example/spool/spool/ClaimedJob" = some m.cls := findClass_of_methodNamed Bd.named
  have hnm := (name_of_methodNamed Bd.named Bd.method).1
  have X0 : Stand p l e ({ frames := 2, cells := 1, slots := 10, locals := 35 } : Room) s m #[(.long q1), (.int p2), (.ref a3), (.ref a4), (.ref a5)] below meth c s₁ [] 0 0 := Stand.of_body Bd
  have e0 : s₁.heap = h0 := by rw [← hh, Bd.state]; rfl
  have N0 := Fr.nil n0
  have K0 : Keep h0 h0 [] := Keep.refl h0 _
  show Go p e below (Out s (Q_unclaimed Z q1 p2 a3 a4 a5 h0 n0) ({ frames := 2, cells := 1, slots := 10, locals := 35 } : Room).cells ({ frames := 2, cells := 1, slots := 10, locals := 35 } : Room).slots) s₁ (entryFrame m #[(.long q1), (.int p2), (.ref a3), (.ref a4), (.ref a5)] 6)
  refine Go.cast (oef_unclaimed m q1 p2 a3 a4 a5) ?_
  show Go p e below _ s₁ (mkF m 0 #[.val (.long q1), .second, .val (.int p2), .val (.ref a3), .val (.ref a4), .val (.ref a5)] [])
  obtain ⟨T157, h157, X157, e157, E157, A157, D157, U157, st157⟩ := newO X0 hx hZ hown (ow38 hw) (ow39 hw) (ow36 hw) e0 (g := (mkF m 0 #[.val (.long q1), .second, .val (.int p2), .val (.ref a3), .val (.ref a4), .val (.ref a5)] [])) rfl (hb hby od_prog_2_m_2_0) (by decide) (by decide)
  obtain ⟨b157, g157⟩ : ∃ z, z = h0.size := ⟨_, rfl⟩
  rw [← g157] at A157 D157 U157 st157
  refine Go.by st157 ?_
  have K158 : Keep h0 h157 [] := K0.ext E157
  show Go p e below _ T157 (mkF m 3 #[.val (.long q1), .second, .val (.int p2), .val (.ref a3), .val (.ref a4), .val (.ref a5)] [(.ref b157)])
  refine Go.by (fun t k => XS.dup X157.here hx rfl (hb hby od_prog_2_m_2_3) rfl rfl (XS.lloadN X157.here hx rfl (hb hby od_prog_2_m_2_4) rfl (XS.iloadN X157.here hx rfl (hb hby od_prog_2_m_2_5) rfl (XS.aloadN X157.here hx rfl (hb hby od_prog_2_m_2_6) rfl rfl k)))) ?_
  show Go p e below _ T157 (mkF m 7 #[.val (.long q1), .second, .val (.int p2), .val (.ref a3), .val (.ref a4), .val (.ref a5)] [(.ref a3), (.int p2), (.long q1), (.ref b157), (.ref b157)])
  refine Go.by (fun t k => XS.aload X157.here hx rfl (hb hby od_prog_2_m_2_7) rfl rfl (XS.aload X157.here hx rfl (hb hby od_prog_2_m_2_9) rfl rfl (XS.aconstNull X157.here hx rfl (hb hby od_prog_2_m_2_11) (XS.aconstNull X157.here hx rfl (hb hby od_prog_2_m_2_12) k)))) ?_
  show Go p e below _ T157 (mkF m 13 #[.val (.long q1), .second, .val (.int p2), .val (.ref a3), .val (.ref a4), .val (.ref a5)] [.null, .null, (.ref a5), (.ref a4), (.ref a3), (.int p2), (.long q1), (.ref b157), (.ref b157)])
  refine Go.by (fun t k => XS.aconstNull X157.here hx rfl (hb hby od_prog_2_m_2_13) (XS.aconstNull X157.here hx rfl (hb hby od_prog_2_m_2_14) k)) ?_
  show Go p e below _ T157 (mkF m 15 #[.val (.long q1), .second, .val (.int p2), .val (.ref a3), .val (.ref a4), .val (.ref a5)] [.null, .null, .null, .null, (.ref a5), (.ref a4), (.ref a3), (.int p2), (.long q1), (.ref b157), (.ref b157)])
  obtain ⟨_, _, ⟨T159, L159, k159, n159⟩, -, X159, ⟨Lc159, hQ159, l159, y159, z159⟩, st159⟩ := X157.specialBack hx (y := (⟨"com/example/spool/spool/ClaimedJob", "<init>", "(JILjava/lang/String;Ljava/lang/String;Ljava/lang/String;Ljava/time/Duration;Ljava/time/Instant;Ljava/lang/String;Ljava/time/Instant;)V"⟩ : MethodName)) rfl hown (mvT hZ (ow40 hw)) (mvT hZ (ow41 hw)) (mvT hZ (ow42 hw)) (by decide) (backOf (W := 1) (rm_cjinit l Z a0 hw [] b157 q1 p2 a3 a4 a5 h157 n0 (Nat.le_trans Z0 E157.1) A157 ((Nat.le_trans (Nat.le_trans Z0 (Nat.le_refl _)) (Nat.le_of_eq g157.symm))) (D157 (Or.inr (ow45 hw)) (ty := .long) (by decide)) (D157 (Or.inr (ow47 hw)) (ty := .int) (by decide)) (D157 (Or.inr (ow49 hw)) (ty := (.object "java/lang/String")) (by decide)) (D157 (Or.inr (ow51 hw)) (ty := (.object "java/lang/String")) (by decide)) (D157 (Or.inr (ow53 hw)) (ty := (.object "java/lang/String")) (by decide)) (D157 (Or.inr (ow55 hw)) (ty := (.object "java/time/Duration")) (by decide)) (D157 (Or.inr (ow57 hw)) (ty := (.object "java/time/Instant")) (by decide)) (D157 (Or.inr (ow59 hw)) (ty := (.object "java/lang/String")) (by decide)) (D157 (Or.inr (ow61 hw)) (ty := (.object "java/time/Instant")) (by decide))) hZ (ow42 hw) (ow36 hw) (by decide) (by decide)) (g := (mkF m 15 #[.val (.long q1), .second, .val (.int p2), .val (.ref a3), .val (.ref a4), .val (.ref a5)] [.null, .null, .null, .null, (.ref a5), (.ref a4), (.ref a3), (.int p2), (.long q1), (.ref b157), (.ref b157)])) rfl (by rw [hml]; rfl) (Steps.refl _) (a := b157) (argsL := [(.long q1), (.int p2), (.ref a3), (.ref a4), (.ref a5), .null, .null, .null, .null]) (rest := [(.ref b157)]) (lenOf opd_1 rfl) rfl (by show 2 * 0 + _ ≤ _; exact Nat.le_of_eq rfl) (hb hby od_prog_2_m_2_15) (fun _ _ => ⟨rfl, e157, (by decide : 1 + 0 ≤ _), (by decide : 10 + 0 ≤ _)⟩)
  dsimp only [Pt.U, Pt.locs, Pt.cells, Pt.slots] at X159 l159 y159 z159 st159 hQ159
  subst l159 y159 z159
  obtain ⟨rfl, N159q, K159q, P159_0, P159_1, P159_2, P159_3, P159_4, P159_5, P159_6, P159_7, P159_8, P159_9⟩ := hQ159
  have N159 := Fr.app N0 N159q
  refine Go.tr st159 ?_
  have K160 : Keep h0 T159.heap [] := K158.trans K159q (allS (Or.inr (Nat.le_trans (Nat.le_refl _) (Nat.le_of_eq g157.symm))) all0)
  show Go p e below _ T159 (mkF m 18 #[.val (.long q1), .second, .val (.int p2), .val (.ref a3), .val (.ref a4), .val (.ref a5)] [(.ref b157)])
  exact Go.retR X159 hx hret rfl rfl rfl hlk (hb hby od_prog_2_m_2_18) ⟨b157, rfl, N159, K160, (Nat.le_trans (Nat.le_refl _) (Nat.le_of_eq g157.symm)), P159_0, P159_1, P159_2, P159_3, P159_4, P159_5, P159_6, P159_7, P159_8, P159_9⟩ (by decide) (by decide)
def Q_get_id (Z : State) (a1 : Addr) (v1 : Int64) (h0 : Heap) (n0 : Nat) (v : Option Value) (h : Heap) (L : List Loc) : Prop := v = some (.long v1) ∧ Fr n0 L ∧ h = h0
set_option maxRecDepth 65536 in
set_option maxHeartbeats 40000000 in
theorem rm_get_id (l : Launch) (Z : State) (a0 : Array Value) (hw : HW a0 Z) (ws : List Jvm.Cond) (a1 : Addr) (v1 : Int64) (h0 : Heap) (n0 : Nat) (Z0 : n0 ≤ h0.size) (F1 : Fld Z h0 a1 "com/example/spool/spool/ClaimedJob" "id" "J" (.long v1)) :
    MetFree l (⟨"com/example/spool/spool/ClaimedJob", "id", "()J"⟩ : MethodName) (head1 (Jvm.Cond.code (⟨"com/example/spool/spool/ClaimedJob", "id", "()J"⟩ : MethodName) prog_2_method_3_code 1 (Option.some Jvm.ClassFile.FieldType.long) :: ws) ({ frames := 0, cells := 0, slots := 0, locals := 0 } : Room)) (fun a U => a = #[(.ref a1)] ∧ Z.Warmed39 U.vm ∧ U.heap = h0) (fun _ _ _ _ _ => True) (fun _ U o U' => Out U (Q_get_id Z a1 v1 h0 n0) ({ frames := 0, cells := 0, slots := 0, locals := 0 } : Room).cells ({ frames := 0, cells := 0, slots := 0, locals := 0 } : Room).slots o U') := by
  refine MetFree.of_bodySF (plainFor_of_name opn_1) hisR ?_
  intro p e s m args below meth c s₁ Bd hml0 hP hK
  obtain ⟨rfl, hZ, hh⟩ := hP
  have hx := Bd.exec
  have hby := Bd.bytes
  have hml : c.maxLocals = 1 := hml0
  have hret := Bd.returns
  have hlk : meth.locks = false := BodyLoose.notSynchronized Bd
  have hown : s.vm.findClass "com/example/spool/spool/ClaimedJob" = some m.cls := findClass_of_methodNamed Bd.named
  have hnm := (name_of_methodNamed Bd.named Bd.method).1
  have X0 : Stand p l e ({ frames := 0, cells := 0, slots := 0, locals := 0 } : Room) s m #[(.ref a1)] below meth c s₁ [] 0 0 := Stand.of_body Bd
  have e0 : s₁.heap = h0 := by rw [← hh, Bd.state]; rfl
  have N0 := Fr.nil n0
  show Go p e below (Out s (Q_get_id Z a1 v1 h0 n0) ({ frames := 0, cells := 0, slots := 0, locals := 0 } : Room).cells ({ frames := 0, cells := 0, slots := 0, locals := 0 } : Room).slots) s₁ (entryFrame m #[(.ref a1)] 1)
  refine Go.cast (oef_get_id m a1) ?_
  show Go p e below _ s₁ (mkF m 0 #[.val (.ref a1)] [])
  refine Go.by (fun t k => XS.aloadN X0.here hx rfl (hb hby od_prog_2_m_3_0) rfl rfl k) ?_
  show Go p e below _ s₁ (mkF m 1 #[.val (.ref a1)] [(.ref a1)])
  obtain ⟨T161, X161, e161, st161⟩ := getF X0 hx hZ hown (host := "") (Or.inl (ow44 hw)) Via.refl e0 F1 (g := (mkF m 1 #[.val (.ref a1)] [(.ref a1)])) rfl rfl (hb hby od_prog_2_m_3_1)
  refine Go.by st161 ?_
  show Go p e below _ T161 (mkF m 4 #[.val (.ref a1)] [(.long v1)])
  exact Go.retL X161 hx hret hlk (hb hby od_prog_2_m_3_4) (by first | (rw [e161]; exact ⟨rfl, N0, rfl⟩) | exact ⟨rfl, N0, rfl⟩) (by decide) (by decide)
def Q_get_attempt (Z : State) (a1 : Addr) (v1 : Int32) (h0 : Heap) (n0 : Nat) (v : Option Value) (h : Heap) (L : List Loc) : Prop := v = some (.int v1) ∧ Fr n0 L ∧ h = h0
set_option maxRecDepth 65536 in
set_option maxHeartbeats 40000000 in
theorem rm_get_attempt (l : Launch) (Z : State) (a0 : Array Value) (hw : HW a0 Z) (ws : List Jvm.Cond) (a1 : Addr) (v1 : Int32) (h0 : Heap) (n0 : Nat) (Z0 : n0 ≤ h0.size) (F1 : Fld Z h0 a1 "com/example/spool/spool/ClaimedJob" "attempt" "I" (.int v1)) :
    MetFree l (⟨"com/example/spool/spool/ClaimedJob", "attempt", "()I"⟩ : MethodName) (head1 (Jvm.Cond.code (⟨"com/example/spool/spool/ClaimedJob", "attempt", "()I"⟩ : MethodName) prog_2_method_4_code 1 (Option.some Jvm.ClassFile.FieldType.int) :: ws) ({ frames := 0, cells := 0, slots := 0, locals := 0 } : Room)) (fun a U => a = #[(.ref a1)] ∧ Z.Warmed39 U.vm ∧ U.heap = h0) (fun _ _ _ _ _ => True) (fun _ U o U' => Out U (Q_get_attempt Z a1 v1 h0 n0) ({ frames := 0, cells := 0, slots := 0, locals := 0 } : Room).cells ({ frames := 0, cells := 0, slots := 0, locals := 0 } : Room).slots o U') := by
  refine MetFree.of_bodySF (plainFor_of_name opn_1) hisR ?_
  intro p e s m args below meth c s₁ Bd hml0 hP hK
  obtain ⟨rfl, hZ, hh⟩ := hP
  have hx := Bd.exec
  have hby := Bd.bytes
  have hml : c.maxLocals = 1 := hml0
  have hret := Bd.returns
  have hlk : meth.locks = false := BodyLoose.notSynchronized Bd
  have hown : s.vm.findClass "com/example/spool/spool/ClaimedJob" = some m.cls := findClass_of_methodNamed Bd.named
  have hnm := (name_of_methodNamed Bd.named Bd.method).1
  have X0 : Stand p l e ({ frames := 0, cells := 0, slots := 0, locals := 0 } : Room) s m #[(.ref a1)] below meth c s₁ [] 0 0 := Stand.of_body Bd
  have e0 : s₁.heap = h0 := by rw [← hh, Bd.state]; rfl
  have N0 := Fr.nil n0
  show Go p e below (Out s (Q_get_attempt Z a1 v1 h0 n0) ({ frames := 0, cells := 0, slots := 0, locals := 0 } : Room).cells ({ frames := 0, cells := 0, slots := 0, locals := 0 } : Room).slots) s₁ (entryFrame m #[(.ref a1)] 1)
  refine Go.cast (oef_get_attempt m a1) ?_
  show Go p e below _ s₁ (mkF m 0 #[.val (.ref a1)] [])
  refine Go.by (fun t k => XS.aloadN X0.here hx rfl (hb hby od_prog_2_m_4_0) rfl rfl k) ?_
  show Go p e below _ s₁ (mkF m 1 #[.val (.ref a1)] [(.ref a1)])
  obtain ⟨T162, X162, e162, st162⟩ := getF X0 hx hZ hown (host := "") (Or.inl (ow46 hw)) Via.refl e0 F1 (g := (mkF m 1 #[.val (.ref a1)] [(.ref a1)])) rfl rfl (hb hby od_prog_2_m_4_1)
  refine Go.by st162 ?_
  show Go p e below _ T162 (mkF m 4 #[.val (.ref a1)] [(.int v1)])
  exact Go.retI X162 hx hret hlk (hb hby od_prog_2_m_4_4) (by first | (rw [e162]; exact ⟨rfl, N0, rfl⟩) | exact ⟨rfl, N0, rfl⟩) (by decide) (by decide)
def Q_get_queue (Z : State) (a1 : Addr) (v1 : Addr) (h0 : Heap) (n0 : Nat) (v : Option Value) (h : Heap) (L : List Loc) : Prop := v = some (.ref v1) ∧ Fr n0 L ∧ h = h0
set_option maxRecDepth 65536 in
set_option maxHeartbeats 40000000 in
theorem rm_get_queue (l : Launch) (Z : State) (a0 : Array Value) (hw : HW a0 Z) (ws : List Jvm.Cond) (a1 : Addr) (v1 : Addr) (h0 : Heap) (n0 : Nat) (Z0 : n0 ≤ h0.size) (F1 : Fld Z h0 a1 "com/example/spool/spool/ClaimedJob" "queue" "Ljava/lang/String;" (.ref v1)) :
    MetFree l (⟨"com/example/spool/spool/ClaimedJob", "queue", "()Ljava/lang/String;"⟩ : MethodName) (head1 (Jvm.Cond.code (⟨"com/example/spool/spool/ClaimedJob", "queue", "()Ljava/lang/String;"⟩ : MethodName) prog_2_method_5_code 1 (Option.some (Jvm.ClassFile.FieldType.object "java/lang/String")) :: ws) ({ frames := 0, cells := 0, slots := 0, locals := 0 } : Room)) (fun a U => a = #[(.ref a1)] ∧ Z.Warmed39 U.vm ∧ U.heap = h0) (fun _ _ _ _ _ => True) (fun _ U o U' => Out U (Q_get_queue Z a1 v1 h0 n0) ({ frames := 0, cells := 0, slots := 0, locals := 0 } : Room).cells ({ frames := 0, cells := 0, slots := 0, locals := 0 } : Room).slots o U') := by
  refine MetFree.of_bodySF (plainFor_of_name opn_1) hisR ?_
  intro p e s m args below meth c s₁ Bd hml0 hP hK
  obtain ⟨rfl, hZ, hh⟩ := hP
  have hx := Bd.exec
  have hby := Bd.bytes
  have hml : c.maxLocals = 1 := hml0
  have hret := Bd.returns
  have hlk : meth.locks = false := BodyLoose.notSynchronized Bd
  have hown : s.vm.findClass "com/example/spool/spool/ClaimedJob" = some m.cls := findClass_of_methodNamed Bd.named
  have hnm := (name_of_methodNamed Bd.named Bd.method).1
  have X0 : Stand p l e ({ frames := 0, cells := 0, slots := 0, locals := 0 } : Room) s m #[(.ref a1)] below meth c s₁ [] 0 0 := Stand.of_body Bd
  have e0 : s₁.heap = h0 := by rw [← hh, Bd.state]; rfl
  have N0 := Fr.nil n0
  show Go p e below (Out s (Q_get_queue Z a1 v1 h0 n0) ({ frames := 0, cells := 0, slots := 0, locals := 0 } : Room).cells ({ frames := 0, cells := 0, slots := 0, locals := 0 } : Room).slots) s₁ (entryFrame m #[(.ref a1)] 1)
  refine Go.cast (oef_get_queue m a1) ?_
  show Go p e below _ s₁ (mkF m 0 #[.val (.ref a1)] [])
  refine Go.by (fun t k => XS.aloadN X0.here hx rfl (hb hby od_prog_2_m_5_0) rfl rfl k) ?_
  show Go p e below _ s₁ (mkF m 1 #[.val (.ref a1)] [(.ref a1)])
  obtain ⟨T163, X163, e163, st163⟩ := getF X0 hx hZ hown (host := "") (Or.inl (ow48 hw)) Via.refl e0 F1 (g := (mkF m 1 #[.val (.ref a1)] [(.ref a1)])) rfl rfl (hb hby od_prog_2_m_5_1)
  refine Go.by st163 ?_
  show Go p e below _ T163 (mkF m 4 #[.val (.ref a1)] [(.ref v1)])
  exact Go.retR X163 hx hret rfl rfl rfl hlk (hb hby od_prog_2_m_5_4) (by first | (rw [e163]; exact ⟨rfl, N0, rfl⟩) | exact ⟨rfl, N0, rfl⟩) (by decide) (by decide)
def Q_get_kind (Z : State) (a1 : Addr) (v1 : Addr) (h0 : Heap) (n0 : Nat) (v : Option Value) (h : Heap) (L : List Loc) : Prop := v = some (.ref v1) ∧ Fr n0 L ∧ h = h0
set_option maxRecDepth 65536 in
set_option maxHeartbeats 40000000 in
theorem rm_get_kind (l : Launch) (Z : State) (a0 : Array Value) (hw : HW a0 Z) (ws : List Jvm.Cond) (a1 : Addr) (v1 : Addr) (h0 : Heap) (n0 : Nat) (Z0 : n0 ≤ h0.size) (F1 : Fld Z h0 a1 "com/example/spool/spool/ClaimedJob" "kind" "Ljava/lang/String;" (.ref v1)) :
    MetFree l (⟨"com/example/spool/spool/ClaimedJob", "kind", "()Ljava/lang/String;"⟩ : MethodName) (head1 (Jvm.Cond.code (⟨"com/example/spool/spool/ClaimedJob", "kind", "()Ljava/lang/String;"⟩ : MethodName) prog_2_method_6_code 1 (Option.some (Jvm.ClassFile.FieldType.object "java/lang/String")) :: ws) ({ frames := 0, cells := 0, slots := 0, locals := 0 } : Room)) (fun a U => a = #[(.ref a1)] ∧ Z.Warmed39 U.vm ∧ U.heap = h0) (fun _ _ _ _ _ => True) (fun _ U o U' => Out U (Q_get_kind Z a1 v1 h0 n0) ({ frames := 0, cells := 0, slots := 0, locals := 0 } : Room).cells ({ frames := 0, cells := 0, slots := 0, locals := 0 } : Room).slots o U') := by
  refine MetFree.of_bodySF (plainFor_of_name opn_1) hisR ?_
  intro p e s m args below meth c s₁ Bd hml0 hP hK
  obtain ⟨rfl, hZ, hh⟩ := hP
  have hx := Bd.exec
  have hby := Bd.bytes
  have hml : c.maxLocals = 1 := hml0
  have hret := Bd.returns
  have hlk : meth.locks = false := BodyLoose.notSynchronized Bd
  have hown : s.vm.findClass "com/example/spool/spool/ClaimedJob" = some m.cls := findClass_of_methodNamed Bd.named
  have hnm := (name_of_methodNamed Bd.named Bd.method).1
  have X0 : Stand p l e ({ frames := 0, cells := 0, slots := 0, locals := 0 } : Room) s m #[(.ref a1)] below meth c s₁ [] 0 0 := Stand.of_body Bd
  have e0 : s₁.heap = h0 := by rw [← hh, Bd.state]; rfl
  have N0 := Fr.nil n0
  show Go p e below (Out s (Q_get_kind Z a1 v1 h0 n0) ({ frames := 0, cells := 0, slots := 0, locals := 0 } : Room).cells ({ frames := 0, cells := 0, slots := 0, locals := 0 } : Room).slots) s₁ (entryFrame m #[(.ref a1)] 1)
  refine Go.cast (oef_get_kind m a1) ?_
  show Go p e below _ s₁ (mkF m 0 #[.val (.ref a1)] [])
  refine Go.by (fun t k => XS.aloadN X0.here hx rfl (hb hby od_prog_2_m_6_0) rfl rfl k) ?_
  show Go p e below _ s₁ (mkF m 1 #[.val (.ref a1)] [(.ref a1)])
  obtain ⟨T164, X164, e164, st164⟩ := getF X0 hx hZ hown (host := "") (Or.inl (ow50 hw)) Via.refl e0 F1 (g := (mkF m 1 #[.val (.ref a1)] [(.ref a1)])) rfl rfl (hb hby od_prog_2_m_6_1)
  refine Go.by st164 ?_
  show Go p e below _ T164 (mkF m 4 #[.val (.ref a1)] [(.ref v1)])
  exact Go.retR X164 hx hret rfl rfl rfl hlk (hb hby od_prog_2_m_6_4) (by first | (rw [e164]; exact ⟨rfl, N0, rfl⟩) | exact ⟨rfl, N0, rfl⟩) (by decide) (by decide)
def Q_get_payload (Z : State) (a1 : Addr) (v1 : Addr) (h0 : Heap) (n0 : Nat) (v : Option Value) (h : Heap) (L : List Loc) : Prop := v = some (.ref v1) ∧ Fr n0 L ∧ h = h0
set_option maxRecDepth 65536 in
set_option maxHeartbeats 40000000 in
theorem rm_get_payload (l : Launch) (Z : State) (a0 : Array Value) (hw : HW a0 Z) (ws : List Jvm.Cond) (a1 : Addr) (v1 : Addr) (h0 : Heap) (n0 : Nat) (Z0 : n0 ≤ h0.size) (F1 : Fld Z h0 a1 "com/example/spool/spool/ClaimedJob" "payload" "Ljava/lang/String;" (.ref v1)) :
    MetFree l (⟨"com/example/spool/spool/ClaimedJob", "payload", "()Ljava/lang/String;"⟩ : MethodName) (head1 (Jvm.Cond.code (⟨"com/example/spool/spool/ClaimedJob", "payload", "()Ljava/lang/String;"⟩ : MethodName) prog_2_method_7_code 1 (Option.some (Jvm.ClassFile.FieldType.object "java/lang/String")) :: ws) ({ frames := 0, cells := 0, slots := 0, locals := 0 } : Room)) (fun a U => a = #[(.ref a1)] ∧ Z.Warmed39 U.vm ∧ U.heap = h0) (fun _ _ _ _ _ => True) (fun _ U o U' => Out U (Q_get_payload Z a1 v1 h0 n0) ({ frames := 0, cells := 0, slots := 0, locals := 0 } : Room).cells ({ frames := 0, cells := 0, slots := 0, locals := 0 } : Room).slots o U') := by
  refine MetFree.of_bodySF (plainFor_of_name opn_1) hisR ?_
  intro p e s m args below meth c s₁ Bd hml0 hP hK
  obtain ⟨rfl, hZ, hh⟩ := hP
  have hx := Bd.exec
  have hby := Bd.bytes
  have hml : c.maxLocals = 1 := hml0
  have hret := Bd.returns
  have hlk : meth.locks = false := BodyLoose.notSynchronized Bd
  have hown : s.vm.findClass "com/example/spool/spool/ClaimedJob" = some m.cls := findClass_of_methodNamed Bd.named
  have hnm := (name_of_methodNamed Bd.named Bd.method).1
  have X0 : Stand p l e ({ frames := 0, cells := 0, slots := 0, locals := 0 } : Room) s m #[(.ref a1)] below meth c s₁ [] 0 0 := Stand.of_body Bd
  have e0 : s₁.heap = h0 := by rw [← hh, Bd.state]; rfl
  have N0 := Fr.nil n0
  show Go p e below (Out s (Q_get_payload Z a1 v1 h0 n0) ({ frames := 0, cells := 0, slots := 0, locals := 0 } : Room).cells ({ frames := 0, cells := 0, slots := 0, locals := 0 } : Room).slots) s₁ (entryFrame m #[(.ref a1)] 1)
  refine Go.cast (oef_get_payload m a1) ?_
  show Go p e below _ s₁ (mkF m 0 #[.val (.ref a1)] [])
  refine Go.by (fun t k => XS.aloadN X0.here hx rfl (hb hby od_prog_2_m_7_0) rfl rfl k) ?_
  show Go p e below _ s₁ (mkF m 1 #[.val (.ref a1)] [(.ref a1)])
  obtain ⟨T165, X165, e165, st165⟩ := getF X0 hx hZ hown (host := "") (Or.inl (ow52 hw)) Via.refl e0 F1 (g := (mkF m 1 #[.val (.ref a1)] [(.ref a1)])) rfl rfl (hb hby od_prog_2_m_7_1)
  refine Go.by st165 ?_
  show Go p e below _ T165 (mkF m 4 #[.val (.ref a1)] [(.ref v1)])
  exact Go.retR X165 hx hret rfl rfl rfl hlk (hb hby od_prog_2_m_7_4) (by first | (rw [e165]; exact ⟨rfl, N0, rfl⟩) | exact ⟨rfl, N0, rfl⟩) (by decide) (by decide)
def Q_get_runAt (Z : State) (a1 : Addr) (h0 : Heap) (n0 : Nat) (v : Option Value) (h : Heap) (L : List Loc) : Prop := v = some .null ∧ Fr n0 L ∧ h = h0
set_option maxRecDepth 65536 in
set_option maxHeartbeats 40000000 in
theorem rm_get_runAt (l : Launch) (Z : State) (a0 : Array Value) (hw : HW a0 Z) (ws : List Jvm.Cond) (a1 : Addr) (h0 : Heap) (n0 : Nat) (Z0 : n0 ≤ h0.size) (F1 : Fld Z h0 a1 "com/example/spool/spool/ClaimedJob" "runAt" "Ljava/time/Instant;" .null) :
    MetFree l (⟨"com/example/spool/spool/ClaimedJob", "runAt", "()Ljava/time/Instant;"⟩ : MethodName) (head1 (Jvm.Cond.code (⟨"com/example/spool/spool/ClaimedJob", "runAt", "()Ljava/time/Instant;"⟩ : MethodName) prog_2_method_11_code 1 (Option.some (Jvm.ClassFile.FieldType.object "java/time/Instant")) :: ws) ({ frames := 0, cells := 0, slots := 0, locals := 0 } : Room)) (fun a U => a = #[(.ref a1)] ∧ Z.Warmed39 U.vm ∧ U.heap = h0) (fun _ _ _ _ _ => True) (fun _ U o U' => Out U (Q_get_runAt Z a1 h0 n0) ({ frames := 0, cells := 0, slots := 0, locals := 0 } : Room).cells ({ frames := 0, cells := 0, slots := 0, locals := 0 } : Room).slots o U') := by
  refine MetFree.of_bodySF (plainFor_of_name opn_1) hisR ?_
  intro p e s m args below meth c s₁ Bd hml0 hP hK
  obtain ⟨rfl, hZ, hh⟩ := hP
  have hx := Bd.exec
  have hby := Bd.bytes
  have hml : c.maxLocals = 1 := hml0
  have hret := Bd.returns
  have hlk : meth.locks = false := BodyLoose.notSynchronized Bd
  have hown : s.vm.findClass "com/example/spool/spool/ClaimedJob" = some m.cls := findClass_of_methodNamed Bd.named
  have hnm := (name_of_methodNamed Bd.named Bd.method).1
  have X0 : Stand p l e ({ frames := 0, cells := 0, slots := 0, locals := 0 } : Room) s m #[(.ref a1)] below meth c s₁ [] 0 0 := Stand.of_body Bd
  have e0 : s₁.heap = h0 := by rw [← hh, Bd.state]; rfl
  have N0 := Fr.nil n0
  show Go p e below (Out s (Q_get_runAt Z a1 h0 n0) ({ frames := 0, cells := 0, slots := 0, locals := 0 } : Room).cells ({ frames := 0, cells := 0, slots := 0, locals := 0 } : Room).slots) s₁ (entryFrame m #[(.ref a1)] 1)
  refine Go.cast (oef_get_runAt m a1) ?_
  show Go p e below _ s₁ (mkF m 0 #[.val (.ref a1)] [])
  refine Go.by (fun t k => XS.aloadN X0.here hx rfl (hb hby od_prog_2_m_11_0) rfl rfl k) ?_
  show Go p e below _ s₁ (mkF m 1 #[.val (.ref a1)] [(.ref a1)])
  obtain ⟨T166, X166, e166, st166⟩ := getF X0 hx hZ hown (host := "") (Or.inl (ow56 hw)) Via.refl e0 F1 (g := (mkF m 1 #[.val (.ref a1)] [(.ref a1)])) rfl rfl (hb hby od_prog_2_m_11_1)
  refine Go.by st166 ?_
  show Go p e below _ T166 (mkF m 4 #[.val (.ref a1)] [.null])
  exact Go.retR X166 hx hret rfl rfl rfl hlk (hb hby od_prog_2_m_11_4) (by first | (rw [e166]; exact ⟨rfl, N0, rfl⟩) | exact ⟨rfl, N0, rfl⟩) (by decide) (by decide)
def Q_law (Z : State) (i0 : Int64) (i1 : Int32) (i2 : Int32) (i3 : Int32) (i4 : Int32) (G1 : Int32) (h0 : Heap) (n0 : Nat) (v : Option Value) (h : Heap) (L : List Loc) : Prop := v = some (.int (1 : Int32)) ∧ Fr n0 L ∧ Keep h0 h []
set_option maxRecDepth 65536 in
set_option maxHeartbeats 40000000 in
theorem rm_law (l : Launch) (Z : State) (a0 : Array Value) (hw : HW a0 Z) (ws : List Jvm.Cond) (i0 : Int64) (i1 : Int32) (i2 : Int32) (i3 : Int32) (i4 : Int32) (G1 : Int32) (h0 : Heap) (n0 : Nat) (Z0 : n0 ≤ h0.size) (O2 : Sta Z Z.heap "java/lang/String" "COMPACT_STRINGS" "Z" (.int G1)) (P5 : ¬ (G1 = (0 : Int32))) (X00 : Old Z n0 h0) :
    MetFree l x (head1 (Jvm.Cond.code x code maxLocals ret :: ws) room_1) (fun a U => a = #[(.long i0), (.int i1), (.int i2), (.int i3), (.int i4)] ∧ Z.Warmed39 U.vm ∧ U.heap = h0) (fun _ _ _ _ _ => True) (fun _ U o U' => Out U (Q_law Z i0 i1 i2 i3 i4 G1 h0 n0) room_1.cells room_1.slots o U') := by
  refine MetFree.of_bodySF (plainFor_of_name opn_0) hisR ?_
  intro p e s m args below meth c s₁ Bd hml0 hP hK
  obtain ⟨rfl, hZ, hh⟩ := hP
  have hx := Bd.exec
  have hby := Bd.bytes
  have hml : c.maxLocals = 11 := hml0
  have hret := Bd.returns
  have hlk : meth.locks = false := BodyLoose.notSynchronized Bd
  have hown : s.vm.findClass "com/example/spool/spool/ClaimedJobUnclaimedPinLaw" = some m.cls := findClass_of_methodNamed Bd.named
  have hnm := (name_of_methodNamed Bd.named Bd.method).1
  have X0 : Stand p l e room_1 s m #[(.long i0), (.int i1), (.int i2), (.int i3), (.int i4)] below meth c s₁ [] 0 0 := Stand.of_body Bd
  have e0 : s₁.heap = h0 := by rw [← hh, Bd.state]; rfl
  have N0 := Fr.nil n0
  have K0 : Keep h0 h0 [] := Keep.refl h0 _
  show Go p e below (Out s (Q_law Z i0 i1 i2 i3 i4 G1 h0 n0) room_1.cells room_1.slots) s₁ (entryFrame m #[(.long i0), (.int i1), (.int i2), (.int i3), (.int i4)] maxLocals)
  refine Go.cast (oef_law m i0 i1 i2 i3 i4) ?_
  show Go p e below _ s₁ (mkF m 0 #[.val (.long i0), .second, .val (.int i1), .val (.int i2), .val (.int i3), .val (.int i4), .unset, .unset, .unset, .unset, .unset] [])
  refine Go.by (fun t k => XS.iloadN X0.here hx rfl (hb hby at_0) rfl k) ?_
  show Go p e below _ s₁ (mkF m 1 #[.val (.long i0), .second, .val (.int i1), .val (.int i2), .val (.int i3), .val (.int i4), .unset, .unset, .unset, .unset, .unset] [(.int i2)])
  obtain ⟨_, _, ⟨T167, L167, k167, n167⟩, -, X167, ⟨Lc167, hQ167, l167, y167, z167⟩, st167⟩ := Jvm.LawKit.callS X0 hx (y := (⟨"com/example/spool/spool/ClaimedJobUnclaimedPinLaw", "draw", "(I)Ljava/lang/String;"⟩ : MethodName)) hown (mvT hZ (ow0 hw)) (mvT hZ (ow1 hw)) (mvT hZ (ow2 hw)) (mvT hZ (ow3 hw)) (by decide) (backOf (W := 0) (rm_draw l Z a0 hw [] i2 G1 h0 n0 (Nat.le_trans Z0 (Nat.le_refl _)) O2 P5 X00) hZ (ow3 hw) (ow2 hw) (by decide) (by decide)) (g := (mkF m 1 #[.val (.long i0), .second, .val (.int i1), .val (.int i2), .val (.int i3), .val (.int i4), .unset, .unset, .unset, .unset, .unset] [(.int i2)])) rfl (by rw [hml]; rfl) (argsL := [(.int i2)]) (rest := []) (lenOf opd_2 rfl) rfl (by show 2 * 0 + _ ≤ _; exact Nat.le_of_eq rfl) (hb hby at_1) (fun _ _ => ⟨rfl, e0, (by decide : 0 + 3 ≤ _), (by decide : 0 + 8 ≤ _)⟩)
  dsimp only [Pt.U, Pt.locs, Pt.cells, Pt.slots] at X167 l167 y167 z167 st167 hQ167
  subst l167 y167 z167
  obtain ⟨bs_167, rfl, N167q, K167q, P167_0⟩ := hQ167
  have N167 := Fr.app N0 N167q
  refine Go.by st167 ?_
  have K168 : Keep h0 T167.heap [] := K0.trans K167q all0
  have O168 : Old Z n0 T167.heap := X00.keep K167q all0
  show Go p e below _ T167 (mkF m 4 #[.val (.long i0), .second, .val (.int i1), .val (.int i2), .val (.int i3), .val (.int i4), .unset, .unset, .unset, .unset, .unset] [(.ref bs_167)])
  refine Go.by (fun t k => XS.astore X167.here hx rfl (hb hby at_4) rfl rfl (l' := #[.val (.long i0), .second, .val (.int i1), .val (.int i2), .val (.int i3), .val (.int i4), .val (.ref bs_167), .unset, .unset, .unset, .unset]) rfl (XS.iload X167.here hx rfl (hb hby at_6) rfl k)) ?_
  show Go p e below _ T167 (mkF m 8 #[.val (.long i0), .second, .val (.int i1), .val (.int i2), .val (.int i3), .val (.int i4), .val (.ref bs_167), .unset, .unset, .unset, .unset] [(.int i3)])
  obtain ⟨_, _, ⟨T169, L169, k169, n169⟩, -, X169, ⟨Lc169, hQ169, l169, y169, z169⟩, st169⟩ := Jvm.LawKit.callS X167 hx (y := (⟨"com/example/spool/spool/ClaimedJobUnclaimedPinLaw", "draw", "(I)Ljava/lang/String;"⟩ : MethodName)) hown (mvT hZ (ow0 hw)) (mvT hZ (ow1 hw)) (mvT hZ (ow2 hw)) (mvT hZ (ow3 hw)) (by decide) (backOf (W := 0) (rm_draw l Z a0 hw [] i3 G1 T167.heap n0 (Nat.le_trans Z0 K167q.1) O2 P5 O168) hZ (ow3 hw) (ow2 hw) (by decide) (by decide)) (g := (mkF m 8 #[.val (.long i0), .second, .val (.int i1), .val (.int i2), .val (.int i3), .val (.int i4), .val (.ref bs_167), .unset, .unset, .unset, .unset] [(.int i3)])) rfl (by rw [hml]; rfl) (argsL := [(.int i3)]) (rest := []) (lenOf opd_2 rfl) rfl (by show 2 * 0 + _ ≤ _; exact Nat.le_of_eq rfl) (hb hby at_8) (fun _ _ => ⟨rfl, rfl, (by decide : 3 + 3 ≤ _), (by decide : 8 + 8 ≤ _)⟩)
  dsimp only [Pt.U, Pt.locs, Pt.cells, Pt.slots] at X169 l169 y169 z169 st169 hQ169
  subst l169 y169 z169
  obtain ⟨bs_169, rfl, N169q, K169q, P169_0⟩ := hQ169
  have N169 := Fr.app N167 N169q
  refine Go.by st169 ?_
  have K170 : Keep h0 T169.heap [] := K168.trans K169q all0
  have O170 : Old Z n0 T169.heap := O168.keep K169q all0
  show Go p e below _ T169 (mkF m 11 #[.val (.long i0), .second, .val (.int i1), .val (.int i2), .val (.int i3), .val (.int i4), .val (.ref bs_167), .unset, .unset, .unset, .unset] [(.ref bs_169)])
  refine Go.by (fun t k => XS.astore X169.here hx rfl (hb hby at_11) rfl rfl (l' := #[.val (.long i0), .second, .val (.int i1), .val (.int i2), .val (.int i3), .val (.int i4), .val (.ref bs_167), .val (.ref bs_169), .unset, .unset, .unset]) rfl (XS.iload X169.here hx rfl (hb hby at_13) rfl k)) ?_
  show Go p e below _ T169 (mkF m 15 #[.val (.long i0), .second, .val (.int i1), .val (.int i2), .val (.int i3), .val (.int i4), .val (.ref bs_167), .val (.ref bs_169), .unset, .unset, .unset] [(.int i4)])
  obtain ⟨_, _, ⟨T171, L171, k171, n171⟩, -, X171, ⟨Lc171, hQ171, l171, y171, z171⟩, st171⟩ := Jvm.LawKit.callS X169 hx (y := (⟨"com/example/spool/spool/ClaimedJobUnclaimedPinLaw", "draw", "(I)Ljava/lang/String;"⟩ : MethodName)) hown (mvT hZ (ow0 hw)) (mvT hZ (ow1 hw)) (mvT hZ (ow2 hw)) (mvT hZ (ow3 hw)) (by decide) (backOf (W := 0) (rm_draw l Z a0 hw [] i4 G1 T169.heap n0 (Nat.le_trans Z0 (Nat.le_trans K167q.1 K169q.1)) O2 P5 O170) hZ (ow3 hw) (ow2 hw) (by decide) (by decide)) (g := (mkF m 15 #[.val (.long i0), .second, .val (.int i1), .val (.int i2), .val (.int i3), .val (.int i4), .val (.ref bs_167), .val (.ref bs_169), .unset, .unset, .unset] [(.int i4)])) rfl (by rw [hml]; rfl) (argsL := [(.int i4)]) (rest := []) (lenOf opd_2 rfl) rfl (by show 2 * 0 + _ ≤ _; exact Nat.le_of_eq rfl) (hb hby at_15) (fun _ _ => ⟨rfl, rfl, (by decide : 6 + 3 ≤ _), (by decide : 16 + 8 ≤ _)⟩)
  dsimp only [Pt.U, Pt.locs, Pt.cells, Pt.slots] at X171 l171 y171 z171 st171 hQ171
  subst l171 y171 z171
  obtain ⟨bs_171, rfl, N171q, K171q, P171_0⟩ := hQ171
  have N171 := Fr.app N169 N171q
  refine Go.by st171 ?_
  have K172 : Keep h0 T171.heap [] := K170.trans K171q all0
  have O172 : Old Z n0 T171.heap := O170.keep K171q all0
  show Go p e below _ T171 (mkF m 18 #[.val (.long i0), .second, .val (.int i1), .val (.int i2), .val (.int i3), .val (.int i4), .val (.ref bs_167), .val (.ref bs_169), .unset, .unset, .unset] [(.ref bs_171)])
  refine Go.by (fun t k => XS.astore X171.here hx rfl (hb hby at_18) rfl rfl (l' := #[.val (.long i0), .second, .val (.int i1), .val (.int i2), .val (.int i3), .val (.int i4), .val (.ref bs_167), .val (.ref bs_169), .val (.ref bs_171), .unset, .unset]) rfl (XS.lloadN X171.here hx rfl (hb hby at_20) rfl (XS.iloadN X171.here hx rfl (hb hby at_21) rfl (XS.aload X171.here hx rfl (hb hby at_22) rfl rfl k)))) ?_
  show Go p e below _ T171 (mkF m 24 #[.val (.long i0), .second, .val (.int i1), .val (.int i2), .val (.int i3), .val (.int i4), .val (.ref bs_167), .val (.ref bs_169), .val (.ref bs_171), .unset, .unset] [(.ref bs_167), (.int i1), (.long i0)])
  refine Go.by (fun t k => XS.aload X171.here hx rfl (hb hby at_24) rfl rfl (XS.aload X171.here hx rfl (hb hby at_26) rfl rfl k)) ?_
  show Go p e below _ T171 (mkF m 28 #[.val (.long i0), .second, .val (.int i1), .val (.int i2), .val (.int i3), .val (.int i4), .val (.ref bs_167), .val (.ref bs_169), .val (.ref bs_171), .unset, .unset] [(.ref bs_171), (.ref bs_169), (.ref bs_167), (.int i1), (.long i0)])
  obtain ⟨_, _, ⟨T173, L173, k173, n173⟩, -, X173, ⟨Lc173, hQ173, l173, y173, z173⟩, st173⟩ := Jvm.LawKit.callS X171 hx (y := (⟨"com/example/spool/spool/ClaimedJob", "unclaimed", "(JILjava/lang/String;Ljava/lang/String;Ljava/lang/String;)Lcom/example/spool/spool/ClaimedJob;"⟩ : MethodName)) hown (mvT hZ (ow34 hw)) (mvT hZ (ow35 hw)) (mvT hZ (ow36 hw)) (mvT hZ (ow37 hw)) (by decide) (backOf (W := 0) (rm_unclaimed l Z a0 hw [] i0 i1 bs_167 bs_169 bs_171 T171.heap n0 (Nat.le_trans Z0 (Nat.le_trans (Nat.le_trans K167q.1 K169q.1) K171q.1)) ) hZ (ow37 hw) (ow36 hw) (by decide) (by decide)) (g := (mkF m 28 #[.val (.long i0), .second, .val (.int i1), .val (.int i2), .val (.int i3), .val (.int i4), .val (.ref bs_167), .val (.ref bs_169), .val (.ref bs_171), .unset, .unset] [(.ref bs_171), (.ref bs_169), (.ref bs_167), (.int i1), (.long i0)])) rfl (by rw [hml]; rfl) (argsL := [(.long i0), (.int i1), (.ref bs_167), (.ref bs_169), (.ref bs_171)]) (rest := []) (lenOf opd_3 rfl) rfl (by show 2 * 0 + _ ≤ _; exact Nat.le_of_eq rfl) (hb hby at_28) (fun _ _ => ⟨rfl, rfl, (by decide : 9 + 1 ≤ _), (by decide : 24 + 10 ≤ _)⟩)
  dsimp only [Pt.U, Pt.locs, Pt.cells, Pt.slots] at X173 l173 y173 z173 st173 hQ173
  subst l173 y173 z173
  obtain ⟨bj_173, rfl, N173q, K173q, P173_0, P173_1, P173_2, P173_3, P173_4, P173_5, P173_6, P173_7, P173_8, P173_9, P173_10⟩ := hQ173
  have N173 := Fr.app N171 N173q
  refine Go.by st173 ?_
  have K174 : Keep h0 T173.heap [] := K172.trans K173q all0
  have O174 : Old Z n0 T173.heap := O172.keep K173q all0
  show Go p e below _ T173 (mkF m 31 #[.val (.long i0), .second, .val (.int i1), .val (.int i2), .val (.int i3), .val (.int i4), .val (.ref bs_167), .val (.ref bs_169), .val (.ref bs_171), .unset, .unset] [(.ref bj_173)])
  refine Go.by (fun t k => XS.astore X173.here hx rfl (hb hby at_31) rfl rfl (l' := #[.val (.long i0), .second, .val (.int i1), .val (.int i2), .val (.int i3), .val (.int i4), .val (.ref bs_167), .val (.ref bs_169), .val (.ref bs_171), .val (.ref bj_173), .unset]) rfl (XS.aload X173.here hx rfl (hb hby at_33) rfl rfl (XS.ifnonnullYes X173.here hx rfl (pc0 := 35) (pc' := 40) rfl (hb hby at_35) rfl (by decide) (by decide) (XS.aload X173.here hx rfl (hb hby at_40) rfl rfl k)))) ?_
  show Go p e below _ T173 (mkF m 42 #[.val (.long i0), .second, .val (.int i1), .val (.int i2), .val (.int i3), .val (.int i4), .val (.ref bs_167), .val (.ref bs_169), .val (.ref bs_171), .val (.ref bj_173), .unset] [(.ref bj_173)])
  obtain ⟨cq175, kq175, q175a, q175b, q175c⟩ := isOf hZ rfl P173_1
  obtain ⟨_, _, ⟨T175, L175, k175, n175⟩, -, X175, ⟨Lc175, hQ175, l175, y175, z175⟩, st175⟩ := X173.virtualBack hx (y := (⟨"com/example/spool/spool/ClaimedJob", "id", "()J"⟩ : MethodName)) (z := (⟨"com/example/spool/spool/ClaimedJob", "id", "()J"⟩ : MethodName)) hown (mvT hZ (ow62 hw)) (mvT hZ (ow63 hw)) (notFace_of_selects (args := #[]) (mvT hZ (ow65 hw))) (mvT hZ (ow65 hw)) (mvT hZ (ow64 hw)) (by decide) (backOf (W := 0) (rm_get_id l Z a0 hw [] bj_173 i0 T173.heap n0 (Nat.le_trans Z0 (Nat.le_trans (Nat.le_trans (Nat.le_trans K167q.1 K169q.1) K171q.1) K173q.1)) P173_2) hZ (ow66 hw) (ow36 hw) (by decide) (by decide)) q175a q175c (g := (mkF m 42 #[.val (.long i0), .second, .val (.int i1), .val (.int i2), .val (.int i3), .val (.int i4), .val (.ref bs_167), .val (.ref bs_169), .val (.ref bs_171), .val (.ref bj_173), .unset] [(.ref bj_173)])) rfl (by rw [hml]; rfl) (Steps.refl _) (argsL := []) (rest := []) (lenOf opd_4 rfl) rfl (by show 2 * 0 + _ ≤ _; exact Nat.le_of_eq rfl) (hb hby at_42) (fun _ _ => ⟨rfl, rfl, (by decide : 10 + 0 ≤ _), (by decide : 34 + 0 ≤ _)⟩)
  dsimp only [Pt.U, Pt.locs, Pt.cells, Pt.slots] at X175 l175 y175 z175 st175 hQ175
  subst l175 y175 z175
  obtain ⟨rfl, N175q, e175⟩ := hQ175
  have N175 := Fr.app N173 N175q
  refine Go.tr st175 ?_
  show Go p e below _ T175 (mkF m 45 #[.val (.long i0), .second, .val (.int i1), .val (.int i2), .val (.int i3), .val (.int i4), .val (.ref bs_167), .val (.ref bs_169), .val (.ref bs_171), .val (.ref bj_173), .unset] [(.long i0)])
  refine Go.by (fun t k => XS.lloadN X175.here hx rfl (hb hby at_45) rfl (XS.lcmp X175.here hx rfl (hb hby at_46) rfl k)) ?_
  show Go p e below _ T175 (mkF m 47 #[.val (.long i0), .second, .val (.int i1), .val (.int i2), .val (.int i3), .val (.int i4), .val (.ref bs_167), .val (.ref bs_169), .val (.ref bs_171), .val (.ref bj_173), .unset] [(.int (lcmpW i0 i0))])
  refine Go.by (fun t k => XS.ifNo X175.here hx rfl (hb hby at_47) rfl ((if0 _ _).trans (teq (show (lcmpW i0 i0) = (0 : Int32) from (lw_eq _ _).mpr rfl)).2) k) ?_
  show Go p e below _ T175 (mkF m 50 #[.val (.long i0), .second, .val (.int i1), .val (.int i2), .val (.int i3), .val (.int i4), .val (.ref bs_167), .val (.ref bs_169), .val (.ref bs_171), .val (.ref bj_173), .unset] [])
  refine Go.by (fun t k => XS.iconst X175.here hx rfl (hb hby at_50) (XS.goto X175.here hx rfl (pc0 := 51) (pc' := 55) rfl (hb hby at_51) (by decide) (by decide) (XS.istore X175.here hx rfl (hb hby at_55) rfl (l' := #[.val (.long i0), .second, .val (.int i1), .val (.int i2), .val (.int i3), .val (.int i4), .val (.ref bs_167), .val (.ref bs_169), .val (.ref bs_171), .val (.ref bj_173), .val (.int (1 : Int32))]) rfl (XS.iload X175.here hx rfl (hb hby at_57) rfl k)))) ?_
  show Go p e below _ T175 (mkF m 59 #[.val (.long i0), .second, .val (.int i1), .val (.int i2), .val (.int i3), .val (.int i4), .val (.ref bs_167), .val (.ref bs_169), .val (.ref bs_171), .val (.ref bj_173), .val (.int (1 : Int32))] [(.int (1 : Int32))])
  refine Go.by (fun t k => XS.ifNo X175.here hx rfl (hb hby at_59) rfl ((if0 _ _).trans (feq (show ¬ ((1 : Int32) = (0 : Int32)) from (by decide))).1) k) ?_
  show Go p e below _ T175 (mkF m 62 #[.val (.long i0), .second, .val (.int i1), .val (.int i2), .val (.int i3), .val (.int i4), .val (.ref bs_167), .val (.ref bs_169), .val (.ref bs_171), .val (.ref bj_173), .val (.int (1 : Int32))] [])
  refine Go.by (fun t k => XS.aload X175.here hx rfl (hb hby at_62) rfl rfl k) ?_
  show Go p e below _ T175 (mkF m 64 #[.val (.long i0), .second, .val (.int i1), .val (.int i2), .val (.int i3), .val (.int i4), .val (.ref bs_167), .val (.ref bs_169), .val (.ref bs_171), .val (.ref bj_173), .val (.int (1 : Int32))] [(.ref bj_173)])
  obtain ⟨cq176, kq176, q176a, q176b, q176c⟩ := isOf hZ e175 P173_1
  obtain ⟨_, _, ⟨T176, L176, k176, n176⟩, -, X176, ⟨Lc176, hQ176, l176, y176, z176⟩, st176⟩ := X175.virtualBack hx (y := (⟨"com/example/spool/spool/ClaimedJob", "attempt", "()I"⟩ : MethodName)) (z := (⟨"com/example/spool/spool/ClaimedJob", "attempt", "()I"⟩ : MethodName)) hown (mvT hZ (ow67 hw)) (mvT hZ (ow68 hw)) (notFace_of_selects (args := #[]) (mvT hZ (ow70 hw))) (mvT hZ (ow70 hw)) (mvT hZ (ow69 hw)) (by decide) (backOf (W := 0) (rm_get_attempt l Z a0 hw [] bj_173 i1 T173.heap n0 (Nat.le_trans Z0 (Nat.le_trans (Nat.le_trans (Nat.le_trans K167q.1 K169q.1) K171q.1) K173q.1)) P173_3) hZ (ow71 hw) (ow36 hw) (by decide) (by decide)) q176a q176c (g := (mkF m 64 #[.val (.long i0), .second, .val (.int i1), .val (.int i2), .val (.int i3), .val (.int i4), .val (.ref bs_167), .val (.ref bs_169), .val (.ref bs_171), .val (.ref bj_173), .val (.int (1 : Int32))] [(.ref bj_173)])) rfl (by rw [hml]; rfl) (Steps.refl _) (argsL := []) (rest := []) (lenOf opd_5 rfl) rfl (by show 2 * 0 + _ ≤ _; exact Nat.le_of_eq rfl) (hb hby at_64) (fun _ _ => ⟨rfl, e175, (by decide : 10 + 0 ≤ _), (by decide : 34 + 0 ≤ _)⟩)
  dsimp only [Pt.U, Pt.locs, Pt.cells, Pt.slots] at X176 l176 y176 z176 st176 hQ176
  subst l176 y176 z176
  obtain ⟨rfl, N176q, e176⟩ := hQ176
  have N176 := Fr.app N175 N176q
  refine Go.tr st176 ?_
  show Go p e below _ T176 (mkF m 67 #[.val (.long i0), .second, .val (.int i1), .val (.int i2), .val (.int i3), .val (.int i4), .val (.ref bs_167), .val (.ref bs_169), .val (.ref bs_171), .val (.ref bj_173), .val (.int (1 : Int32))] [(.int i1)])
  refine Go.by (fun t k => XS.iloadN X176.here hx rfl (hb hby at_67) rfl k) ?_
  show Go p e below _ T176 (mkF m 68 #[.val (.long i0), .second, .val (.int i1), .val (.int i2), .val (.int i3), .val (.int i4), .val (.ref bs_167), .val (.ref bs_169), .val (.ref bs_171), .val (.ref bj_173), .val (.int (1 : Int32))] [(.int i1), (.int i1)])
  refine Go.by (fun t k => XS.icmpNo X176.here hx rfl (hb hby at_68) rfl (teq (show i1 = i1 from rfl)).2 k) ?_
  show Go p e below _ T176 (mkF m 71 #[.val (.long i0), .second, .val (.int i1), .val (.int i2), .val (.int i3), .val (.int i4), .val (.ref bs_167), .val (.ref bs_169), .val (.ref bs_171), .val (.ref bj_173), .val (.int (1 : Int32))] [])
  refine Go.by (fun t k => XS.iconst X176.here hx rfl (hb hby at_71) (XS.goto X176.here hx rfl (pc0 := 72) (pc' := 76) rfl (hb hby at_72) (by decide) (by decide) (XS.istore X176.here hx rfl (hb hby at_76) rfl (l' := #[.val (.long i0), .second, .val (.int i1), .val (.int i2), .val (.int i3), .val (.int i4), .val (.ref bs_167), .val (.ref bs_169), .val (.ref bs_171), .val (.ref bj_173), .val (.int (1 : Int32))]) rfl (XS.iload X176.here hx rfl (hb hby at_78) rfl k)))) ?_
  show Go p e below _ T176 (mkF m 80 #[.val (.long i0), .second, .val (.int i1), .val (.int i2), .val (.int i3), .val (.int i4), .val (.ref bs_167), .val (.ref bs_169), .val (.ref bs_171), .val (.ref bj_173), .val (.int (1 : Int32))] [(.int (1 : Int32))])
  refine Go.by (fun t k => XS.ifNo X176.here hx rfl (hb hby at_80) rfl ((if0 _ _).trans (feq (show ¬ ((1 : Int32) = (0 : Int32)) from (by decide))).1) k) ?_
  show Go p e below _ T176 (mkF m 83 #[.val (.long i0), .second, .val (.int i1), .val (.int i2), .val (.int i3), .val (.int i4), .val (.ref bs_167), .val (.ref bs_169), .val (.ref bs_171), .val (.ref bj_173), .val (.int (1 : Int32))] [])
  refine Go.by (fun t k => XS.aload X176.here hx rfl (hb hby at_83) rfl rfl k) ?_
  show Go p e below _ T176 (mkF m 85 #[.val (.long i0), .second, .val (.int i1), .val (.int i2), .val (.int i3), .val (.int i4), .val (.ref bs_167), .val (.ref bs_169), .val (.ref bs_171), .val (.ref bj_173), .val (.int (1 : Int32))] [(.ref bj_173)])
  obtain ⟨cq177, kq177, q177a, q177b, q177c⟩ := isOf hZ e176 P173_1
  obtain ⟨_, _, ⟨T177, L177, k177, n177⟩, -, X177, ⟨Lc177, hQ177, l177, y177, z177⟩, st177⟩ := X176.virtualBack hx (y := (⟨"com/example/spool/spool/ClaimedJob", "queue", "()Ljava/lang/String;"⟩ : MethodName)) (z := (⟨"com/example/spool/spool/ClaimedJob", "queue", "()Ljava/lang/String;"⟩ : MethodName)) hown (mvT hZ (ow72 hw)) (mvT hZ (ow73 hw)) (notFace_of_selects (args := #[]) (mvT hZ (ow75 hw))) (mvT hZ (ow75 hw)) (mvT hZ (ow74 hw)) (by decide) (backOf (W := 0) (rm_get_queue l Z a0 hw [] bj_173 bs_167 T173.heap n0 (Nat.le_trans Z0 (Nat.le_trans (Nat.le_trans (Nat.le_trans K167q.1 K169q.1) K171q.1) K173q.1)) P173_4) hZ (ow76 hw) (ow36 hw) (by decide) (by decide)) q177a q177c (g := (mkF m 85 #[.val (.long i0), .second, .val (.int i1), .val (.int i2), .val (.int i3), .val (.int i4), .val (.ref bs_167), .val (.ref bs_169), .val (.ref bs_171), .val (.ref bj_173), .val (.int (1 : Int32))] [(.ref bj_173)])) rfl (by rw [hml]; rfl) (Steps.refl _) (argsL := []) (rest := []) (lenOf opd_6 rfl) rfl (by show 2 * 0 + _ ≤ _; exact Nat.le_of_eq rfl) (hb hby at_85) (fun _ _ => ⟨rfl, e176, (by decide : 10 + 0 ≤ _), (by decide : 34 + 0 ≤ _)⟩)
  dsimp only [Pt.U, Pt.locs, Pt.cells, Pt.slots] at X177 l177 y177 z177 st177 hQ177
  subst l177 y177 z177
  obtain ⟨rfl, N177q, e177⟩ := hQ177
  have N177 := Fr.app N176 N177q
  refine Go.tr st177 ?_
  show Go p e below _ T177 (mkF m 88 #[.val (.long i0), .second, .val (.int i1), .val (.int i2), .val (.int i3), .val (.int i4), .val (.ref bs_167), .val (.ref bs_169), .val (.ref bs_171), .val (.ref bj_173), .val (.int (1 : Int32))] [(.ref bs_167)])
  refine Go.by (fun t k => XS.aload X177.here hx rfl (hb hby at_88) rfl rfl k) ?_
  show Go p e below _ T177 (mkF m 90 #[.val (.long i0), .second, .val (.int i1), .val (.int i2), .val (.int i3), .val (.int i4), .val (.ref bs_167), .val (.ref bs_169), .val (.ref bs_171), .val (.ref bj_173), .val (.int (1 : Int32))] [(.ref bs_167), (.ref bs_167)])
  refine Go.by (fun t k => Jvm.RoadKit.acmp (g := (mkF m 90 #[.val (.long i0), .second, .val (.int i1), .val (.int i2), .val (.int i3), .val (.int i4), .val (.ref bs_167), .val (.ref bs_169), .val (.ref bs_171), .val (.ref bj_173), .val (.int (1 : Int32))] [(.ref bs_167), (.ref bs_167)])) X177 hx rfl rfl rfl (pc0 := 90) (pc' := 93) (same := true) rfl (hb hby at_90) rfl (decide_eq_true rfl) (by decide) (by decide) k) ?_
  show Go p e below _ T177 (mkF m 93 #[.val (.long i0), .second, .val (.int i1), .val (.int i2), .val (.int i3), .val (.int i4), .val (.ref bs_167), .val (.ref bs_169), .val (.ref bs_171), .val (.ref bj_173), .val (.int (1 : Int32))] [])
  refine Go.by (fun t k => XS.iconst X177.here hx rfl (hb hby at_93) (XS.goto X177.here hx rfl (pc0 := 94) (pc' := 98) rfl (hb hby at_94) (by decide) (by decide) (XS.istore X177.here hx rfl (hb hby at_98) rfl (l' := #[.val (.long i0), .second, .val (.int i1), .val (.int i2), .val (.int i3), .val (.int i4), .val (.ref bs_167), .val (.ref bs_169), .val (.ref bs_171), .val (.ref bj_173), .val (.int (1 : Int32))]) rfl (XS.iload X177.here hx rfl (hb hby at_100) rfl k)))) ?_
  show Go p e below _ T177 (mkF m 102 #[.val (.long i0), .second, .val (.int i1), .val (.int i2), .val (.int i3), .val (.int i4), .val (.ref bs_167), .val (.ref bs_169), .val (.ref bs_171), .val (.ref bj_173), .val (.int (1 : Int32))] [(.int (1 : Int32))])
  refine Go.by (fun t k => XS.ifNo X177.here hx rfl (hb hby at_102) rfl ((if0 _ _).trans (feq (show ¬ ((1 : Int32) = (0 : Int32)) from (by decide))).1) k) ?_
  show Go p e below _ T177 (mkF m 105 #[.val (.long i0), .second, .val (.int i1), .val (.int i2), .val (.int i3), .val (.int i4), .val (.ref bs_167), .val (.ref bs_169), .val (.ref bs_171), .val (.ref bj_173), .val (.int (1 : Int32))] [])
  refine Go.by (fun t k => XS.aload X177.here hx rfl (hb hby at_105) rfl rfl k) ?_
  show Go p e below _ T177 (mkF m 107 #[.val (.long i0), .second, .val (.int i1), .val (.int i2), .val (.int i3), .val (.int i4), .val (.ref bs_167), .val (.ref bs_169), .val (.ref bs_171), .val (.ref bj_173), .val (.int (1 : Int32))] [(.ref bj_173)])
  obtain ⟨cq178, kq178, q178a, q178b, q178c⟩ := isOf hZ e177 P173_1
  obtain ⟨_, _, ⟨T178, L178, k178, n178⟩, -, X178, ⟨Lc178, hQ178, l178, y178, z178⟩, st178⟩ := X177.virtualBack hx (y := (⟨"com/example/spool/spool/ClaimedJob", "kind", "()Ljava/lang/String;"⟩ : MethodName)) (z := (⟨"com/example/spool/spool/ClaimedJob", "kind", "()Ljava/lang/String;"⟩ : MethodName)) hown (mvT hZ (ow77 hw)) (mvT hZ (ow78 hw)) (notFace_of_selects (args := #[]) (mvT hZ (ow80 hw))) (mvT hZ (ow80 hw)) (mvT hZ (ow79 hw)) (by decide) (backOf (W := 0) (rm_get_kind l Z a0 hw [] bj_173 bs_169 T173.heap n0 (Nat.le_trans Z0 (Nat.le_trans (Nat.le_trans (Nat.le_trans K167q.1 K169q.1) K171q.1) K173q.1)) P173_5) hZ (ow81 hw) (ow36 hw) (by decide) (by decide)) q178a q178c (g := (mkF m 107 #[.val (.long i0), .second, .val (.int i1), .val (.int i2), .val (.int i3), .val (.int i4), .val (.ref bs_167), .val (.ref bs_169), .val (.ref bs_171), .val (.ref bj_173), .val (.int (1 : Int32))] [(.ref bj_173)])) rfl (by rw [hml]; rfl) (Steps.refl _) (argsL := []) (rest := []) (lenOf opd_6 rfl) rfl (by show 2 * 0 + _ ≤ _; exact Nat.le_of_eq rfl) (hb hby at_107) (fun _ _ => ⟨rfl, e177, (by decide : 10 + 0 ≤ _), (by decide : 34 + 0 ≤ _)⟩)
  dsimp only [Pt.U, Pt.locs, Pt.cells, Pt.slots] at X178 l178 y178 z178 st178 hQ178
  subst l178 y178 z178
  obtain ⟨rfl, N178q, e178⟩ := hQ178
  have N178 := Fr.app N177 N178q
  refine Go.tr st178 ?_
  show Go p e below _ T178 (mkF m 110 #[.val (.long i0), .second, .val (.int i1), .val (.int i2), .val (.int i3), .val (.int i4), .val (.ref bs_167), .val (.ref bs_169), .val (.ref bs_171), .val (.ref bj_173), .val (.int (1 : Int32))] [(.ref bs_169)])
  refine Go.by (fun t k => XS.aload X178.here hx rfl (hb hby at_110) rfl rfl k) ?_
  show Go p e below _ T178 (mkF m 112 #[.val (.long i0), .second, .val (.int i1), .val (.int i2), .val (.int i3), .val (.int i4), .val (.ref bs_167), .val (.ref bs_169), .val (.ref bs_171), .val (.ref bj_173), .val (.int (1 : Int32))] [(.ref bs_169), (.ref bs_169)])
  refine Go.by (fun t k => Jvm.RoadKit.acmp (g := (mkF m 112 #[.val (.long i0), .second, .val (.int i1), .val (.int i2), .val (.int i3), .val (.int i4), .val (.ref bs_167), .val (.ref bs_169), .val (.ref bs_171), .val (.ref bj_173), .val (.int (1 : Int32))] [(.ref bs_169), (.ref bs_169)])) X178 hx rfl rfl rfl (pc0 := 112) (pc' := 115) (same := true) rfl (hb hby at_112) rfl (decide_eq_true rfl) (by decide) (by decide) k) ?_
  show Go p e below _ T178 (mkF m 115 #[.val (.long i0), .second, .val (.int i1), .val (.int i2), .val (.int i3), .val (.int i4), .val (.ref bs_167), .val (.ref bs_169), .val (.ref bs_171), .val (.ref bj_173), .val (.int (1 : Int32))] [])
  refine Go.by (fun t k => XS.iconst X178.here hx rfl (hb hby at_115) (XS.goto X178.here hx rfl (pc0 := 116) (pc' := 120) rfl (hb hby at_116) (by decide) (by decide) (XS.istore X178.here hx rfl (hb hby at_120) rfl (l' := #[.val (.long i0), .second, .val (.int i1), .val (.int i2), .val (.int i3), .val (.int i4), .val (.ref bs_167), .val (.ref bs_169), .val (.ref bs_171), .val (.ref bj_173), .val (.int (1 : Int32))]) rfl (XS.iload X178.here hx rfl (hb hby at_122) rfl k)))) ?_
  show Go p e below _ T178 (mkF m 124 #[.val (.long i0), .second, .val (.int i1), .val (.int i2), .val (.int i3), .val (.int i4), .val (.ref bs_167), .val (.ref bs_169), .val (.ref bs_171), .val (.ref bj_173), .val (.int (1 : Int32))] [(.int (1 : Int32))])
  refine Go.by (fun t k => XS.ifNo X178.here hx rfl (hb hby at_124) rfl ((if0 _ _).trans (feq (show ¬ ((1 : Int32) = (0 : Int32)) from (by decide))).1) k) ?_
  show Go p e below _ T178 (mkF m 127 #[.val (.long i0), .second, .val (.int i1), .val (.int i2), .val (.int i3), .val (.int i4), .val (.ref bs_167), .val (.ref bs_169), .val (.ref bs_171), .val (.ref bj_173), .val (.int (1 : Int32))] [])
  refine Go.by (fun t k => XS.aload X178.here hx rfl (hb hby at_127) rfl rfl k) ?_
  show Go p e below _ T178 (mkF m 129 #[.val (.long i0), .second, .val (.int i1), .val (.int i2), .val (.int i3), .val (.int i4), .val (.ref bs_167), .val (.ref bs_169), .val (.ref bs_171), .val (.ref bj_173), .val (.int (1 : Int32))] [(.ref bj_173)])
  obtain ⟨cq179, kq179, q179a, q179b, q179c⟩ := isOf hZ e178 P173_1
  obtain ⟨_, _, ⟨T179, L179, k179, n179⟩, -, X179, ⟨Lc179, hQ179, l179, y179, z179⟩, st179⟩ := X178.virtualBack hx (y := (⟨"com/example/spool/spool/ClaimedJob", "payload", "()Ljava/lang/String;"⟩ : MethodName)) (z := (⟨"com/example/spool/spool/ClaimedJob", "payload", "()Ljava/lang/String;"⟩ : MethodName)) hown (mvT hZ (ow82 hw)) (mvT hZ (ow83 hw)) (notFace_of_selects (args := #[]) (mvT hZ (ow85 hw))) (mvT hZ (ow85 hw)) (mvT hZ (ow84 hw)) (by decide) (backOf (W := 0) (rm_get_payload l Z a0 hw [] bj_173 bs_171 T173.heap n0 (Nat.le_trans Z0 (Nat.le_trans (Nat.le_trans (Nat.le_trans K167q.1 K169q.1) K171q.1) K173q.1)) P173_6) hZ (ow86 hw) (ow36 hw) (by decide) (by decide)) q179a q179c (g := (mkF m 129 #[.val (.long i0), .second, .val (.int i1), .val (.int i2), .val (.int i3), .val (.int i4), .val (.ref bs_167), .val (.ref bs_169), .val (.ref bs_171), .val (.ref bj_173), .val (.int (1 : Int32))] [(.ref bj_173)])) rfl (by rw [hml]; rfl) (Steps.refl _) (argsL := []) (rest := []) (lenOf opd_6 rfl) rfl (by show 2 * 0 + _ ≤ _; exact Nat.le_of_eq rfl) (hb hby at_129) (fun _ _ => ⟨rfl, e178, (by decide : 10 + 0 ≤ _), (by decide : 34 + 0 ≤ _)⟩)
  dsimp only [Pt.U, Pt.locs, Pt.cells, Pt.slots] at X179 l179 y179 z179 st179 hQ179
  subst l179 y179 z179
  obtain ⟨rfl, N179q, e179⟩ := hQ179
  have N179 := Fr.app N178 N179q
  refine Go.tr st179 ?_
  show Go p e below _ T179 (mkF m 132 #[.val (.long i0), .second, .val (.int i1), .val (.int i2), .val (.int i3), .val (.int i4), .val (.ref bs_167), .val (.ref bs_169), .val (.ref bs_171), .val (.ref bj_173), .val (.int (1 : Int32))] [(.ref bs_171)])
  refine Go.by (fun t k => XS.aload X179.here hx rfl (hb hby at_132) rfl rfl k) ?_
  show Go p e below _ T179 (mkF m 134 #[.val (.long i0), .second, .val (.int i1), .val (.int i2), .val (.int i3), .val (.int i4), .val (.ref bs_167), .val (.ref bs_169), .val (.ref bs_171), .val (.ref bj_173), .val (.int (1 : Int32))] [(.ref bs_171), (.ref bs_171)])
  refine Go.by (fun t k => Jvm.RoadKit.acmp (g := (mkF m 134 #[.val (.long i0), .second, .val (.int i1), .val (.int i2), .val (.int i3), .val (.int i4), .val (.ref bs_167), .val (.ref bs_169), .val (.ref bs_171), .val (.ref bj_173), .val (.int (1 : Int32))] [(.ref bs_171), (.ref bs_171)])) X179 hx rfl rfl rfl (pc0 := 134) (pc' := 137) (same := true) rfl (hb hby at_134) rfl (decide_eq_true rfl) (by decide) (by decide) k) ?_
  show Go p e below _ T179 (mkF m 137 #[.val (.long i0), .second, .val (.int i1), .val (.int i2), .val (.int i3), .val (.int i4), .val (.ref bs_167), .val (.ref bs_169), .val (.ref bs_171), .val (.ref bj_173), .val (.int (1 : Int32))] [])
  refine Go.by (fun t k => XS.iconst X179.here hx rfl (hb hby at_137) (XS.goto X179.here hx rfl (pc0 := 138) (pc' := 142) rfl (hb hby at_138) (by decide) (by decide) (XS.istore X179.here hx rfl (hb hby at_142) rfl (l' := #[.val (.long i0), .second, .val (.int i1), .val (.int i2), .val (.int i3), .val (.int i4), .val (.ref bs_167), .val (.ref bs_169), .val (.ref bs_171), .val (.ref bj_173), .val (.int (1 : Int32))]) rfl (XS.iload X179.here hx rfl (hb hby at_144) rfl k)))) ?_
  show Go p e below _ T179 (mkF m 146 #[.val (.long i0), .second, .val (.int i1), .val (.int i2), .val (.int i3), .val (.int i4), .val (.ref bs_167), .val (.ref bs_169), .val (.ref bs_171), .val (.ref bj_173), .val (.int (1 : Int32))] [(.int (1 : Int32))])
  refine Go.by (fun t k => XS.ifNo X179.here hx rfl (hb hby at_146) rfl ((if0 _ _).trans (feq (show ¬ ((1 : Int32) = (0 : Int32)) from (by decide))).1) k) ?_
  show Go p e below _ T179 (mkF m 149 #[.val (.long i0), .second, .val (.int i1), .val (.int i2), .val (.int i3), .val (.int i4), .val (.ref bs_167), .val (.ref bs_169), .val (.ref bs_171), .val (.ref bj_173), .val (.int (1 : Int32))] [])
  refine Go.by (fun t k => XS.aload X179.here hx rfl (hb hby at_149) rfl rfl k) ?_
  show Go p e below _ T179 (mkF m 151 #[.val (.long i0), .second, .val (.int i1), .val (.int i2), .val (.int i3), .val (.int i4), .val (.ref bs_167), .val (.ref bs_169), .val (.ref bs_171), .val (.ref bj_173), .val (.int (1 : Int32))] [(.ref bj_173)])
  obtain ⟨cq180, kq180, q180a, q180b, q180c⟩ := isOf hZ e179 P173_1
  obtain ⟨_, _, ⟨T180, L180, k180, n180⟩, -, X180, ⟨Lc180, hQ180, l180, y180, z180⟩, st180⟩ := X179.virtualBack hx (y := (⟨"com/example/spool/spool/ClaimedJob", "runAt", "()Ljava/time/Instant;"⟩ : MethodName)) (z := (⟨"com/example/spool/spool/ClaimedJob", "runAt", "()Ljava/time/Instant;"⟩ : MethodName)) hown (mvT hZ (ow87 hw)) (mvT hZ (ow88 hw)) (notFace_of_selects (args := #[]) (mvT hZ (ow90 hw))) (mvT hZ (ow90 hw)) (mvT hZ (ow89 hw)) (by decide) (backOf (W := 0) (rm_get_runAt l Z a0 hw [] bj_173 T173.heap n0 (Nat.le_trans Z0 (Nat.le_trans (Nat.le_trans (Nat.le_trans K167q.1 K169q.1) K171q.1) K173q.1)) P173_8) hZ (ow91 hw) (ow36 hw) (by decide) (by decide)) q180a q180c (g := (mkF m 151 #[.val (.long i0), .second, .val (.int i1), .val (.int i2), .val (.int i3), .val (.int i4), .val (.ref bs_167), .val (.ref bs_169), .val (.ref bs_171), .val (.ref bj_173), .val (.int (1 : Int32))] [(.ref bj_173)])) rfl (by rw [hml]; rfl) (Steps.refl _) (argsL := []) (rest := []) (lenOf opd_7 rfl) rfl (by show 2 * 0 + _ ≤ _; exact Nat.le_of_eq rfl) (hb hby at_151) (fun _ _ => ⟨rfl, e179, (by decide : 10 + 0 ≤ _), (by decide : 34 + 0 ≤ _)⟩)
  dsimp only [Pt.U, Pt.locs, Pt.cells, Pt.slots] at X180 l180 y180 z180 st180 hQ180
  subst l180 y180 z180
  obtain ⟨rfl, N180q, e180⟩ := hQ180
  have N180 := Fr.app N179 N180q
  refine Go.tr st180 ?_
  show Go p e below _ T180 (mkF m 154 #[.val (.long i0), .second, .val (.int i1), .val (.int i2), .val (.int i3), .val (.int i4), .val (.ref bs_167), .val (.ref bs_169), .val (.ref bs_171), .val (.ref bj_173), .val (.int (1 : Int32))] [.null])
  refine Go.by (fun t k => XS.ifnonnullNo X180.here hx rfl (hb hby at_154) rfl (XS.iconst X180.here hx rfl (hb hby at_157) (XS.goto X180.here hx rfl (pc0 := 158) (pc' := 162) rfl (hb hby at_158) (by decide) (by decide) (XS.istore X180.here hx rfl (hb hby at_162) rfl (l' := #[.val (.long i0), .second, .val (.int i1), .val (.int i2), .val (.int i3), .val (.int i4), .val (.ref bs_167), .val (.ref bs_169), .val (.ref bs_171), .val (.ref bj_173), .val (.int (1 : Int32))]) rfl k)))) ?_
  show Go p e below _ T180 (mkF m 164 #[.val (.long i0), .second, .val (.int i1), .val (.int i2), .val (.int i3), .val (.int i4), .val (.ref bs_167), .val (.ref bs_169), .val (.ref bs_171), .val (.ref bj_173), .val (.int (1 : Int32))] [])
  refine Go.by (fun t k => XS.iload X180.here hx rfl (hb hby at_164) rfl k) ?_
  show Go p e below _ T180 (mkF m 166 #[.val (.long i0), .second, .val (.int i1), .val (.int i2), .val (.int i3), .val (.int i4), .val (.ref bs_167), .val (.ref bs_169), .val (.ref bs_171), .val (.ref bj_173), .val (.int (1 : Int32))] [(.int (1 : Int32))])
  exact Go.retN X180 hx (t := .boolean) hret (by simp) hlk (hb hby at_166) (by first | (rw [e180]; exact ⟨rfl, N180, K174⟩) | exact ⟨rfl, N180, K174⟩) (by decide) (by decide)
set_option maxRecDepth 65536 in
set_option maxHeartbeats 40000000 in
theorem comes_1 {Post : Tables → Env → Array Value → State → Outcome → State → Prop} (hpost : ∀ tb e args s v u, (limb_1_1.after args s (.returned v) u = true ∧ limb_1_2.after args s (.returned v) u = true ∧ True) → FrameEnd s (.returned v) u (Jvm.fieldLocs frame_1_writes args s ++ Jvm.arrayLocs frame_1_arrays args s ++ Jvm.staticLocs frame_1_statics s) 32 192 → Post tb e args s (.returned v) u) :
    ArmFor flags0 classFile x code maxLocals ret World_1 tables_1 room_1 Calls_1 rest_1 Pre_1 Post := by
  intro l hfl _ _ p e ha hc hk s m args below hf hA hF happ hP
  obtain ⟨hcalls, hrest, hpre⟩ := hP
  obtain ⟨-, -, -, hnamed, -, -, -, hat⟩ := (Spec.applies_iff hf).mp happ
  obtain ⟨hg, hn⟩ := and_e (Cond.before_iff.mp (show (Jvm.Cond.and given_1 narrow_1).before args s = true from hpre))
  obtain ⟨hcount, r0⟩ := and_e hg
  obtain ⟨k0, r1⟩ := and_e r0
  obtain ⟨k1, r2⟩ := and_e r1
  obtain ⟨k2, r3⟩ := and_e r2
  obtain ⟨k3, r4⟩ := and_e r3
  obtain ⟨w0, w1, w2, w3, w4, rfl⟩ : ∃ w0 w1 w2 w3 w4 : Value, args = #[w0, w1, w2, w3, w4] := by
    have hs : args.size = 5 := by simpa [Cond.value, given_1] using hcount
    obtain ⟨L⟩ := args
    match L, hs with
    | [w0, w1, w2, w3, w4], _ => exact ⟨w0, w1, w2, w3, w4, rfl⟩
  have hw := fun d (hd : d ∈ tables_1) => atoms_spec (ws := Jvm.Cond.code x code maxLocals ret :: tables_1) hat d (List.mem_cons_of_mem _ hd)
  obtain ⟨i0, e0⟩ := isL_v k0
  obtain rfl : w0 = (.long i0) := Option.some.inj e0
  obtain ⟨i1, e1⟩ := is_v k1
  obtain rfl : w1 = (.int i1) := Option.some.inj e1
  obtain ⟨i2, e2⟩ := is_v k2
  obtain rfl : w2 = (.int i2) := Option.some.inj e2
  obtain ⟨i3, e3⟩ := is_v k3
  obtain rfl : w3 = (.int i3) := Option.some.inj e3
  obtain ⟨i4, e4⟩ := is_v r4
  obtain rfl : w4 = (.int i4) := Option.some.inj e4
  obtain ⟨hsets, hown0⟩ := atoms_of _ (rest_1_c_eq ▸ (show rest_1_c.before _ s = true from hrest))
  have n5 := not_v (Cond.before_iff.mp (hsets _ (List.mem_of_getElem? (i := 2) rfl)))
  obtain ⟨G1, eG1⟩ := is_v (Cond.before_iff.mp (hsets _ (List.mem_of_getElem? (i := 1) rfl)))
  have O2 : Sta s s.heap "java/lang/String" "COMPACT_STRINGS" "Z" (.int G1) := Sta.start eG1 (Or.inl (hsets _ (List.mem_of_getElem? (i := 0) rfl)))
  obtain ⟨G3, eG3, rG3⟩ := isR_v (Cond.before_iff.mp (hsets _ (List.mem_of_getElem? (i := 8) rfl)))
  have O4 : Sta s s.heap "jdk/internal/util/Preconditions" "SIOOBE_FORMATTER" "Ljava/util/function/BiFunction;" G3 := Sta.start eG3 (Or.inl (hsets _ (List.mem_of_getElem? (i := 7) rfl)))
  have P5 : ¬ (G1 = (0 : Int32)) := gotF (Cond.eq_ints eG1 (Term.int_eval (0))) n5
  obtain ⟨n, o, h1, h2, h3, _, L, rfl, ⟨rfl, N, -⟩, hq⟩ := rm_law l s _ hw tables_1 i0 i1 i2 i3 i4 G1 s.heap s.heap.size (Nat.le_refl _) O2 P5 (Old.start s) p e ha hc hk s m _ below hf ((Spec.applies_iff_loose hf).mp happ).1 ⟨rfl, State.Warmed39.refl s, rfl⟩ trivial
  refine ⟨n, _, h1, h2, h3, hpost _ _ _ _ _ _ ⟨Cond.after_iff.mpr rfl, Cond.after_iff.mpr (eq_i res_at (Term.int_eval (1)) rfl), trivial⟩ ⟨hq.1, hq.2.1, (hq.2.2.sift fun y hy => Or.inr (N y hy)).mono (by decide) (by decide)⟩⟩
theorem main_1_1 : Claimed_1_1 := comes_1 fun _ _ _ _ _ _ h hF => ⟨h.1, hF⟩
theorem main_1_2 : Claimed_1_2 := comes_1 fun _ _ _ _ _ _ h hF => ⟨h.2.1, hF⟩
end Jvm.Pilot.@@N@@
namespace Jvm.Pilot.@@N@@
open Jvm Jvm.ClassFile Sem Op Lib Jvm.Free Jvm.Stand Jvm.Pilot.@@N@@.Jvm.D
/-! MADE BY PROGRAM (witnessworld.py) out of the Statement's table words and the real class files: 20 classes; the members and pool entries that the words name. The judged class is class 1, her method 2. -/
namespace start1
open Jvm.ClassFile
def u (s : String) : CpInfo := .utf8 (stringToUtf16 s)
/-- a pool by its gaps: so many unusable entries, then the entry; so many at the end -/
def gap : Nat → List CpInfo → List CpInfo
  | 0, r => r
  | n + 1, r => .unusable :: gap n r
def poolList (es : List (Nat × CpInfo)) (last : Nat) : List CpInfo := es.foldr (fun e r => gap e.1 (e.2 :: r)) (gap last [])
def pool (es : List (Nat × CpInfo)) (last : Nat) : Array CpInfo := ⟨poolList es last⟩
def fileOf (pool : Array CpInfo) (this : Nat) (attrs : Array Attribute := #[]) (ms : Array MethodInfo := #[]) (fl : Nat := 33) (sup : Nat := 0) (ifs : Array Nat := #[]) (fds : Array FieldInfo := #[]) : ClassFile where
  minorVersion := 0
  majorVersion := 65
  constantPool := pool
  accessFlags := fl
  thisClass := this
  superClass := sup
  interfaces := ifs
  fields := fds
  methods := ms
  attributes := attrs
def plain (name : String) (sup : Option ClassId) : Class where
  name := name
  kind := .ordinary
  loader := none
  accessFlags := 33
  super := sup
  interfaces := #[]
  cf := none
  fields := #[]
  methods := #[]
  instanceTypes := #[]
  staticTypes := #[]
  resolved := #[]
  callSites := []
  init := .initialized
  statics := none
  mirror := none

def pool0 : Array CpInfo := pool [(5, u "<init>"), (0, u "()V"), (1, .class_ 10), (1, u "java/lang/Object")] 113

def k0c0 : Code := { maxStack := 0, maxLocals := 1, code := object_method_1_code, exceptionTable := #[], attributes := #[] }
def k0m0 : Method := { name := "<init>", desc := "()V", sig := { parameters := [], returnType := none }, accessFlags := 1, code := some k0c0 }
/-- java/lang/Object -/
def k0 : Class := { plain "java/lang/Object" none with
  accessFlags := 33
  interfaces := #[]
  cf := some (fileOf pool0 8 #[] #[{ accessFlags := 1, nameIndex := 5, descriptorIndex := 6, attributes := #[] }] 33 0 #[] #[])
  fields := #[]
  methods := #[k0m0]
  instanceTypes := #[]
  staticTypes := #[]
  resolved := Array.replicate 124 none
  statics := none }

def pool1 : Array CpInfo := pool [(2, .class_ 4), (1, u "java/lang/Object"), (0, u "<init>"), (0, u "()V"), (0, .class_ 8), (0, u "java/lang/String"), (0, .methodref 7 10), (0, .nameAndType 5 11), (0, u "([C)V"), (0, .methodref 13 14), (0, .class_ 15), (0, .nameAndType 16 17), (0, u "com/example/spool/spool/ClaimedJobUnclaimedPinLaw"), (0, u "draw"), (0, u "(I)Ljava/lang/String;"), (0, .methodref 19 20), (0, .class_ 21), (0, .nameAndType 22 23), (0, u "com/example/spool/spool/ClaimedJob"), (0, u "unclaimed"), (0, u "(JILjava/lang/String;Ljava/lang/String;Ljava/lang/String;)Lcom/example/spool/spool/ClaimedJob;"), (0, .methodref 19 25), (0, .nameAndType 26 27), (0, u "id"), (0, u "()J"), (0, .methodref 19 29), (0, .nameAndType 30 31), (0, u "attempt"), (0, u "()I"), (0, .methodref 19 33), (0, .nameAndType 34 35), (0, u "queue"), (0, u "()Ljava/lang/String;"), (0, .methodref 19 37), (0, .nameAndType 38 35), (0, u "kind"), (0, .methodref 19 40), (0, .nameAndType 41 35), (0, u "payload"), (0, .methodref 19 43), (0, .nameAndType 44 45), (0, u "runAt"), (0, u "()Ljava/time/Instant;"), (2, u "law"), (0, u "(JIIII)Z")] 3

def k1m0 : Method := { name := "<init>", desc := "()V", sig := { parameters := [], returnType := none }, accessFlags := 1, code := none }
def k1c1 : Code := { maxStack := 4, maxLocals := 2, code := method_2_code, exceptionTable := #[], attributes := #[] }
def k1m1 : Method := { name := "draw", desc := "(I)Ljava/lang/String;", sig := { parameters := [.int], returnType := some (.object "java/lang/String") }, accessFlags := 10, code := some k1c1 }
def k1c2 : Code := { maxStack := 6, maxLocals := 11, code := code, exceptionTable := #[], attributes := #[] }
def k1m2 : Method := { name := "law", desc := "(JIIII)Z", sig := { parameters := [.long, .int, .int, .int, .int], returnType := some .boolean }, accessFlags := 9, code := some k1c2 }
/-- com/example/spool/spool/ClaimedJobUnclaimedPinLaw -/
def k1 : Class := { plain "com/example/spool/spool/ClaimedJobUnclaimedPinLaw" (some 0) with
  accessFlags := 49
  interfaces := #[]
  cf := some (fileOf pool1 13 #[] #[{ accessFlags := 1, nameIndex := 5, descriptorIndex := 6, attributes := #[] }, { accessFlags := 10, nameIndex := 16, descriptorIndex := 17, attributes := #[] }, { accessFlags := 9, nameIndex := 48, descriptorIndex := 49, attributes := #[] }] 49 2 #[] #[])
  fields := #[]
  methods := #[k1m0, k1m1, k1m2]
  instanceTypes := #[]
  staticTypes := #[]
  resolved := Array.replicate 53 none
  statics := none }

def pool2 : Array CpInfo := pool [(1, .class_ 2), (0, u "java/io/Serializable"), (0, .class_ 4), (0, u "java/lang/Object")] 2

/-- java/io/Serializable -/
def k2 : Class := { plain "java/io/Serializable" (some 0) with
  accessFlags := 1537
  interfaces := #[]
  cf := some (fileOf pool2 1 #[] #[] 1537 3 #[] #[])
  fields := #[]
  methods := #[]
  instanceTypes := #[]
  staticTypes := #[]
  resolved := Array.replicate 7 none
  statics := none }

def pool3 : Array CpInfo := pool [(1, .class_ 2), (0, u "java/lang/Comparable"), (0, .class_ 4), (0, u "java/lang/Object")] 7

/-- java/lang/Comparable -/
def k3 : Class := { plain "java/lang/Comparable" (some 0) with
  accessFlags := 1537
  interfaces := #[]
  cf := some (fileOf pool3 1 #[] #[] 1537 3 #[] #[])
  fields := #[]
  methods := #[]
  instanceTypes := #[]
  staticTypes := #[]
  resolved := Array.replicate 12 none
  statics := none }

def pool4 : Array CpInfo := pool [(2, .class_ 4), (1, u "java/lang/CharSequence"), (42, .class_ 48), (0, u "java/lang/CharSequence$1CodePointIterator"), (10, .class_ 60), (0, u "java/lang/CharSequence$1CharIterator"), (5, .class_ 67), (0, u "java/lang/Object")] 63

/-- java/lang/CharSequence -/
def k4 : Class := { plain "java/lang/CharSequence" (some 0) with
  accessFlags := 1537
  interfaces := #[]
  cf := some (fileOf pool4 2 #[.nestMembers #[47, 59]] #[] 1537 66 #[] #[])
  fields := #[]
  methods := #[]
  instanceTypes := #[]
  staticTypes := #[]
  resolved := Array.replicate 131 none
  statics := none }

def pool5 : Array CpInfo := pool [(1, .class_ 2), (0, u "java/lang/constant/Constable"), (0, .class_ 4), (0, u "java/lang/Object")] 6

/-- java/lang/constant/Constable -/
def k5 : Class := { plain "java/lang/constant/Constable" (some 0) with
  accessFlags := 1537
  interfaces := #[]
  cf := some (fileOf pool5 1 #[] #[] 1537 3 #[] #[])
  fields := #[]
  methods := #[]
  instanceTypes := #[]
  staticTypes := #[]
  resolved := Array.replicate 11 none
  statics := none }

def pool6 : Array CpInfo := pool [(1, .class_ 2), (0, u "java/lang/constant/ConstantDesc"), (0, .class_ 4), (0, u "java/lang/Object")] 32

/-- java/lang/constant/ConstantDesc -/
def k6 : Class := { plain "java/lang/constant/ConstantDesc" (some 0) with
  accessFlags := 1537
  interfaces := #[]
  cf := some (fileOf pool6 1 #[] #[] 1537 3 #[] #[])
  fields := #[]
  methods := #[]
  instanceTypes := #[]
  staticTypes := #[]
  resolved := Array.replicate 37 none
  statics := none }

def pool7 : Array CpInfo := pool [(1, .methodref 2 3), (0, .class_ 4), (0, .nameAndType 5 6), (0, u "java/lang/Object"), (0, u "<init>"), (0, u "()V"), (2, .fieldref 10 11), (0, .class_ 12), (0, .nameAndType 13 14), (0, u "java/lang/String"), (0, u "value"), (0, u "[B"), (0, .fieldref 10 16), (0, .nameAndType 17 18), (0, u "coder"), (0, u "B"), (2, u "hash"), (0, u "I"), (2, u "hashIsZero"), (0, u "Z"), (0, .methodref 10 28), (0, .nameAndType 5 29), (0, u "([CIILjava/lang/Void;)V"), (8, .fieldref 10 39), (0, .nameAndType 40 26), (0, u "COMPACT_STRINGS"), (1, .class_ 44), (1, u "java/lang/StringUTF16"), (0, u "compress"), (1, .methodref 42 48), (0, .nameAndType 49 50), (0, u "coderFromArrayLen"), (0, u "([BI)B"), (126, .methodref 42 178), (0, .nameAndType 45 179), (0, u "([CII)[B"), (395, .class_ 576), (0, u "java/lang/CharSequence"), (22, u "CASE_INSENSITIVE_ORDER"), (0, u "Ljava/util/Comparator;"), (409, u "([C)V"), (90, u "serialPersistentFields"), (0, u "[Ljava/io/ObjectStreamField;"), (0, .class_ 1104), (0, u "java/lang/String$CaseInsensitiveComparator"), (1, .class_ 1107), (0, u "java/io/Serializable"), (0, .class_ 1109), (0, u "java/lang/Comparable"), (0, .class_ 1111), (0, u "java/lang/constant/Constable"), (0, .class_ 1113), (0, u "java/lang/constant/ConstantDesc"), (2, u "serialVersionUID"), (0, u "J"), (3, u "REPL"), (0, u "C"), (2, u "LATIN1"), (1, u "UTF16")] 323

def k7m0 : Method := { name := "<init>", desc := "()V", sig := { parameters := [], returnType := none }, accessFlags := 1, code := none }
def k7c1 : Code := { maxStack := 5, maxLocals := 2, code := jdk_42_method_3_code, exceptionTable := #[], attributes := #[] }
def k7m1 : Method := { name := "<init>", desc := "([C)V", sig := { parameters := [(.array .char)], returnType := none }, accessFlags := 1, code := some k7c1 }
def k7c2 : Code := { maxStack := 4, maxLocals := 6, code := jdk_42_method_149_code, exceptionTable := #[], attributes := #[] }
def k7m2 : Method := { name := "<init>", desc := "([CIILjava/lang/Void;)V", sig := { parameters := [(.array .char), .int, .int, (.object "java/lang/Void")], returnType := none }, accessFlags := 2, code := some k7c2 }
/-- java/lang/String -/
def k7 : Class := { plain "java/lang/String" (some 0) with
  accessFlags := 49
  interfaces := #[2, 3, 4, 5, 6]
  cf := some (fileOf pool7 10 #[.nestMembers #[1103]] #[{ accessFlags := 1, nameIndex := 5, descriptorIndex := 6, attributes := #[] }, { accessFlags := 1, nameIndex := 5, descriptorIndex := 1010, attributes := #[] }, { accessFlags := 2, nameIndex := 5, descriptorIndex := 29, attributes := #[] }] 49 2 #[1106, 1108, 575, 1110, 1112] #[{ accessFlags := 18, nameIndex := 13, descriptorIndex := 14, attributes := #[] }, { accessFlags := 18, nameIndex := 17, descriptorIndex := 18, attributes := #[] }, { accessFlags := 2, nameIndex := 21, descriptorIndex := 22, attributes := #[] }, { accessFlags := 2, nameIndex := 25, descriptorIndex := 26, attributes := #[] }, { accessFlags := 26, nameIndex := 1116, descriptorIndex := 1117, attributes := #[] }, { accessFlags := 24, nameIndex := 40, descriptorIndex := 26, attributes := #[] }, { accessFlags := 26, nameIndex := 1101, descriptorIndex := 1102, attributes := #[] }, { accessFlags := 26, nameIndex := 1121, descriptorIndex := 1122, attributes := #[] }, { accessFlags := 25, nameIndex := 599, descriptorIndex := 600, attributes := #[] }, { accessFlags := 24, nameIndex := 1125, descriptorIndex := 18, attributes := #[] }, { accessFlags := 24, nameIndex := 1127, descriptorIndex := 18, attributes := #[] }])
  fields := #[{ name := "value", type := (.array .byte), accessFlags := 18, slot := 0, constantValue := 0 }, { name := "coder", type := .byte, accessFlags := 18, slot := 1, constantValue := 0 }, { name := "hash", type := .int, accessFlags := 2, slot := 2, constantValue := 0 }, { name := "hashIsZero", type := .boolean, accessFlags := 2, slot := 3, constantValue := 0 }, { name := "serialVersionUID", type := .long, accessFlags := 26, slot := 0, constantValue := 0 }, { name := "COMPACT_STRINGS", type := .boolean, accessFlags := 24, slot := 1, constantValue := 0 }, { name := "serialPersistentFields", type := (.array (.object "java/io/ObjectStreamField")), accessFlags := 26, slot := 2, constantValue := 0 }, { name := "REPL", type := .char, accessFlags := 26, slot := 3, constantValue := 0 }, { name := "CASE_INSENSITIVE_ORDER", type := (.object "java/util/Comparator"), accessFlags := 25, slot := 4, constantValue := 0 }, { name := "LATIN1", type := .byte, accessFlags := 24, slot := 5, constantValue := 0 }, { name := "UTF16", type := .byte, accessFlags := 24, slot := 6, constantValue := 0 }]
  methods := #[k7m0, k7m1, k7m2]
  instanceTypes := #[(.array .byte), .byte, .int, .boolean]
  staticTypes := #[.long, .boolean, (.array (.object "java/io/ObjectStreamField")), .char, (.object "java/util/Comparator"), .byte, .byte]
  resolved := Array.replicate 1451 none
  statics := some 0 }

def pool8 : Array CpInfo := pool [(6, .class_ 8), (1, u "java/lang/Object"), (0, u "<init>"), (0, u "()V"), (1, .class_ 14), (1, u "java/lang/StringUTF16"), (31, u "$assertionsDisabled"), (0, u "Z"), (13, u "HI_BYTE_SHIFT"), (0, u "I"), (2, u "LO_BYTE_SHIFT"), (49, .methodref 12 116), (0, .nameAndType 117 118), (0, u "compress"), (0, u "([CI[BII)I"), (3, u "([CII)[B"), (138, u "coderFromArrayLen"), (0, u "([BI)B"), (106, .class_ 371), (1, u "java/lang/StringUTF16$LinesSpliterator"), (58, u "MAX_LENGTH"), (196, .class_ 628), (0, u "java/lang/StringUTF16$CodePointsSpliterator"), (0, .class_ 630), (0, u "java/lang/StringUTF16$CharsSpliterator")] 4

def k8m0 : Method := { name := "<init>", desc := "()V", sig := { parameters := [], returnType := none }, accessFlags := 0, code := none }
def k8c1 : Code := { maxStack := 2, maxLocals := 2, code := jdk_52_method_15_code, exceptionTable := #[], attributes := #[] }
def k8m1 : Method := { name := "coderFromArrayLen", desc := "([BI)B", sig := { parameters := [(.array .byte), .int], returnType := some .byte }, accessFlags := 8, code := some k8c1 }
def k8c2 : Code := { maxStack := 5, maxLocals := 6, code := jdk_52_method_16_code, exceptionTable := #[], attributes := #[] }
def k8m2 : Method := { name := "compress", desc := "([CII)[B", sig := { parameters := [(.array .char), .int, .int], returnType := some (.array .byte) }, accessFlags := 9, code := some k8c2 }
def k8c3 : Code := { maxStack := 3, maxLocals := 7, code := jdk_52_method_21_code, exceptionTable := #[], attributes := #[] }
def k8m3 : Method := { name := "compress", desc := "([CI[BII)I", sig := { parameters := [(.array .char), .int, (.array .byte), .int, .int], returnType := some .int }, accessFlags := 9, code := some k8c3 }
/-- java/lang/StringUTF16 -/
def k8 : Class := { plain "java/lang/StringUTF16" (some 0) with
  accessFlags := 48
  interfaces := #[]
  cf := some (fileOf pool8 12 #[.nestMembers #[627, 629, 369]] #[{ accessFlags := 0, nameIndex := 9, descriptorIndex := 10, attributes := #[] }, { accessFlags := 8, nameIndex := 261, descriptorIndex := 262, attributes := #[] }, { accessFlags := 9, nameIndex := 117, descriptorIndex := 122, attributes := #[] }, { accessFlags := 9, nameIndex := 117, descriptorIndex := 118, attributes := #[] }] 48 6 #[] #[{ accessFlags := 26, nameIndex := 61, descriptorIndex := 62, attributes := #[] }, { accessFlags := 26, nameIndex := 65, descriptorIndex := 62, attributes := #[] }, { accessFlags := 24, nameIndex := 430, descriptorIndex := 62, attributes := #[] }, { accessFlags := 4120, nameIndex := 46, descriptorIndex := 47, attributes := #[] }])
  fields := #[{ name := "HI_BYTE_SHIFT", type := .int, accessFlags := 26, slot := 0, constantValue := 0 }, { name := "LO_BYTE_SHIFT", type := .int, accessFlags := 26, slot := 1, constantValue := 0 }, { name := "MAX_LENGTH", type := .int, accessFlags := 24, slot := 2, constantValue := 0 }, { name := "$assertionsDisabled", type := .boolean, accessFlags := 4120, slot := 3, constantValue := 0 }]
  methods := #[k8m0, k8m1, k8m2, k8m3]
  instanceTypes := #[]
  staticTypes := #[.int, .int, .int, .boolean]
  resolved := Array.replicate 635 none
  statics := none }

def pool9 : Array CpInfo := pool [(1, .methodref 2 3), (0, .class_ 4), (0, .nameAndType 5 6), (0, u "java/lang/Object"), (0, u "<init>"), (0, u "()V"), (0, .fieldref 8 9), (0, .class_ 10), (0, .nameAndType 11 12), (0, u "com/example/spool/spool/ClaimedJob"), (0, u "id"), (0, u "J"), (0, .fieldref 8 14), (0, .nameAndType 15 16), (0, u "attempt"), (0, u "I"), (0, .fieldref 8 18), (0, .nameAndType 19 20), (0, u "queue"), (0, u "Ljava/lang/String;"), (0, .fieldref 8 22), (0, .nameAndType 23 20), (0, u "kind"), (0, .fieldref 8 25), (0, .nameAndType 26 20), (0, u "payload"), (0, .fieldref 8 28), (0, .nameAndType 29 30), (0, u "timeout"), (0, u "Ljava/time/Duration;"), (0, .fieldref 8 32), (0, .nameAndType 33 34), (0, u "runAt"), (0, u "Ljava/time/Instant;"), (0, .fieldref 8 36), (0, .nameAndType 37 20), (0, u "schedule"), (0, .fieldref 8 39), (0, .nameAndType 40 34), (0, u "slot"), (0, .methodref 8 42), (0, .nameAndType 5 43), (0, u "(JILjava/lang/String;Ljava/lang/String;Ljava/lang/String;Ljava/time/Duration;Ljava/time/Instant;Ljava/lang/String;Ljava/time/Instant;)V"), (8, u "holder"), (0, u "Lcom/example/spool/spool/ClaimedJob$Holder;"), (13, .class_ 69), (1, u "com/example/spool/spool/ClaimedJob$Holder"), (29, u "unclaimed"), (0, u "(JILjava/lang/String;Ljava/lang/String;Ljava/lang/String;)Lcom/example/spool/spool/ClaimedJob;"), (0, u "()J"), (0, u "()I"), (0, u "()Ljava/lang/String;"), (5, u "()Ljava/time/Instant;")] 30

def k9c0 : Code := { maxStack := 3, maxLocals := 11, code := prog_2_method_1_code, exceptionTable := #[], attributes := #[] }
def k9m0 : Method := { name := "<init>", desc := "(JILjava/lang/String;Ljava/lang/String;Ljava/lang/String;Ljava/time/Duration;Ljava/time/Instant;Ljava/lang/String;Ljava/time/Instant;)V", sig := { parameters := [.long, .int, (.object "java/lang/String"), (.object "java/lang/String"), (.object "java/lang/String"), (.object "java/time/Duration"), (.object "java/time/Instant"), (.object "java/lang/String"), (.object "java/time/Instant")], returnType := none }, accessFlags := 0, code := some k9c0 }
def k9c1 : Code := { maxStack := 12, maxLocals := 6, code := prog_2_method_2_code, exceptionTable := #[], attributes := #[] }
def k9m1 : Method := { name := "unclaimed", desc := "(JILjava/lang/String;Ljava/lang/String;Ljava/lang/String;)Lcom/example/spool/spool/ClaimedJob;", sig := { parameters := [.long, .int, (.object "java/lang/String"), (.object "java/lang/String"), (.object "java/lang/String")], returnType := some (.object "com/example/spool/spool/ClaimedJob") }, accessFlags := 9, code := some k9c1 }
def k9c2 : Code := { maxStack := 2, maxLocals := 1, code := prog_2_method_3_code, exceptionTable := #[], attributes := #[] }
def k9m2 : Method := { name := "id", desc := "()J", sig := { parameters := [], returnType := some .long }, accessFlags := 1, code := some k9c2 }
def k9c3 : Code := { maxStack := 1, maxLocals := 1, code := prog_2_method_4_code, exceptionTable := #[], attributes := #[] }
def k9m3 : Method := { name := "attempt", desc := "()I", sig := { parameters := [], returnType := some .int }, accessFlags := 1, code := some k9c3 }
def k9c4 : Code := { maxStack := 1, maxLocals := 1, code := prog_2_method_5_code, exceptionTable := #[], attributes := #[] }
def k9m4 : Method := { name := "queue", desc := "()Ljava/lang/String;", sig := { parameters := [], returnType := some (.object "java/lang/String") }, accessFlags := 1, code := some k9c4 }
def k9c5 : Code := { maxStack := 1, maxLocals := 1, code := prog_2_method_6_code, exceptionTable := #[], attributes := #[] }
def k9m5 : Method := { name := "kind", desc := "()Ljava/lang/String;", sig := { parameters := [], returnType := some (.object "java/lang/String") }, accessFlags := 1, code := some k9c5 }
def k9c6 : Code := { maxStack := 1, maxLocals := 1, code := prog_2_method_7_code, exceptionTable := #[], attributes := #[] }
def k9m6 : Method := { name := "payload", desc := "()Ljava/lang/String;", sig := { parameters := [], returnType := some (.object "java/lang/String") }, accessFlags := 1, code := some k9c6 }
def k9c7 : Code := { maxStack := 1, maxLocals := 1, code := prog_2_method_11_code, exceptionTable := #[], attributes := #[] }
def k9m7 : Method := { name := "runAt", desc := "()Ljava/time/Instant;", sig := { parameters := [], returnType := some (.object "java/time/Instant") }, accessFlags := 0, code := some k9c7 }
/-- com/example/spool/spool/ClaimedJob -/
def k9 : Class := { plain "com/example/spool/spool/ClaimedJob" (some 0) with
  accessFlags := 49
  interfaces := #[]
  cf := some (fileOf pool9 8 #[.nestMembers #[67]] #[{ accessFlags := 0, nameIndex := 5, descriptorIndex := 43, attributes := #[] }, { accessFlags := 9, nameIndex := 99, descriptorIndex := 100, attributes := #[] }, { accessFlags := 1, nameIndex := 11, descriptorIndex := 101, attributes := #[] }, { accessFlags := 1, nameIndex := 15, descriptorIndex := 102, attributes := #[] }, { accessFlags := 1, nameIndex := 19, descriptorIndex := 103, attributes := #[] }, { accessFlags := 1, nameIndex := 23, descriptorIndex := 103, attributes := #[] }, { accessFlags := 1, nameIndex := 26, descriptorIndex := 103, attributes := #[] }, { accessFlags := 0, nameIndex := 33, descriptorIndex := 109, attributes := #[] }] 49 2 #[] #[{ accessFlags := 18, nameIndex := 11, descriptorIndex := 12, attributes := #[] }, { accessFlags := 18, nameIndex := 15, descriptorIndex := 16, attributes := #[] }, { accessFlags := 18, nameIndex := 19, descriptorIndex := 20, attributes := #[] }, { accessFlags := 18, nameIndex := 23, descriptorIndex := 20, attributes := #[] }, { accessFlags := 18, nameIndex := 26, descriptorIndex := 20, attributes := #[] }, { accessFlags := 18, nameIndex := 29, descriptorIndex := 30, attributes := #[] }, { accessFlags := 18, nameIndex := 33, descriptorIndex := 34, attributes := #[] }, { accessFlags := 18, nameIndex := 37, descriptorIndex := 20, attributes := #[] }, { accessFlags := 18, nameIndex := 40, descriptorIndex := 34, attributes := #[] }, { accessFlags := 66, nameIndex := 52, descriptorIndex := 53, attributes := #[] }])
  fields := #[{ name := "id", type := .long, accessFlags := 18, slot := 0, constantValue := 0 }, { name := "attempt", type := .int, accessFlags := 18, slot := 1, constantValue := 0 }, { name := "queue", type := (.object "java/lang/String"), accessFlags := 18, slot := 2, constantValue := 0 }, { name := "kind", type := (.object "java/lang/String"), accessFlags := 18, slot := 3, constantValue := 0 }, { name := "payload", type := (.object "java/lang/String"), accessFlags := 18, slot := 4, constantValue := 0 }, { name := "timeout", type := (.object "java/time/Duration"), accessFlags := 18, slot := 5, constantValue := 0 }, { name := "runAt", type := (.object "java/time/Instant"), accessFlags := 18, slot := 6, constantValue := 0 }, { name := "schedule", type := (.object "java/lang/String"), accessFlags := 18, slot := 7, constantValue := 0 }, { name := "slot", type := (.object "java/time/Instant"), accessFlags := 18, slot := 8, constantValue := 0 }, { name := "holder", type := (.object "com/example/spool/spool/ClaimedJob$Holder"), accessFlags := 66, slot := 9, constantValue := 0 }]
  methods := #[k9m0, k9m1, k9m2, k9m3, k9m4, k9m5, k9m6, k9m7]
  instanceTypes := #[.long, .int, (.object "java/lang/String"), (.object "java/lang/String"), (.object "java/lang/String"), (.object "java/time/Duration"), (.object "java/time/Instant"), (.object "java/lang/String"), (.object "java/time/Instant"), (.object "com/example/spool/spool/ClaimedJob$Holder")]
  staticTypes := #[]
  resolved := Array.replicate 140 none
  statics := none }

def pool10 : Array CpInfo := pool [(4, .class_ 6), (1, u "java/lang/Object"), (0, u "<init>"), (0, u "()V"), (5, .class_ 16), (1, u "java/lang/StringLatin1"), (104, u "$assertionsDisabled"), (0, u "Z"), (98, .class_ 223), (1, u "java/lang/StringLatin1$LinesSpliterator"), (166, .class_ 391), (0, u "java/lang/StringLatin1$CharsSpliterator")] 3

def k10m0 : Method := { name := "<init>", desc := "()V", sig := { parameters := [], returnType := none }, accessFlags := 0, code := none }
/-- java/lang/StringLatin1 -/
def k10 : Class := { plain "java/lang/StringLatin1" (some 0) with
  accessFlags := 48
  interfaces := #[]
  cf := some (fileOf pool10 14 #[.nestMembers #[390, 221]] #[{ accessFlags := 0, nameIndex := 7, descriptorIndex := 8, attributes := #[] }] 48 4 #[] #[{ accessFlags := 4120, nameIndex := 121, descriptorIndex := 122, attributes := #[] }])
  fields := #[{ name := "$assertionsDisabled", type := .boolean, accessFlags := 4120, slot := 0, constantValue := 0 }]
  methods := #[k10m0]
  instanceTypes := #[]
  staticTypes := #[.boolean]
  resolved := Array.replicate 395 none
  statics := none }

def pool11 : Array CpInfo := pool [(2, .class_ 4), (1, u "java/lang/Object"), (0, u "<init>"), (0, u "()V"), (17, .class_ 26), (1, u "jdk/internal/util/Preconditions"), (28, .class_ 56), (0, u "jdk/internal/util/Preconditions$4"), (57, .class_ 115), (0, u "jdk/internal/util/Preconditions$1"), (7, u "SIOOBE_FORMATTER"), (0, u "Ljava/util/function/BiFunction;"), (0, .class_ 126), (0, u "jdk/internal/util/Preconditions$2"), (3, u "AIOOBE_FORMATTER"), (0, .class_ 132), (0, u "jdk/internal/util/Preconditions$3"), (3, u "IOOBE_FORMATTER")] 57

def k11m0 : Method := { name := "<init>", desc := "()V", sig := { parameters := [], returnType := none }, accessFlags := 1, code := none }
/-- jdk/internal/util/Preconditions -/
def k11 : Class := { plain "jdk/internal/util/Preconditions" (some 0) with
  accessFlags := 33
  interfaces := #[]
  cf := some (fileOf pool11 24 #[.nestMembers #[55, 131, 125, 114]] #[{ accessFlags := 1, nameIndex := 5, descriptorIndex := 6, attributes := #[] }] 33 2 #[] #[{ accessFlags := 25, nameIndex := 123, descriptorIndex := 124, attributes := #[] }, { accessFlags := 25, nameIndex := 130, descriptorIndex := 124, attributes := #[] }, { accessFlags := 25, nameIndex := 136, descriptorIndex := 124, attributes := #[] }])
  fields := #[{ name := "SIOOBE_FORMATTER", type := (.object "java/util/function/BiFunction"), accessFlags := 25, slot := 0, constantValue := 0 }, { name := "AIOOBE_FORMATTER", type := (.object "java/util/function/BiFunction"), accessFlags := 25, slot := 1, constantValue := 0 }, { name := "IOOBE_FORMATTER", type := (.object "java/util/function/BiFunction"), accessFlags := 25, slot := 2, constantValue := 0 }]
  methods := #[k11m0]
  instanceTypes := #[]
  staticTypes := #[(.object "java/util/function/BiFunction"), (.object "java/util/function/BiFunction"), (.object "java/util/function/BiFunction")]
  resolved := Array.replicate 194 none
  statics := some 1 }

def pool12 : Array CpInfo := pool [(9, u "<init>"), (6, .class_ 18), (1, u "java/lang/Object"), (0, u "()V"), (1, .class_ 23), (1, u "jdk/internal/util/ArraysSupport"), (0, u "LOG2_ARRAY_LONG_INDEX_SCALE"), (0, u "I"), (2, u "U"), (0, u "Ljdk/internal/misc/Unsafe;"), (8, u "BIG_ENDIAN"), (0, u "Z"), (8, u "LOG2_BYTE_BIT_SIZE"), (4, u "LOG2_ARRAY_INT_INDEX_SCALE"), (54, u "JLA"), (0, u "Ljdk/internal/access/JavaLangAccess;"), (11, u "LOG2_ARRAY_BOOLEAN_INDEX_SCALE"), (9, u "LOG2_ARRAY_BYTE_INDEX_SCALE"), (5, u "LOG2_ARRAY_CHAR_INDEX_SCALE"), (5, u "LOG2_ARRAY_SHORT_INDEX_SCALE"), (18, u "LOG2_ARRAY_FLOAT_INDEX_SCALE"), (24, u "LOG2_ARRAY_DOUBLE_INDEX_SCALE"), (89, u "T_BOOLEAN"), (2, u "T_CHAR"), (1, u "T_FLOAT"), (1, u "T_DOUBLE"), (1, u "T_BYTE"), (1, u "T_SHORT"), (1, u "T_INT"), (1, u "T_LONG"), (1, u "SOFT_MAX_ARRAY_LENGTH")] 83

def k12m0 : Method := { name := "<init>", desc := "()V", sig := { parameters := [], returnType := none }, accessFlags := 2, code := none }
/-- jdk/internal/util/ArraysSupport -/
def k12 : Class := { plain "jdk/internal/util/ArraysSupport" (some 0) with
  accessFlags := 33
  interfaces := #[]
  cf := some (fileOf pool12 21 #[] #[{ accessFlags := 2, nameIndex := 9, descriptorIndex := 19, attributes := #[] }] 33 16 #[] #[{ accessFlags := 24, nameIndex := 28, descriptorIndex := 29, attributes := #[] }, { accessFlags := 26, nameIndex := 38, descriptorIndex := 39, attributes := #[] }, { accessFlags := 25, nameIndex := 121, descriptorIndex := 25, attributes := #[] }, { accessFlags := 25, nameIndex := 131, descriptorIndex := 25, attributes := #[] }, { accessFlags := 25, nameIndex := 137, descriptorIndex := 25, attributes := #[] }, { accessFlags := 25, nameIndex := 143, descriptorIndex := 25, attributes := #[] }, { accessFlags := 25, nameIndex := 53, descriptorIndex := 25, attributes := #[] }, { accessFlags := 25, nameIndex := 24, descriptorIndex := 25, attributes := #[] }, { accessFlags := 25, nameIndex := 162, descriptorIndex := 25, attributes := #[] }, { accessFlags := 25, nameIndex := 187, descriptorIndex := 25, attributes := #[] }, { accessFlags := 26, nameIndex := 48, descriptorIndex := 25, attributes := #[] }, { accessFlags := 25, nameIndex := 277, descriptorIndex := 25, attributes := #[] }, { accessFlags := 25, nameIndex := 280, descriptorIndex := 25, attributes := #[] }, { accessFlags := 25, nameIndex := 282, descriptorIndex := 25, attributes := #[] }, { accessFlags := 25, nameIndex := 284, descriptorIndex := 25, attributes := #[] }, { accessFlags := 25, nameIndex := 286, descriptorIndex := 25, attributes := #[] }, { accessFlags := 25, nameIndex := 288, descriptorIndex := 25, attributes := #[] }, { accessFlags := 25, nameIndex := 290, descriptorIndex := 25, attributes := #[] }, { accessFlags := 25, nameIndex := 292, descriptorIndex := 25, attributes := #[] }, { accessFlags := 26, nameIndex := 108, descriptorIndex := 109, attributes := #[] }, { accessFlags := 25, nameIndex := 294, descriptorIndex := 25, attributes := #[] }])
  fields := #[{ name := "U", type := (.object "jdk/internal/misc/Unsafe"), accessFlags := 24, slot := 0, constantValue := 0 }, { name := "BIG_ENDIAN", type := .boolean, accessFlags := 26, slot := 1, constantValue := 0 }, { name := "LOG2_ARRAY_BOOLEAN_INDEX_SCALE", type := .int, accessFlags := 25, slot := 2, constantValue := 0 }, { name := "LOG2_ARRAY_BYTE_INDEX_SCALE", type := .int, accessFlags := 25, slot := 3, constantValue := 0 }, { name := "LOG2_ARRAY_CHAR_INDEX_SCALE", type := .int, accessFlags := 25, slot := 4, constantValue := 0 }, { name := "LOG2_ARRAY_SHORT_INDEX_SCALE", type := .int, accessFlags := 25, slot := 5, constantValue := 0 }, { name := "LOG2_ARRAY_INT_INDEX_SCALE", type := .int, accessFlags := 25, slot := 6, constantValue := 0 }, { name := "LOG2_ARRAY_LONG_INDEX_SCALE", type := .int, accessFlags := 25, slot := 7, constantValue := 0 }, { name := "LOG2_ARRAY_FLOAT_INDEX_SCALE", type := .int, accessFlags := 25, slot := 8, constantValue := 0 }, { name := "LOG2_ARRAY_DOUBLE_INDEX_SCALE", type := .int, accessFlags := 25, slot := 9, constantValue := 0 }, { name := "LOG2_BYTE_BIT_SIZE", type := .int, accessFlags := 26, slot := 10, constantValue := 0 }, { name := "T_BOOLEAN", type := .int, accessFlags := 25, slot := 11, constantValue := 0 }, { name := "T_CHAR", type := .int, accessFlags := 25, slot := 12, constantValue := 0 }, { name := "T_FLOAT", type := .int, accessFlags := 25, slot := 13, constantValue := 0 }, { name := "T_DOUBLE", type := .int, accessFlags := 25, slot := 14, constantValue := 0 }, { name := "T_BYTE", type := .int, accessFlags := 25, slot := 15, constantValue := 0 }, { name := "T_SHORT", type := .int, accessFlags := 25, slot := 16, constantValue := 0 }, { name := "T_INT", type := .int, accessFlags := 25, slot := 17, constantValue := 0 }, { name := "T_LONG", type := .int, accessFlags := 25, slot := 18, constantValue := 0 }, { name := "JLA", type := (.object "jdk/internal/access/JavaLangAccess"), accessFlags := 26, slot := 19, constantValue := 0 }, { name := "SOFT_MAX_ARRAY_LENGTH", type := .int, accessFlags := 25, slot := 20, constantValue := 0 }]
  methods := #[k12m0]
  instanceTypes := #[]
  staticTypes := #[(.object "jdk/internal/misc/Unsafe"), .boolean, .int, .int, .int, .int, .int, .int, .int, .int, .int, .int, .int, .int, .int, .int, .int, .int, .int, (.object "jdk/internal/access/JavaLangAccess"), .int]
  resolved := Array.replicate 378 none
  statics := none }

def pool13 : Array CpInfo := pool [(1, u "java/lang/Cloneable"), (0, .class_ 1), (0, u "java/lang/Object"), (0, .class_ 3)] 3

/-- java/lang/Cloneable -/
def k13 : Class := { plain "java/lang/Cloneable" (some 0) with
  accessFlags := 1537
  interfaces := #[]
  cf := some (fileOf pool13 2 #[] #[] 1537 4 #[] #[])
  fields := #[]
  methods := #[]
  instanceTypes := #[]
  staticTypes := #[]
  resolved := Array.replicate 8 none
  statics := none }

/-- the primitive byte -/
def k14 : Class := { plain "byte" none with kind := .primitive 'B', accessFlags := 0x411 }
/-- [B -/
def k15 : Class := { plain "[B" (some 0) with kind := .array 14 .byte, interfaces := #[13, 2], accessFlags := 1041 }

/-- the primitive char -/
def k16 : Class := { plain "char" none with kind := .primitive 'C', accessFlags := 0x411 }
/-- [C -/
def k17 : Class := { plain "[C" (some 0) with kind := .array 16 .char, interfaces := #[13, 2], accessFlags := 1041 }

/-- the primitive int -/
def k18 : Class := { plain "int" none with kind := .primitive 'I', accessFlags := 0x411 }
/-- [I -/
def k19 : Class := { plain "[I" (some 0) with kind := .array 18 .int, interfaces := #[13, 2], accessFlags := 1041 }

def heap : Heap := #[{ cls := 7, slots := #[.long 0, .int 1, .null, .int 0, .null, .int 0, .int 0], vm := .statics 7 },
  { cls := 11, slots := #[.null, .null, .null], vm := .statics 11 }]
def classes : Array Class := #[k0, k1, k2, k3, k4, k5, k6, k7, k8, k9, k10, k11, k12, k13, k14, k15, k16, k17, k18, k19]
def interned : List (Array UInt16 × Addr) := []
def slotsUsed : Nat := 10
def theMethod : MethodId := ⟨1, 2⟩
def args0 : Array Value := #[.long 5, .int 3, .int 7, .int 9, .int 11]
def aboutOver (below : List Frame) : State where
  vm := { classes := classes, interned := interned.toArray }
  heap := heap
  slotsUsed := slotsUsed
  threads := #[{ frames := .invoking theMethod args0 :: below }]
def below0 : List Frame := [.native { method := ⟨0, 0⟩, args := #[] }]
def about1 : State := aboutOver below0
def p0 : Program := .bare "" "" ""
def e0 : Env := launch0.env 0 0 0
theorem w_frames : about1.frames = Frame.invoking theMethod args0 :: below0 := rfl
set_option maxRecDepth 65536 in
theorem w_args : argsFit about1.vm theMethod args0 = true := by decide +kernel
set_option maxRecDepth 65536 in
theorem w_heap : heapFits about1 = true := by decide +kernel
set_option maxRecDepth 65536 in
theorem w_runnable : about1.curStatus? = some .runnable := by decide +kernel
set_option maxRecDepth 65536 in
theorem w_alone : about1.alone = true := by decide +kernel
set_option maxRecDepth 65536 in
theorem w_named : about1.methodNamed? x = some theMethod := by decide +kernel
set_option maxRecDepth 65536 in
theorem w_hears : about1.hears theMethod below0 = true := by decide +kernel
set_option maxRecDepth 65536 in
theorem w_ripe : about1.ripe theMethod args0 below0 = true := by decide +kernel
theorem w_running : about1.status = .running := rfl
set_option maxRecDepth 65536 in
theorem w_room : about1.hasRoom e0.platform room_1 = true :=
  launch0.hasRoom_least _ room_1 (by decide +kernel) (by decide +kernel) (by decide +kernel) (by decide +kernel) (by decide +kernel) (by decide +kernel)
theorem allAtoms_all (ts : List Jvm.Cond) (a : Array Jvm.Value) (st : Jvm.State) : (allAtoms ts).before a st = ts.all (fun c => c.before a st) := by
  induction ts with
  | nil => rfl
  | cons c t ih =>
    show (Jvm.Cond.and c (allAtoms t)).before a st = _
    rw [Jvm.Cond.before_and, ih, List.all_cons]
def words1 : List Jvm.Cond := Jvm.Cond.code x code maxLocals ret :: tables_1
/-- a 'code' word, met by the world's own term for the bytes: nothing is compared byte by byte -/
theorem code_word {y : MethodName} {bytes : ByteArray} {mx : Nat} {rt : Option FieldType} {a : Array Value} {s : State} {m : MethodId} {meth : Method} {c : Code} (h1 : s.methodNamed? y = some m) (h2 : s.vm.method? m = some meth) (h3 : meth.code = some c) (h4 : c.code = bytes)
    (h5 : (c.maxLocals == mx && c.exceptionTable.isEmpty && decide (c.maxStack ≤ mostOperands) && decide (meth.sig.returnType = rt) && !meth.locks && decide (parseMethodDescriptor y.desc = some meth.sig)) = true) : (Jvm.Cond.code y bytes mx rt).before a s = true := by
  simp only [Bool.and_eq_true, beq_iff_eq, Bool.not_eq_true', decide_eq_true_eq] at h5
  obtain ⟨⟨⟨⟨⟨g1, g2⟩, g3⟩, g4⟩, g5⟩, g6⟩ := h5
  simp [Cond.before, Cond.holds, Cond.value, h1, h2, h3, h4, g1, g2, g3, g4, g5, g6]
def isCode : Jvm.Cond → Bool
  | .code _ _ _ _ => true
  | _ => false
theorem all_split {L : List Jvm.Cond} {P : Jvm.Cond → Bool} (h1 : L.all (fun c => isCode c || P c) = true) (h2 : ∀ c ∈ L.filter isCode, P c = true) : L.all P = true := by
  refine List.all_eq_true.mpr fun c hc => ?_
  have h := List.all_eq_true.mp h1 c hc
  rcases Bool.eq_false_or_eq_true (isCode c) with hi | hi
  · exact h2 c (List.mem_filter.mpr ⟨hc, hi⟩)
  · simpa [hi] using h
set_option maxRecDepth 65536 in
theorem w_c0 : (Jvm.Cond.code x code maxLocals ret).before args0 about1 = true := code_word (m := ⟨1, 2⟩) (meth := k1m2) (c := k1c2) (by decide +kernel) rfl rfl rfl (by decide +kernel)
set_option maxRecDepth 65536 in
theorem w_c1 : (Jvm.Cond.code ({ cls := "com/example/spool/spool/ClaimedJobUnclaimedPinLaw", name := "draw", desc := "(I)Ljava/lang/String;" } : Jvm.MethodName) method_2_code (2 : Nat) (Option.some (Jvm.ClassFile.FieldType.object "java/lang/String"))).before args0 about1 = true := code_word (m := ⟨1, 1⟩) (meth := k1m1) (c := k1c1) (by decide +kernel) rfl rfl rfl (by decide +kernel)
set_option maxRecDepth 65536 in
theorem w_c2 : (Jvm.Cond.code ({ cls := "java/lang/String", name := "<init>", desc := "([C)V" } : Jvm.MethodName) jdk_42_method_3_code (2 : Nat) (Option.none : Option Jvm.ClassFile.FieldType)).before args0 about1 = true := code_word (m := ⟨7, 1⟩) (meth := k7m1) (c := k7c1) (by decide +kernel) rfl rfl rfl (by decide +kernel)
set_option maxRecDepth 65536 in
theorem w_c3 : (Jvm.Cond.code ({ cls := "java/lang/String", name := "<init>", desc := "([CIILjava/lang/Void;)V" } : Jvm.MethodName) jdk_42_method_149_code (6 : Nat) (Option.none : Option Jvm.ClassFile.FieldType)).before args0 about1 = true := code_word (m := ⟨7, 2⟩) (meth := k7m2) (c := k7c2) (by decide +kernel) rfl rfl rfl (by decide +kernel)
set_option maxRecDepth 65536 in
theorem w_c4 : (Jvm.Cond.code ({ cls := "java/lang/Object", name := "<init>", desc := "()V" } : Jvm.MethodName) object_method_1_code (1 : Nat) (Option.none : Option Jvm.ClassFile.FieldType)).before args0 about1 = true := code_word (m := ⟨0, 0⟩) (meth := k0m0) (c := k0c0) (by decide +kernel) rfl rfl rfl (by decide +kernel)
set_option maxRecDepth 65536 in
theorem w_c5 : (Jvm.Cond.code ({ cls := "java/lang/StringUTF16", name := "compress", desc := "([CII)[B" } : Jvm.MethodName) jdk_52_method_16_code (6 : Nat) (Option.some (Jvm.ClassFile.FieldType.array Jvm.ClassFile.FieldType.byte))).before args0 about1 = true := code_word (m := ⟨8, 2⟩) (meth := k8m2) (c := k8c2) (by decide +kernel) rfl rfl rfl (by decide +kernel)
set_option maxRecDepth 65536 in
theorem w_c6 : (Jvm.Cond.code ({ cls := "java/lang/StringUTF16", name := "compress", desc := "([CI[BII)I" } : Jvm.MethodName) jdk_52_method_21_code (7 : Nat) (Option.some Jvm.ClassFile.FieldType.int)).before args0 about1 = true := code_word (m := ⟨8, 3⟩) (meth := k8m3) (c := k8c3) (by decide +kernel) rfl rfl rfl (by decide +kernel)
set_option maxRecDepth 65536 in
theorem w_c7 : (Jvm.Cond.code ({ cls := "java/lang/StringUTF16", name := "coderFromArrayLen", desc := "([BI)B" } : Jvm.MethodName) jdk_52_method_15_code (2 : Nat) (Option.some Jvm.ClassFile.FieldType.byte)).before args0 about1 = true := code_word (m := ⟨8, 1⟩) (meth := k8m1) (c := k8c1) (by decide +kernel) rfl rfl rfl (by decide +kernel)
set_option maxRecDepth 65536 in
theorem w_c8 : (Jvm.Cond.code ({ cls := "com/example/spool/spool/ClaimedJob", name := "unclaimed", desc := "(JILjava/lang/String;Ljava/lang/String;Ljava/lang/String;)Lcom/example/spool/spool/ClaimedJob;" } : Jvm.MethodName) prog_2_method_2_code (6 : Nat) (Option.some (Jvm.ClassFile.FieldType.object "com/example/spool/spool/ClaimedJob"))).before args0 about1 = true := code_word (m := ⟨9, 1⟩) (meth := k9m1) (c := k9c1) (by decide +kernel) rfl rfl rfl (by decide +kernel)
set_option maxRecDepth 65536 in
theorem w_c9 : (Jvm.Cond.code ({ cls := "com/example/spool/spool/ClaimedJob", name := "<init>", desc := "(JILjava/lang/String;Ljava/lang/String;Ljava/lang/String;Ljava/time/Duration;Ljava/time/Instant;Ljava/lang/String;Ljava/time/Instant;)V" } : Jvm.MethodName) prog_2_method_1_code (11 : Nat) (Option.none : Option Jvm.ClassFile.FieldType)).before args0 about1 = true := code_word (m := ⟨9, 0⟩) (meth := k9m0) (c := k9c0) (by decide +kernel) rfl rfl rfl (by decide +kernel)
set_option maxRecDepth 65536 in
theorem w_c10 : (Jvm.Cond.code ({ cls := "com/example/spool/spool/ClaimedJob", name := "id", desc := "()J" } : Jvm.MethodName) prog_2_method_3_code (1 : Nat) (Option.some Jvm.ClassFile.FieldType.long)).before args0 about1 = true := code_word (m := ⟨9, 2⟩) (meth := k9m2) (c := k9c2) (by decide +kernel) rfl rfl rfl (by decide +kernel)
set_option maxRecDepth 65536 in
theorem w_c11 : (Jvm.Cond.code ({ cls := "com/example/spool/spool/ClaimedJob", name := "attempt", desc := "()I" } : Jvm.MethodName) prog_2_method_4_code (1 : Nat) (Option.some Jvm.ClassFile.FieldType.int)).before args0 about1 = true := code_word (m := ⟨9, 3⟩) (meth := k9m3) (c := k9c3) (by decide +kernel) rfl rfl rfl (by decide +kernel)
set_option maxRecDepth 65536 in
theorem w_c12 : (Jvm.Cond.code ({ cls := "com/example/spool/spool/ClaimedJob", name := "queue", desc := "()Ljava/lang/String;" } : Jvm.MethodName) prog_2_method_5_code (1 : Nat) (Option.some (Jvm.ClassFile.FieldType.object "java/lang/String"))).before args0 about1 = true := code_word (m := ⟨9, 4⟩) (meth := k9m4) (c := k9c4) (by decide +kernel) rfl rfl rfl (by decide +kernel)
set_option maxRecDepth 65536 in
theorem w_c13 : (Jvm.Cond.code ({ cls := "com/example/spool/spool/ClaimedJob", name := "kind", desc := "()Ljava/lang/String;" } : Jvm.MethodName) prog_2_method_6_code (1 : Nat) (Option.some (Jvm.ClassFile.FieldType.object "java/lang/String"))).before args0 about1 = true := code_word (m := ⟨9, 5⟩) (meth := k9m5) (c := k9c5) (by decide +kernel) rfl rfl rfl (by decide +kernel)
set_option maxRecDepth 65536 in
theorem w_c14 : (Jvm.Cond.code ({ cls := "com/example/spool/spool/ClaimedJob", name := "payload", desc := "()Ljava/lang/String;" } : Jvm.MethodName) prog_2_method_7_code (1 : Nat) (Option.some (Jvm.ClassFile.FieldType.object "java/lang/String"))).before args0 about1 = true := code_word (m := ⟨9, 6⟩) (meth := k9m6) (c := k9c6) (by decide +kernel) rfl rfl rfl (by decide +kernel)
set_option maxRecDepth 65536 in
theorem w_c15 : (Jvm.Cond.code ({ cls := "com/example/spool/spool/ClaimedJob", name := "runAt", desc := "()Ljava/time/Instant;" } : Jvm.MethodName) prog_2_method_11_code (1 : Nat) (Option.some (Jvm.ClassFile.FieldType.object "java/time/Instant"))).before args0 about1 = true := code_word (m := ⟨9, 7⟩) (meth := k9m7) (c := k9c7) (by decide +kernel) rfl rfl rfl (by decide +kernel)
def codes1 : List Jvm.Cond := [Jvm.Cond.code x code maxLocals ret, Jvm.Cond.code ({ cls := "com/example/spool/spool/ClaimedJobUnclaimedPinLaw", name := "draw", desc := "(I)Ljava/lang/String;" } : Jvm.MethodName) method_2_code (2 : Nat) (Option.some (Jvm.ClassFile.FieldType.object "java/lang/String")), Jvm.Cond.code ({ cls := "java/lang/String", name := "<init>", desc := "([C)V" } : Jvm.MethodName) jdk_42_method_3_code (2 : Nat) (Option.none : Option Jvm.ClassFile.FieldType), Jvm.Cond.code ({ cls := "java/lang/String", name := "<init>", desc := "([CIILjava/lang/Void;)V" } : Jvm.MethodName) jdk_42_method_149_code (6 : Nat) (Option.none : Option Jvm.ClassFile.FieldType), Jvm.Cond.code ({ cls := "java/lang/Object", name := "<init>", desc := "()V" } : Jvm.MethodName) object_method_1_code (1 : Nat) (Option.none : Option Jvm.ClassFile.FieldType), Jvm.Cond.code ({ cls := "java/lang/StringUTF16", name := "compress", desc := "([CII)[B" } : Jvm.MethodName) jdk_52_method_16_code (6 : Nat) (Option.some (Jvm.ClassFile.FieldType.array Jvm.ClassFile.FieldType.byte)), Jvm.Cond.code ({ cls := "java/lang/StringUTF16", name := "compress", desc := "([CI[BII)I" } : Jvm.MethodName) jdk_52_method_21_code (7 : Nat) (Option.some Jvm.ClassFile.FieldType.int), Jvm.Cond.code ({ cls := "java/lang/StringUTF16", name := "coderFromArrayLen", desc := "([BI)B" } : Jvm.MethodName) jdk_52_method_15_code (2 : Nat) (Option.some Jvm.ClassFile.FieldType.byte), Jvm.Cond.code ({ cls := "com/example/spool/spool/ClaimedJob", name := "unclaimed", desc := "(JILjava/lang/String;Ljava/lang/String;Ljava/lang/String;)Lcom/example/spool/spool/ClaimedJob;" } : Jvm.MethodName) prog_2_method_2_code (6 : Nat) (Option.some (Jvm.ClassFile.FieldType.object "com/example/spool/spool/ClaimedJob")), Jvm.Cond.code ({ cls := "com/example/spool/spool/ClaimedJob", name := "<init>", desc := "(JILjava/lang/String;Ljava/lang/String;Ljava/lang/String;Ljava/time/Duration;Ljava/time/Instant;Ljava/lang/String;Ljava/time/Instant;)V" } : Jvm.MethodName) prog_2_method_1_code (11 : Nat) (Option.none : Option Jvm.ClassFile.FieldType), Jvm.Cond.code ({ cls := "com/example/spool/spool/ClaimedJob", name := "id", desc := "()J" } : Jvm.MethodName) prog_2_method_3_code (1 : Nat) (Option.some Jvm.ClassFile.FieldType.long), Jvm.Cond.code ({ cls := "com/example/spool/spool/ClaimedJob", name := "attempt", desc := "()I" } : Jvm.MethodName) prog_2_method_4_code (1 : Nat) (Option.some Jvm.ClassFile.FieldType.int), Jvm.Cond.code ({ cls := "com/example/spool/spool/ClaimedJob", name := "queue", desc := "()Ljava/lang/String;" } : Jvm.MethodName) prog_2_method_5_code (1 : Nat) (Option.some (Jvm.ClassFile.FieldType.object "java/lang/String")), Jvm.Cond.code ({ cls := "com/example/spool/spool/ClaimedJob", name := "kind", desc := "()Ljava/lang/String;" } : Jvm.MethodName) prog_2_method_6_code (1 : Nat) (Option.some (Jvm.ClassFile.FieldType.object "java/lang/String")), Jvm.Cond.code ({ cls := "com/example/spool/spool/ClaimedJob", name := "payload", desc := "()Ljava/lang/String;" } : Jvm.MethodName) prog_2_method_7_code (1 : Nat) (Option.some (Jvm.ClassFile.FieldType.object "java/lang/String")), Jvm.Cond.code ({ cls := "com/example/spool/spool/ClaimedJob", name := "runAt", desc := "()Ljava/time/Instant;" } : Jvm.MethodName) prog_2_method_11_code (1 : Nat) (Option.some (Jvm.ClassFile.FieldType.object "java/time/Instant"))]
set_option maxRecDepth 65536 in
theorem codes_eq : words1.filter isCode = codes1 := rfl
theorem w_codes : ∀ c ∈ words1.filter isCode, c.before args0 about1 = true := by
  rw [codes_eq]
  intro c hc
  simp only [codes1, List.mem_cons, List.not_mem_nil, or_false] at hc
  rcases hc with rfl | rfl | rfl | rfl | rfl | rfl | rfl | rfl | rfl | rfl | rfl | rfl | rfl | rfl | rfl | rfl
  · exact w_c0
  · exact w_c1
  · exact w_c2
  · exact w_c3
  · exact w_c4
  · exact w_c5
  · exact w_c6
  · exact w_c7
  · exact w_c8
  · exact w_c9
  · exact w_c10
  · exact w_c11
  · exact w_c12
  · exact w_c13
  · exact w_c14
  · exact w_c15
set_option maxRecDepth 65536 in
theorem w_t1 : (words1.take 24).all (fun c => isCode c || c.before args0 about1) = true := by decide +kernel
set_option maxRecDepth 65536 in
theorem w_t2 : ((words1.drop 24).take 24).all (fun c => isCode c || c.before args0 about1) = true := by decide +kernel
set_option maxRecDepth 65536 in
theorem w_t3 : (((words1.drop 24).drop 24).take 24).all (fun c => isCode c || c.before args0 about1) = true := by decide +kernel
set_option maxRecDepth 65536 in
theorem w_t4 : (((words1.drop 24).drop 24).drop 24).all (fun c => isCode c || c.before args0 about1) = true := by decide +kernel
theorem w_tables : (allAtoms (Jvm.Cond.code x code maxLocals ret :: tables_1)).before args0 about1 = true := by
  rw [allAtoms_all]
  show words1.all (fun c => c.before args0 about1) = true
  refine all_split ?_ w_codes
  rw [← List.take_append_drop 24 words1, List.all_append, w_t1, ← List.take_append_drop 24 (words1.drop 24), List.all_append, w_t2, ← List.take_append_drop 24 ((words1.drop 24).drop 24), List.all_append, w_t3, w_t4]
  rfl
set_option maxRecDepth 65536 in
theorem w_rest : rest_1_c.before args0 about1 = true := by decide +kernel
set_option maxRecDepth 65536 in
theorem w_case : (Jvm.Cond.and given_1 narrow_1).before args0 about1 = true := by decide +kernel
theorem w_applies : (headSpec (Jvm.Cond.code x code maxLocals ret :: tables_1) room_1).applies x e0.platform about1 = true :=
  (Spec.applies_iff w_frames).mpr ⟨w_running, w_runnable, w_alone, w_named, w_hears, w_ripe, w_room, w_tables⟩
theorem atStart : AtStart classFile x code maxLocals ret World_1 tables_1 room_1 Calls_1 rest_1 Pre_1 launch0 p0 e0 about1 theMethod args0 below0 :=
  ⟨lists_1, trivial, launch0.admits_env _ _ _, launch0.least_env, fairChoices_fair.cas, fairChoices_fair.clock, w_frames, w_args, w_heap, w_applies, trivial, w_rest, w_case⟩
end start1
theorem witness_1 : WitnessClaimed_1 := ⟨start1.p0, start1.e0, start1.about1, start1.theMethod, start1.args0, start1.below0, start1.atStart⟩
end Jvm.Pilot.@@N@@
