import JvmDerived
import JvmDerived.Pilot.@@N@@Statement
import JvmDerived.Pilot.@@N@@Code
set_option linter.unusedVariables false
set_option linter.unusedSimpArgs false
/- laws to paste: Road.backV (cut by pick.py; bodies as the Statement names them) -/
namespace Jvm.Pilot.@@N@@
namespace StrChars
open Jvm Sem ClassFile Op Lib Jvm.Stand Jvm.Free.XT Jvm.Free.ALB Jvm.Free.JM Jvm.Free
open Jvm.Lib.Cold (StaticIs)
/-- a char array whose places are chars -/
def Ch (a : Addr) (A : Cell) (U : State) : Prop := Arr .char a A U ∧ Typed .char A
theorem Ch.mv {a : Addr} {A : Cell} {U U' : State} (h : Ch a A U) (hal : U.vm.Alike U'.vm) (hh : U'.heap = U.heap) : Ch a A U' := ⟨h.1.mv hal hh, h.2⟩
theorem Ch.keep {a : Addr} {A : Cell} {U U' : State} (h : Ch a A U) (hal : U.vm.Alike U'.vm) (hk : U'.heap[a]? = some A) : Ch a A U' := ⟨h.1.keep hal hk, h.2⟩
/-- what place i of a char[]'s cell holds -/
def cv (A : Cell) (i : Nat) : Int32 := match A.slots[i]? with | some (.int x) => x | _ => 0
theorem Ch.get {a : Addr} {A : Cell} {U : State} (h : Ch a A U) {i : Nat} (hi : i < A.slots.size) : A.slots[i]? = some (.int (cv A i)) := by
  have e := Array.getElem?_eq_getElem hi
  have f := h.2 i _ e
  unfold cv; rw [e]
  generalize A.slots[i] = v at f
  cases v <;> simp [fits] at f ⊢
/-- the byte that i2b leaves of a char -/
def lo8 (x : Int32) : Int32 := x.toInt8.toInt32
theorem fits_lo8 (y : Int32) : fits .byte (.int (lo8 y)) = true := by
  have h1 := y.toInt8.le_toInt
  have h2 := y.toInt8.toInt_lt
  simp only [lo8, fits, Bool.and_eq_true, decide_eq_true_eq, Int32.le_iff_toInt_le, Int8.toInt_toInt32, show (-128 : Int32).toInt = -128 from by decide, show (127 : Int32).toInt = 127 from by decide]
  omega
/-- A' is A but that each place j of lo .. hi - 1 holds f j -/
def Laid (A A' : Cell) (lo hi : Nat) (f : Nat → Value) : Prop := A'.cls = A.cls ∧ A'.vm = A.vm ∧ A'.slots.size = A.slots.size ∧ ∀ i, A'.slots[i]? = if lo ≤ i ∧ i < hi then some (f i) else A.slots[i]?
theorem Laid.zero (A : Cell) (lo : Nat) (f : Nat → Value) : Laid A A lo (lo + 0) f := ⟨rfl, rfl, rfl, fun i => by rw [if_neg (by omega)]⟩
theorem Laid.step {A Ak : Cell} {lo k : Nat} {f : Nat → Value} {v : Value} (h : Laid A Ak lo k f) (hlo : lo ≤ k) (hk : k < Ak.slots.size) (hv : v = f k) : Laid A (Ak.setSlot k v) lo (k + 1) f := by
  refine ⟨h.1, h.2.1, by simpa [Cell.setSlot] using h.2.2.1, fun i => ?_⟩
  by_cases e : k = i
  · subst e; rw [Cell.slots_setSlot_self v hk, if_pos (by omega), hv]
  · rw [Cell.slots_setSlot_ne v e, h.2.2.2 i]
    by_cases q : lo ≤ i ∧ i < k
    · rw [if_pos q, if_pos (by omega)]
    · rw [if_neg q, if_neg (by omega)]
def U16 : String := "java/lang/StringUTF16"
namespace Cmp5
def yN : MethodName := ⟨"java/lang/StringUTF16", "compress", "([CI[BII)I"⟩
abbrev yB : ByteArray := jdk_52_method_21_code
theorem d0 : decode yB 0 = .ok (.iconst 0, 1) := by decide +kernel
theorem d1 : decode yB 1 = .ok (.istore 5, 2) := by decide +kernel
theorem d3 : decode yB 3 = .ok (.iload 5, 2) := by decide +kernel
theorem d5 : decode yB 5 = .ok (.iload 4, 2) := by decide +kernel
theorem d7 : decode yB 7 = .ok (.if_icmp (.ge) 37, 3) := by decide +kernel
theorem d10 : decode yB 10 = .ok (.aload_n 0, 1) := by decide +kernel
theorem d11 : decode yB 11 = .ok (.iload_n 1, 1) := by decide +kernel
theorem d12 : decode yB 12 = .ok (.caload, 1) := by decide +kernel
theorem d13 : decode yB 13 = .ok (.istore 6, 2) := by decide +kernel
theorem d15 : decode yB 15 = .ok (.iload 6, 2) := by decide +kernel
theorem d17 : decode yB 17 = .ok (.sipush 255, 3) := by decide +kernel
theorem d20 : decode yB 20 = .ok (.if_icmp (.le) 6, 3) := by decide +kernel
theorem d26 : decode yB 26 = .ok (.aload_n 2, 1) := by decide +kernel
theorem d27 : decode yB 27 = .ok (.iload_n 3, 1) := by decide +kernel
theorem d28 : decode yB 28 = .ok (.iload 6, 2) := by decide +kernel
theorem d30 : decode yB 30 = .ok (.i2b, 1) := by decide +kernel
theorem d31 : decode yB 31 = .ok (.bastore, 1) := by decide +kernel
theorem d32 : decode yB 32 = .ok (.iinc 1 1, 3) := by decide +kernel
theorem d35 : decode yB 35 = .ok (.iinc 3 1, 3) := by decide +kernel
theorem d38 : decode yB 38 = .ok (.iinc 5 1, 3) := by decide +kernel
theorem d41 : decode yB 41 = .ok (.goto (-38), 3) := by decide +kernel
theorem d44 : decode yB 44 = .ok (.iload 4, 2) := by decide +kernel
theorem d46 : decode yB 46 = .ok (.ireturn, 1) := by decide +kernel
def site : List Cond := []
def tab : Cond := tabOf yN yB 7 (some .int) site
def P (b : Addr) (A : Cell) (d : Addr) (B : Cell) (o q len : Nat) (args : Array Value) (s : State) : Prop := args = #[.ref b, .int (Int32.ofNat o), .ref d, .int (Int32.ofNat q), .int (Int32.ofNat len)] ∧ Ch b A s ∧ Arr .byte d B s ∧ b ≠ d ∧ o + len ≤ A.slots.size ∧ q + len ≤ B.slots.size ∧ ∀ i, i < len → ¬ 255 < cv A (o + i)
def E (b : Addr) (A : Cell) (d : Addr) (B : Cell) (o q len : Nat) (r : Option Value) (s u : State) : Prop := r = some (.int (Int32.ofNat len)) ∧ ∃ B', Put d B' s u ∧ Laid B B' q (q + len) (fun j => Value.int (lo8 (cv A (o + (j - q)))))
/-- no char of the range above 255: len; the places written hold each char's low byte -/
theorem law (l : Launch) (b : Addr) (A : Cell) (d : Addr) (B : Cell) (o q len : Nat) : Law l yN 5 5 0 0 yB 7 (some .int) site (P b A d B o q len) (E b A d B o q len) (copyLocs d q len) 0 0 := by
  refine Law.of_walk (plainFor_of_name (by decide +kernel)) (by decide +kernel) (by decide +kernel) (by decide) (fun _ _ h => by rw [h.1]; rfl) (fun _ U U' hal hh h => ⟨h.1, h.2.1.mv hal hh, h.2.2.1.mv hal hh, h.2.2.2⟩) (fun r U U' V V' h1 hal h2 h => ⟨h.1, h.2.elim fun B' q => ⟨B', q.1.mv h1 h2, q.2⟩⟩) ?_
  intro p e s m args below meth c s₁ X0 hexec hbytes hml hret hlk hnm hown hh0 W hP
  obtain ⟨rfl, hA, hB, hne, l1, l2, hp⟩ := hP
  have c1 : Steps p.tables e below (s₁.setTop (entryFrame m #[.ref b, .int (Int32.ofNat o), .ref d, .int (Int32.ofNat q), .int (Int32.ofNat len)] 7)) (s₁.setTop (mkF m 0 #[.val (.ref b), .val (.int (Int32.ofNat o)), .val (.ref d), .val (.int (Int32.ofNat q)), .val (.int (Int32.ofNat len)), .unset, .unset] [])) := entry rfl
  have hA0 := hA.1.mv X0.warmed.alike hh0
  have hB0 := hB.mv X0.warmed.alike hh0
  have a31 := hA.1.2.2.2
  have c2 : Steps p.tables e below (s₁.setTop (entryFrame m #[.ref b, .int (Int32.ofNat o), .ref d, .int (Int32.ofNat q), .int (Int32.ofNat len)] 7)) (s₁.setTop (mkF m 3 #[.val (.ref b), .val (.int (Int32.ofNat o)), .val (.ref d), .val (.int (Int32.ofNat q)), .val (.int (Int32.ofNat len)), .val (.int 0), .unset] [])) := c1.trans (by
    refine iconstV X0.here hexec rfl 0 (hb hbytes d0) (by decide) ?_
    refine XS.istore X0.here hexec rfl (hb hbytes d1) rfl rfl ?_
    exact Steps.refl _)
  have loop : ∀ (r i : Nat), i + r = len → ∀ (z : Slot), (z = .unset ∨ ∃ w, z = .val w ∧ w.category = 1) → ∀ (Tl : State) (Bk : Cell), Stand p l e { frames := 0, locals := 0, cells := 0, slots := 0 } s m #[.ref b, .int (Int32.ofNat o), .ref d, .int (Int32.ofNat q), .int (Int32.ofNat len)] below meth c Tl ([] ++ copyLocs d q i) 0 0 → Put d Bk s₁ Tl → Laid B Bk q (q + i) (fun j => Value.int (lo8 (cv A (o + (j - q))))) →
      Steps p.tables e below (s₁.setTop (entryFrame m #[.ref b, .int (Int32.ofNat o), .ref d, .int (Int32.ofNat q), .int (Int32.ofNat len)] 7)) (Tl.setTop (mkF m 3 #[.val (.ref b), .val (.int (Int32.ofNat (o + i))), .val (.ref d), .val (.int (Int32.ofNat (q + i))), .val (.int (Int32.ofNat len)), .val (.int (Int32.ofNat i)), z] [])) → ∃ (T' : State) (B' : Cell) (z' : Slot), Stand p l e { frames := 0, locals := 0, cells := 0, slots := 0 } s m #[.ref b, .int (Int32.ofNat o), .ref d, .int (Int32.ofNat q), .int (Int32.ofNat len)] below meth c T' ([] ++ copyLocs d q len) 0 0 ∧ Put d B' s₁ T' ∧ Laid B B' q (q + len) (fun j => Value.int (lo8 (cv A (o + (j - q))))) ∧
      Steps p.tables e below (s₁.setTop (entryFrame m #[.ref b, .int (Int32.ofNat o), .ref d, .int (Int32.ofNat q), .int (Int32.ofNat len)] 7)) (T'.setTop (mkF m 3 #[.val (.ref b), .val (.int (Int32.ofNat (o + len))), .val (.ref d), .val (.int (Int32.ofNat (q + len))), .val (.int (Int32.ofNat len)), .val (.int (Int32.ofNat len)), z'] [])) := by
    intro r
    induction r with
    | zero =>
      intro i hi z hz Tl Bk Xl pl fl cl
      have hil : i = len := by omega
      rw [hil] at Xl fl cl
      exact ⟨Tl, Bk, z, Xl, pl, fl, cl⟩
    | succ r ih =>
      intro i hi z hz Tl Bk Xl pl fl cl
      have all := X0.warmed.alike.symm.trans Xl.warmed.alike
      have hAl := hA0.keep all (pl.other hne hA0.1)
      have hBk := hB0.like all pl.1 fl.1 fl.2.1 fl.2.2.1
      have hlt : q + i < Bk.slots.size := by rw [fl.2.2.1]; omega
      have c3 : Steps p.tables e below (s₁.setTop (entryFrame m #[.ref b, .int (Int32.ofNat o), .ref d, .int (Int32.ofNat q), .int (Int32.ofNat len)] 7)) (Tl.setTop (mkF m 12 #[.val (.ref b), .val (.int (Int32.ofNat (o + i))), .val (.ref d), .val (.int (Int32.ofNat (q + i))), .val (.int (Int32.ofNat len)), .val (.int (Int32.ofNat i)), z] [.int (Int32.ofNat (o + i)), .ref b])) := cl.trans (by
        refine XS.iload Xl.here hexec rfl (hb hbytes d3) rfl ?_
        refine XS.iload Xl.here hexec rfl (hb hbytes d5) rfl ?_
        refine XS.icmpNo Xl.here hexec rfl (hb hbytes d7) rfl (ii_ge_f (lt32 (by omega) (by omega))) ?_
        refine XS.aloadN Xl.here hexec rfl (hb hbytes d10) rfl rfl ?_
        refine XS.iloadN Xl.here hexec rfl (hb hbytes d11) rfl ?_
        exact Steps.refl _)
      have c4 : Steps p.tables e below (s₁.setTop (entryFrame m #[.ref b, .int (Int32.ofNat o), .ref d, .int (Int32.ofNat q), .int (Int32.ofNat len)] 7)) (Tl.setTop (mkF m 13 #[.val (.ref b), .val (.int (Int32.ofNat (o + i))), .val (.ref d), .val (.int (Int32.ofNat (q + i))), .val (.int (Int32.ofNat len)), .val (.int (Int32.ofNat i)), z] [.int (cv A (o + i))])) := c3.trans (by
        refine Xl.aget hexec hAl rfl (hA.get (i := o + i) (by omega)) rfl rfl (hb hbytes d12) ?_
        exact Steps.refl _)
      have c5 : Steps p.tables e below (s₁.setTop (entryFrame m #[.ref b, .int (Int32.ofNat o), .ref d, .int (Int32.ofNat q), .int (Int32.ofNat len)] 7)) (Tl.setTop (mkF m 15 #[.val (.ref b), .val (.int (Int32.ofNat (o + i))), .val (.ref d), .val (.int (Int32.ofNat (q + i))), .val (.int (Int32.ofNat len)), .val (.int (Int32.ofNat i)), .val (.int (cv A (o + i)))] [])) := c4.trans (by
        refine XS.istoreS Xl.here hexec rfl (hb hbytes d13) rfl rfl hz ?_
        exact Steps.refl _)
      have c6 : Steps p.tables e below (s₁.setTop (entryFrame m #[.ref b, .int (Int32.ofNat o), .ref d, .int (Int32.ofNat q), .int (Int32.ofNat len)] 7)) (Tl.setTop (mkF m 31 #[.val (.ref b), .val (.int (Int32.ofNat (o + i))), .val (.ref d), .val (.int (Int32.ofNat (q + i))), .val (.int (Int32.ofNat len)), .val (.int (Int32.ofNat i)), .val (.int (cv A (o + i)))] [.int (lo8 (cv A (o + i))), .int (Int32.ofNat (q + i)), .ref d])) := c5.trans (by
        refine XS.iload Xl.here hexec rfl (hb hbytes d15) rfl ?_
        refine sipushV Xl.here hexec rfl 255 (hb hbytes d17) (by decide) ?_
        refine XS.icmpYes Xl.here hexec rfl (pc0 := 20) rfl (hb hbytes d20) rfl (ii_le_t (hp i (by omega))) (by decide) rfl ?_
        refine XS.aloadN Xl.here hexec rfl (hb hbytes d26) rfl rfl ?_
        refine XS.iloadN Xl.here hexec rfl (hb hbytes d27) rfl ?_
        refine XS.iload Xl.here hexec rfl (hb hbytes d28) rfl ?_
        refine i2b Xl.here hexec rfl (hb hbytes d30) rfl ?_
        exact Steps.refl _)
      obtain ⟨T7, X7, p7, st7⟩ := Xl.aput hexec hBk rfl hlt rfl (fits_lo8 (cv A (o + i))) (g := (mkF m 31 #[.val (.ref b), .val (.int (Int32.ofNat (o + i))), .val (.ref d), .val (.int (Int32.ofNat (q + i))), .val (.int (Int32.ofNat len)), .val (.int (Int32.ofNat i)), .val (.int (cv A (o + i)))] [.int (lo8 (cv A (o + i))), .int (Int32.ofNat (q + i)), .ref d])) rfl (rest := []) rfl (hb hbytes d31)
      have c8 : Steps p.tables e below (s₁.setTop (entryFrame m #[.ref b, .int (Int32.ofNat o), .ref d, .int (Int32.ofNat q), .int (Int32.ofNat len)] 7)) (T7.setTop (mkF m 32 #[.val (.ref b), .val (.int (Int32.ofNat (o + i))), .val (.ref d), .val (.int (Int32.ofNat (q + i))), .val (.int (Int32.ofNat len)), .val (.int (Int32.ofNat i)), .val (.int (cv A (o + i)))] [])) := c6.trans (st7 _ (Steps.refl _))
      have c9 : Steps p.tables e below (s₁.setTop (entryFrame m #[.ref b, .int (Int32.ofNat o), .ref d, .int (Int32.ofNat q), .int (Int32.ofNat len)] 7)) (T7.setTop (mkF m 3 #[.val (.ref b), .val (.int (Int32.ofNat (o + i) + 1)), .val (.ref d), .val (.int (Int32.ofNat (q + i) + 1)), .val (.int (Int32.ofNat len)), .val (.int (Int32.ofNat i + 1)), .val (.int (cv A (o + i)))] [])) := c8.trans (by
        refine iincV X7.here hexec rfl 1 (hb hbytes d32) (by decide) rfl rfl ?_
        refine iincV X7.here hexec rfl 1 (hb hbytes d35) (by decide) rfl rfl ?_
        refine iincV X7.here hexec rfl 1 (hb hbytes d38) (by decide) rfl rfl ?_
        refine XS.goto X7.here hexec rfl (pc0 := 41) rfl (hb hbytes d41) (by decide) rfl ?_
        exact Steps.refl _)
      have c10 : Steps p.tables e below (s₁.setTop (entryFrame m #[.ref b, .int (Int32.ofNat o), .ref d, .int (Int32.ofNat q), .int (Int32.ofNat len)] 7)) (T7.setTop (mkF m 3 #[.val (.ref b), .val (.int (Int32.ofNat (o + (i + 1)))), .val (.ref d), .val (.int (Int32.ofNat (q + (i + 1)))), .val (.int (Int32.ofNat len)), .val (.int (Int32.ofNat (i + 1))), .val (.int (cv A (o + i)))] [])) := by
        have := c9
        rw [succ32, succ32, succ32] at this
        exact this
      exact ih (i + 1) (by omega) _ (Or.inr ⟨_, rfl, rfl⟩) T7 _ (by rw [copyLocs_step, ← List.append_assoc]; exact X7) (pl.trans p7) (fl.step (by omega) hlt (by simp)) c10
  obtain ⟨T9, B9, z9, X9, p9, f9, g9⟩ := loop len 0 (by omega) .unset (Or.inl rfl) s₁ B (by simpa [copyLocs] using X0) ⟨hB0.1, fun _ _ => rfl, rfl⟩ (Laid.zero _ _ _) c2
  have c11 : Steps p.tables e below (s₁.setTop (entryFrame m #[.ref b, .int (Int32.ofNat o), .ref d, .int (Int32.ofNat q), .int (Int32.ofNat len)] 7)) (T9.setTop (mkF m 46 #[.val (.ref b), .val (.int (Int32.ofNat (o + len))), .val (.ref d), .val (.int (Int32.ofNat (q + len))), .val (.int (Int32.ofNat len)), .val (.int (Int32.ofNat len)), z9] [.int (Int32.ofNat len)])) := g9.trans (by
    refine XS.iload X9.here hexec rfl (hb hbytes d3) rfl ?_
    refine XS.iload X9.here hexec rfl (hb hbytes d5) rfl ?_
    refine XS.icmpYes X9.here hexec rfl (pc0 := 7) rfl (hb hbytes d7) rfl (ii_ge_t (nlt32 (by omega) (Nat.le_refl _))) (by decide) rfl ?_
    refine XS.iload X9.here hexec rfl (hb hbytes d44) rfl ?_
    exact Steps.refl _)
  exact ⟨T9, some (.int (Int32.ofNat len)), _, _, _, X9, by simp, rfl, rfl, (fun h => by cases h), ⟨rfl, B9, p9.from hh0, f9⟩, fun fs hl => c11.trans (X9.ireturnOut hexec hret rfl (Or.inl rfl) (hb hbytes d46) hl)⟩
end Cmp5
namespace Cmp3
def yN : MethodName := ⟨"java/lang/StringUTF16", "compress", "([CII)[B"⟩
abbrev yB : ByteArray := jdk_52_method_16_code
theorem d0 : decode yB 0 = .ok (.iload_n 2, 1) := by decide +kernel
theorem d1 : decode yB 1 = .ok (.newarray .byte, 2) := by decide +kernel
theorem d3 : decode yB 3 = .ok (.astore_n 3, 1) := by decide +kernel
theorem d4 : decode yB 4 = .ok (.aload_n 0, 1) := by decide +kernel
theorem d5 : decode yB 5 = .ok (.iload_n 1, 1) := by decide +kernel
theorem d6 : decode yB 6 = .ok (.aload_n 3, 1) := by decide +kernel
theorem d7 : decode yB 7 = .ok (.iconst 0, 1) := by decide +kernel
theorem d8 : decode yB 8 = .ok (.iload_n 2, 1) := by decide +kernel
theorem d9 : decode yB 9 = .ok (.invokestatic 115, 3) := by decide +kernel
theorem d12 : decode yB 12 = .ok (.istore 4, 2) := by decide +kernel
theorem d14 : decode yB 14 = .ok (.iload 4, 2) := by decide +kernel
theorem d16 : decode yB 16 = .ok (.iload_n 2, 1) := by decide +kernel
theorem d17 : decode yB 17 = .ok (.if_icmp (.eq) 40, 3) := by decide +kernel
theorem d57 : decode yB 57 = .ok (.aload_n 3, 1) := by decide +kernel
theorem d58 : decode yB 58 = .ok (.areturn, 1) := by decide +kernel
def site : List Cond := [.arrayClass .byte, Cmp5.tab] ++ staticW U16 115 Cmp5.yN
def tab : Cond := tabOf yN yB 6 (some (.array .byte)) site
def P (b : Addr) (A : Cell) (o len : Nat) (args : Array Value) (s : State) : Prop := args = #[.ref b, .int (Int32.ofNat o), .int (Int32.ofNat len)] ∧ Ch b A s ∧ o + len ≤ A.slots.size ∧ len ≤ 536870912 ∧ ∀ i, i < len → ¬ 255 < cv A (o + i)
def E (b : Addr) (A : Cell) (o len : Nat) (r : Option Value) (s u : State) : Prop := NewArr .byte "[B" len (fun j => .int (lo8 (cv A (o + j)))) r s u ∧ u.heap.size = s.heap.size + 1
/-- no char of the range above 255: a new byte[] of their low bytes -/
theorem law (l : Launch) (b : Addr) (A : Cell) (o len : Nat) : Law l yN 3 3 1 18 yB 6 (some (.array .byte)) site (P b A o len) (E b A o len) [] 1 len := by
  refine Law.of_walk (plainFor_of_name (by decide +kernel)) (by decide +kernel) (by decide +kernel) (by decide) (fun _ _ h => by rw [h.1]; rfl) (fun _ U U' hal hh h => ⟨h.1, h.2.1.mv hal hh, h.2.2⟩) (fun r U U' V V' h1 hal h2 h => ⟨NewArr.mv r U U' V V' h1 hal h2 h.1, by rw [h1, h2]; exact h.2⟩) ?_
  intro p e s m args below meth c s₁ X0 hexec hbytes hml hret hlk hnm hown hh0 W hP
  obtain ⟨rfl, hA, l1, l2, hp⟩ := hP
  have a31 := hA.1.2.2.2
  have c1 : Steps p.tables e below (s₁.setTop (entryFrame m #[.ref b, .int (Int32.ofNat o), .int (Int32.ofNat len)] 6)) (s₁.setTop (mkF m 0 #[.val (.ref b), .val (.int (Int32.ofNat o)), .val (.int (Int32.ofNat len)), .unset, .unset, .unset] [])) := entry rfl
  have c2 : Steps p.tables e below (s₁.setTop (entryFrame m #[.ref b, .int (Int32.ofNat o), .int (Int32.ofNat len)] 6)) (s₁.setTop (mkF m 1 #[.val (.ref b), .val (.int (Int32.ofNat o)), .val (.int (Int32.ofNat len)), .unset, .unset, .unset] [.int (Int32.ofNat len)])) := c1.trans (by
    refine XS.iloadN X0.here hexec rfl (hb hbytes d0) rfl ?_
    exact Steps.refl _)
  obtain ⟨T3, B3, X3, ba3, bs3, bv3, bh3, bf3, st3⟩ := X0.anew hexec (atype := .byte) (wk W (.arrayClass .byte)) rfl (by show len * 1 ≤ _; omega) (by omega) (g := (mkF m 1 #[.val (.ref b), .val (.int (Int32.ofNat o)), .val (.int (Int32.ofNat len)), .unset, .unset, .unset] [.int (Int32.ofNat len)])) rfl (hb hbytes d1) (rest := []) rfl (Nat.le_refl _) (by show 0 + len ≤ len; omega)
  rw [hh0] at ba3 st3
  have kp3 : XT.Kept s T3 := (XT.Kept.of_eq hh0).push bh3
  have hA3 := hA.keep X3.warmed.alike (kp3 _ _ hA.1.1)
  have hne : b ≠ s.heap.size := hA.1.ne
  have c4 : Steps p.tables e below (s₁.setTop (entryFrame m #[.ref b, .int (Int32.ofNat o), .int (Int32.ofNat len)] 6)) (T3.setTop (mkF m 3 #[.val (.ref b), .val (.int (Int32.ofNat o)), .val (.int (Int32.ofNat len)), .unset, .unset, .unset] [.ref s.heap.size])) := c2.trans (st3 _ (Steps.refl _))
  have c5 : Steps p.tables e below (s₁.setTop (entryFrame m #[.ref b, .int (Int32.ofNat o), .int (Int32.ofNat len)] 6)) (T3.setTop (mkF m 9 #[.val (.ref b), .val (.int (Int32.ofNat o)), .val (.int (Int32.ofNat len)), .val (.ref s.heap.size), .unset, .unset] [.int (Int32.ofNat len), .int 0, .ref s.heap.size, .int (Int32.ofNat o), .ref b])) := c4.trans (by
    refine XS.astoreN X3.here hexec rfl (hb hbytes d3) rfl rfl rfl ?_
    refine XS.aloadN X3.here hexec rfl (hb hbytes d4) rfl rfl ?_
    refine XS.iloadN X3.here hexec rfl (hb hbytes d5) rfl ?_
    refine XS.aloadN X3.here hexec rfl (hb hbytes d6) rfl rfl ?_
    refine iconstV X3.here hexec rfl 0 (hb hbytes d7) (by decide) ?_
    refine XS.iloadN X3.here hexec rfl (hb hbytes d8) rfl ?_
    exact Steps.refl _)
  obtain ⟨v6, T6, X6, E6, g6⟩ := X3.callS hexec (Cmp5.law l b A s.heap.size B3 o 0 len) hown (wks W (staticW U16 115 Cmp5.yN)) (wk W Cmp5.tab) (W := 0) (Nat.le_of_ble_eq_true rfl) (Nat.le_of_ble_eq_true rfl) (Nat.le_refl _) (by show 0 + len + 0 ≤ len; omega) (g := (mkF m 9 #[.val (.ref b), .val (.int (Int32.ofNat o)), .val (.int (Int32.ofNat len)), .val (.ref s.heap.size), .unset, .unset] [.int (Int32.ofNat len), .int (Int32.ofNat 0), .ref s.heap.size, .int (Int32.ofNat o), .ref b])) rfl (by rw [hml]; rfl) c5 (argsL := [.ref b, .int (Int32.ofNat o), .ref s.heap.size, .int (Int32.ofNat 0), .int (Int32.ofNat len)]) (rest := []) rfl rfl (by show 2 * 0 + 0 ≤ _; decide) (hb hbytes d9) (⟨rfl, hA3, ba3, hne, l1, by rw [bs3]; simp, hp⟩)
  obtain ⟨rfl, B6, p6, f6⟩ := E6
  have c7 : Steps p.tables e below (s₁.setTop (entryFrame m #[.ref b, .int (Int32.ofNat o), .int (Int32.ofNat len)] 6)) (T6.setTop (mkF m 12 #[.val (.ref b), .val (.int (Int32.ofNat o)), .val (.int (Int32.ofNat len)), .val (.ref s.heap.size), .unset, .unset] [.int (Int32.ofNat len)])) := g6
  have c8 : Steps p.tables e below (s₁.setTop (entryFrame m #[.ref b, .int (Int32.ofNat o), .int (Int32.ofNat len)] 6)) (T6.setTop (mkF m 58 #[.val (.ref b), .val (.int (Int32.ofNat o)), .val (.int (Int32.ofNat len)), .val (.ref s.heap.size), .val (.int (Int32.ofNat len)), .unset] [.ref s.heap.size])) := c7.trans (by
    refine XS.istore X6.here hexec rfl (hb hbytes d12) rfl rfl ?_
    refine XS.iload X6.here hexec rfl (hb hbytes d14) rfl ?_
    refine XS.iloadN X6.here hexec rfl (hb hbytes d16) rfl ?_
    refine XS.icmpYes X6.here hexec rfl (pc0 := 17) rfl (hb hbytes d17) rfl (ii_eq_t rfl) (by decide) rfl ?_
    refine XS.aloadN X6.here hexec rfl (hb hbytes d57) rfl rfl ?_
    exact Steps.refl _)
  have X8 := X6.wide (L' := []) (cells' := 1) (slots' := len) (fun x hx hlt => by
    simp only [List.nil_append, copyLocs, List.mem_map, List.mem_range] at hx
    obtain ⟨i, -, rfl⟩ := hx
    exact absurd hlt (Nat.lt_irrefl _)) (Nat.le_refl _) (by omega)
  exact ⟨T6, some (.ref s.heap.size), _, _, _, X8, rfl, rfl, rfl, (fun h => by cases h), ⟨⟨rfl, B6, ba3.like (X3.warmed.alike.symm.trans X6.warmed.alike) p6.1 f6.1 f6.2.1 f6.2.2.1, f6.2.1.trans bv3, by rw [X6.warmed.alike.findClass, f6.1]; exact bf3, by rw [f6.2.2.1, bs3]; simp, fun j hj => by rw [f6.2.2.2 j, if_pos (by omega)]; rfl, kp3.put p6 (Nat.le_refl _)⟩, by rw [p6.2.2, bh3, hh0]; simp⟩, fun fs hl => c8.trans (X8.areturnOut hexec rfl hret rfl (hb hbytes d58) hl)⟩
end Cmp3
namespace CodL
def yN : MethodName := ⟨"java/lang/StringUTF16", "coderFromArrayLen", "([BI)B"⟩
abbrev yB : ByteArray := jdk_52_method_15_code
theorem d0 : decode yB 0 = .ok (.iload_n 1, 1) := by decide +kernel
theorem d1 : decode yB 1 = .ok (.aload_n 0, 1) := by decide +kernel
theorem d2 : decode yB 2 = .ok (.arraylength, 1) := by decide +kernel
theorem d3 : decode yB 3 = .ok (.isub, 1) := by decide +kernel
theorem d4 : decode yB 4 = .ok (.bipush 31, 2) := by decide +kernel
theorem d6 : decode yB 6 = .ok (.iushr, 1) := by decide +kernel
theorem d7 : decode yB 7 = .ok (.i2b, 1) := by decide +kernel
theorem d8 : decode yB 8 = .ok (.ireturn, 1) := by decide +kernel
def site : List Cond := []
def tab : Cond := tabOf yN yB 2 (some .byte) site
def P (d : Addr) (B : Cell) (args : Array Value) (s : State) : Prop := args = #[.ref d, .int (Int32.ofNat B.slots.size)] ∧ Arr .byte d B s
def E (r : Option Value) (s u : State) : Prop := XT.PureE (some (.int 0)) r s u
/-- an array as long as the number of chars: LATIN1 -/
theorem law (l : Launch) (d : Addr) (B : Cell) : Law l yN 2 2 0 0 yB 2 (some .byte) site (P d B) E [] 0 0 := by
  refine Law.of_walk (plainFor_of_name (by decide +kernel)) (by decide +kernel) (by decide +kernel) (by decide) (fun _ _ h => by rw [h.1]; rfl) (fun _ U U' hal hh h => ⟨h.1, h.2.mv hal hh⟩) (fun r U U' V V' h1 hal h2 h => XT.PureE.mv r U U' V V' h1 hal h2 h) ?_
  intro p e s m args below meth c s₁ X0 hexec hbytes hml hret hlk hnm hown hh0 W hP
  obtain ⟨rfl, hB⟩ := hP
  have hB0 := hB.mv X0.warmed.alike hh0
  have c1 : Steps p.tables e below (s₁.setTop (entryFrame m #[.ref d, .int (Int32.ofNat B.slots.size)] 2)) (s₁.setTop (mkF m 0 #[.val (.ref d), .val (.int (Int32.ofNat B.slots.size))] [])) := entry rfl
  have c2 : Steps p.tables e below (s₁.setTop (entryFrame m #[.ref d, .int (Int32.ofNat B.slots.size)] 2)) (s₁.setTop (mkF m 2 #[.val (.ref d), .val (.int (Int32.ofNat B.slots.size))] [.ref d, .int (Int32.ofNat B.slots.size)])) := c1.trans (by
    refine XS.iloadN X0.here hexec rfl (hb hbytes d0) rfl ?_
    refine XS.aloadN X0.here hexec rfl (hb hbytes d1) rfl rfl ?_
    exact Steps.refl _)
  have c3 : Steps p.tables e below (s₁.setTop (entryFrame m #[.ref d, .int (Int32.ofNat B.slots.size)] 2)) (s₁.setTop (mkF m 8 #[.val (.ref d), .val (.int (Int32.ofNat B.slots.size))] [.int (lo8 (ushr (Int32.ofNat B.slots.size - Int32.ofNat B.slots.size) 31))])) := c2.trans (by
    refine X0.alen hexec hB0 rfl rfl (hb hbytes d2) ?_
    refine XS.isub X0.here hexec rfl (hb hbytes d3) rfl ?_
    refine bipushV X0.here hexec rfl 31 (hb hbytes d4) (by decide) ?_
    refine iushr X0.here hexec rfl (hb hbytes d6) rfl ?_
    refine i2b X0.here hexec rfl (hb hbytes d7) rfl ?_
    exact Steps.refl _)
  have e0 : lo8 (ushr (Int32.ofNat B.slots.size - Int32.ofNat B.slots.size) 31) = 0 := by rw [Int32.sub_self]; decide
  rw [e0] at c3
  exact ⟨s₁, some (.int 0), _, _, _, X0, rfl, rfl, rfl, (fun h => by cases h), ⟨rfl, hh0⟩, fun fs hl => c3.trans (X0.ireturnOut hexec hret rfl (Or.inr (Or.inr (Or.inl rfl))) (hb hbytes d8) hl)⟩
end CodL
/-- the String at a is Latin-1 over a new byte[] (the heap's one new cell): the low bytes of the len chars of A from o on; every cell but a is kept -/
def Got (a : Addr) (D : Cell) (fV fC : Field) (A : Cell) (o len : Nat) (r : Option Value) (s u : State) : Prop := r = none ∧ ∃ D' V : Cell, Blank "java/lang/String" a D' u ∧ Same D D' [fV.slot, fC.slot] ∧ D'.slots[fV.slot]? = some (.ref s.heap.size) ∧ D'.slots[fC.slot]? = some (.int 0) ∧ Arr .byte s.heap.size V u ∧ V.vm = .none ∧ u.vm.findClass "[B" = some V.cls ∧ V.slots.size = len ∧ (∀ j, j < len → V.slots[j]? = some (.int (lo8 (cv A (o + j))))) ∧ (∀ (y : Addr) (c : Cell), y ≠ a → s.heap[y]? = some c → u.heap[y]? = some c) ∧ u.heap.size = s.heap.size + 1
theorem Got.mv {a : Addr} {D A : Cell} {fV fC : Field} {o len : Nat} : ∀ r (U U' V V' : State), U'.heap = U.heap → V.vm.Alike V'.vm → V'.heap = V.heap → Got a D fV fC A o len r U V → Got a D fV fC A o len r U' V' :=
  fun r U U' V V' h1 hal h2 ⟨e0, D', X, a1, a2, a3, a4, a5, a6, a7, a8, a9, a10, a11⟩ => ⟨e0, D', X, a1.mv hal h2, a2, by rw [h1]; exact a3, a4, by rw [h1]; exact a5.mv hal h2, a6, by rw [hal.findClass]; exact a7, a8, a9, by rw [h1, h2]; exact a10, by rw [h1, h2]; exact a11⟩
namespace New4
def yN : MethodName := ⟨"java/lang/String", "<init>", "([CIILjava/lang/Void;)V"⟩
abbrev yB : ByteArray := jdk_42_method_149_code
theorem d0 : decode yB 0 = .ok (.aload_n 0, 1) := by decide +kernel
theorem d1 : decode yB 1 = .ok (.invokespecial 1, 3) := by decide +kernel
theorem d4 : decode yB 4 = .ok (.iload_n 3, 1) := by decide +kernel
theorem d5 : decode yB 5 = .ok (.ifCond (.ne) 22, 3) := by decide +kernel
theorem d27 : decode yB 27 = .ok (.getstatic 38, 3) := by decide +kernel
theorem d30 : decode yB 30 = .ok (.ifCond (.eq) 28, 3) := by decide +kernel
theorem d33 : decode yB 33 = .ok (.aload_n 1, 1) := by decide +kernel
theorem d34 : decode yB 34 = .ok (.iload_n 2, 1) := by decide +kernel
theorem d35 : decode yB 35 = .ok (.iload_n 3, 1) := by decide +kernel
theorem d36 : decode yB 36 = .ok (.invokestatic 177, 3) := by decide +kernel
theorem d39 : decode yB 39 = .ok (.astore 5, 2) := by decide +kernel
theorem d41 : decode yB 41 = .ok (.aload_n 0, 1) := by decide +kernel
theorem d42 : decode yB 42 = .ok (.aload 5, 2) := by decide +kernel
theorem d44 : decode yB 44 = .ok (.iload_n 3, 1) := by decide +kernel
theorem d45 : decode yB 45 = .ok (.invokestatic 47, 3) := by decide +kernel
theorem d48 : decode yB 48 = .ok (.putfield 15, 3) := by decide +kernel
theorem d51 : decode yB 51 = .ok (.aload_n 0, 1) := by decide +kernel
theorem d52 : decode yB 52 = .ok (.aload 5, 2) := by decide +kernel
theorem d54 : decode yB 54 = .ok (.putfield 9, 3) := by decide +kernel
theorem d57 : decode yB 57 = .ok (.return_, 1) := by decide +kernel
def site : List Cond := [.fieldLink "java/lang/String" 38 "java/lang/String" "COMPACT_STRINGS" "Z", Cmp3.tab, CodL.tab, .laysFinal "java/lang/String" "java/lang/String" "value" "[B", .fieldLink "java/lang/String" 9 "java/lang/String" "value" "[B", .laysFinal "java/lang/String" "java/lang/String" "coder" "B", .fieldLink "java/lang/String" 15 "java/lang/String" "coder" "B"] ++ objW "java/lang/String" 1 ++ staticW "java/lang/String" 177 Cmp3.yN ++ staticW "java/lang/String" 47 CodL.yN
def tab : Cond := tabOf yN yB 6 none site
def P (a : Addr) (D : Cell) (fV fC : Field) (b : Addr) (A : Cell) (z : Int32) (o len : Nat) (args : Array Value) (s : State) : Prop := args = #[.ref a, .ref b, .int (Int32.ofNat o), .int (Int32.ofNat len), .null] ∧ Blank "java/lang/String" a D s ∧ Found "java/lang/String" "value" "[B" fV s ∧ Found "java/lang/String" "coder" "B" fC s ∧ Ch b A s ∧ StaticIs s "java/lang/String" "COMPACT_STRINGS" "Z" (.int z) ∧ ¬ z = 0 ∧ 0 < len ∧ o + len ≤ A.slots.size ∧ len ≤ 536870912 ∧ ∀ i, i < len → ¬ 255 < cv A (o + i)
def E (a : Addr) (D : Cell) (fV fC : Field) (A : Cell) (o len : Nat) (r : Option Value) (s u : State) : Prop := Got a D fV fC A o len r s u
/-- len > 0, no char of the range above 255: a Latin-1 String of their low bytes -/
theorem law (l : Launch) (a : Addr) (D : Cell) (fV fC : Field) (b : Addr) (A : Cell) (z : Int32) (o len : Nat) : Law l yN 5 4 2 35 yB 6 none site (P a D fV fC b A z o len) (E a D fV fC A o len) [⟨a, fC.slot⟩, ⟨a, fV.slot⟩] 1 len := by
  refine Law.of_walk (plainFor_of_name (by decide +kernel)) (by decide +kernel) (by decide +kernel) (by decide) (fun _ _ h => by rw [h.1]; rfl) (fun _ U U' hal hh h => ⟨h.1, h.2.1.mv hal hh, h.2.2.1.al hal, h.2.2.2.1.al hal, h.2.2.2.2.1.mv hal hh, h.2.2.2.2.2.1.there hal hh, h.2.2.2.2.2.2⟩) (fun r U U' V V' h1 hal h2 h => Got.mv r U U' V V' h1 hal h2 h) ?_
  intro p e s m args below meth c s₁ X0 hexec hbytes hml hret hlk hnm hown hh0 W hP
  obtain ⟨rfl, hB, f1, f2, hA, s1, hz, l0, l1, l2, hp⟩ := hP
  have a31 := hA.1.2.2.2
  have c1 : Steps p.tables e below (s₁.setTop (entryFrame m #[.ref a, .ref b, .int (Int32.ofNat o), .int (Int32.ofNat len), .null] 6)) (s₁.setTop (mkF m 0 #[.val (.ref a), .val (.ref b), .val (.int (Int32.ofNat o)), .val (.int (Int32.ofNat len)), .val .null, .unset] [])) := entry rfl
  have c2 : Steps p.tables e below (s₁.setTop (entryFrame m #[.ref a, .ref b, .int (Int32.ofNat o), .int (Int32.ofNat len), .null] 6)) (s₁.setTop (mkF m 1 #[.val (.ref a), .val (.ref b), .val (.int (Int32.ofNat o)), .val (.int (Int32.ofNat len)), .val .null, .unset] [.ref a])) := c1.trans (by
    refine XS.aloadN X0.here hexec rfl (hb hbytes d0) rfl rfl ?_
    exact Steps.refl _)
  obtain ⟨T3, X3, q3, st3⟩ := X0.oinit hexec hown (wks W (objW "java/lang/String" 1)) (g := (mkF m 1 #[.val (.ref a), .val (.ref b), .val (.int (Int32.ofNat o)), .val (.int (Int32.ofNat len)), .val .null, .unset] [.ref a])) rfl (by rw [hml]; rfl) (rest := []) rfl (hb hbytes d1) (W := 0) (by show 2 * 0 + 0 ≤ _; decide) (Nat.le_of_ble_eq_true rfl) (Nat.le_of_ble_eq_true rfl)
  have hh3 := q3.trans hh0
  have c4 : Steps p.tables e below (s₁.setTop (entryFrame m #[.ref a, .ref b, .int (Int32.ofNat o), .int (Int32.ofNat len), .null] 6)) (T3.setTop (mkF m 27 #[.val (.ref a), .val (.ref b), .val (.int (Int32.ofNat o)), .val (.int (Int32.ofNat len)), .val .null, .unset] [])) := (c2.trans (st3 _ (Steps.refl _))).trans (by
    refine XS.iloadN X3.here hexec rfl (hb hbytes d4) rfl ?_
    refine XS.ifYes X3.here hexec rfl (pc0 := 5) rfl (hb hbytes d5) rfl (i0_ne_t (nz32 (by omega) l0)) (by decide) rfl ?_
    exact Steps.refl _)
  obtain ⟨T5, X5, q5, st5⟩ := X3.sget hexec hown (wk W (.fieldLink "java/lang/String" 38 "java/lang/String" "COMPACT_STRINGS" "Z")) s1 (fun _ _ h => by rw [hh3]; exact h) (g := (mkF m 27 #[.val (.ref a), .val (.ref b), .val (.int (Int32.ofNat o)), .val (.int (Int32.ofNat len)), .val .null, .unset] [])) rfl (hb hbytes d27)
  have hh5 := q5.trans hh3
  have c6 : Steps p.tables e below (s₁.setTop (entryFrame m #[.ref a, .ref b, .int (Int32.ofNat o), .int (Int32.ofNat len), .null] 6)) (T5.setTop (mkF m 30 #[.val (.ref a), .val (.ref b), .val (.int (Int32.ofNat o)), .val (.int (Int32.ofNat len)), .val .null, .unset] [.int z])) := c4.trans (st5 _ (Steps.refl _))
  have c7 : Steps p.tables e below (s₁.setTop (entryFrame m #[.ref a, .ref b, .int (Int32.ofNat o), .int (Int32.ofNat len), .null] 6)) (T5.setTop (mkF m 36 #[.val (.ref a), .val (.ref b), .val (.int (Int32.ofNat o)), .val (.int (Int32.ofNat len)), .val .null, .unset] [.int (Int32.ofNat len), .int (Int32.ofNat o), .ref b])) := c6.trans (by
    refine XS.ifNo X5.here hexec rfl (hb hbytes d30) rfl (i0_eq_f hz) ?_
    refine XS.aloadN X5.here hexec rfl (hb hbytes d33) rfl rfl ?_
    refine XS.iloadN X5.here hexec rfl (hb hbytes d34) rfl ?_
    refine XS.iloadN X5.here hexec rfl (hb hbytes d35) rfl ?_
    exact Steps.refl _)
  obtain ⟨v8, T8, X8, E8, g8⟩ := X5.callS hexec (Cmp3.law l b A o len) hown (wks W (staticW "java/lang/String" 177 Cmp3.yN)) (wk W Cmp3.tab) (W := 0) (Nat.le_of_ble_eq_true rfl) (Nat.le_of_ble_eq_true rfl) (Nat.le_refl _) (by show 0 + len ≤ len; omega) (g := (mkF m 36 #[.val (.ref a), .val (.ref b), .val (.int (Int32.ofNat o)), .val (.int (Int32.ofNat len)), .val .null, .unset] [.int (Int32.ofNat len), .int (Int32.ofNat o), .ref b])) rfl (by rw [hml]; rfl) c7 (argsL := [.ref b, .int (Int32.ofNat o), .int (Int32.ofNat len)]) (rest := []) rfl rfl (by show 2 * 0 + 0 ≤ _; decide) (hb hbytes d36) (⟨rfl, hA.mv X5.warmed.alike hh5, l1, l2, hp⟩)
  obtain ⟨e8, z8⟩ := E8
  obtain ⟨rfl, N, n1, n2, n3, n4, n5, n6⟩ := NewArr.mv _ T5 s _ _ hh5.symm (Vm.Alike.refl _) rfl e8
  rw [hh5] at z8
  have hB1 := hB.keep X8.warmed.alike (n6 _ _ hB.1)
  have hne : s.heap.size ≠ a := (Nat.ne_of_lt (Array.getElem?_eq_some_iff.mp hB.1).1).symm
  have c9 : Steps p.tables e below (s₁.setTop (entryFrame m #[.ref a, .ref b, .int (Int32.ofNat o), .int (Int32.ofNat len), .null] 6)) (T8.setTop (mkF m 39 #[.val (.ref a), .val (.ref b), .val (.int (Int32.ofNat o)), .val (.int (Int32.ofNat len)), .val .null, .unset] [.ref s.heap.size])) := g8
  have c10 : Steps p.tables e below (s₁.setTop (entryFrame m #[.ref a, .ref b, .int (Int32.ofNat o), .int (Int32.ofNat len), .null] 6)) (T8.setTop (mkF m 45 #[.val (.ref a), .val (.ref b), .val (.int (Int32.ofNat o)), .val (.int (Int32.ofNat len)), .val .null, .val (.ref s.heap.size)] [.int (Int32.ofNat N.slots.size), .ref s.heap.size, .ref a])) := by
    have hc : Steps p.tables e below (s₁.setTop (entryFrame m #[.ref a, .ref b, .int (Int32.ofNat o), .int (Int32.ofNat len), .null] 6)) (T8.setTop (mkF m 45 #[.val (.ref a), .val (.ref b), .val (.int (Int32.ofNat o)), .val (.int (Int32.ofNat len)), .val .null, .val (.ref s.heap.size)] [.int (Int32.ofNat len), .ref s.heap.size, .ref a])) := c9.trans (by
      refine XS.astore X8.here hexec rfl (hb hbytes d39) rfl rfl rfl ?_
      refine XS.aloadN X8.here hexec rfl (hb hbytes d41) rfl rfl ?_
      refine XS.aload X8.here hexec rfl (hb hbytes d42) rfl rfl ?_
      refine XS.iloadN X8.here hexec rfl (hb hbytes d44) rfl ?_
      exact Steps.refl _)
    rw [n4]; exact hc
  obtain ⟨v11, T11, X11, E11, g11⟩ := X8.callS hexec (CodL.law l s.heap.size N) hown (wks W (staticW "java/lang/String" 47 CodL.yN)) (wk W CodL.tab) (W := 1) (Nat.le_of_ble_eq_true rfl) (Nat.le_of_ble_eq_true rfl) (Nat.le_refl _) (by show 0 + len + 0 ≤ len; omega) (g := (mkF m 45 #[.val (.ref a), .val (.ref b), .val (.int (Int32.ofNat o)), .val (.int (Int32.ofNat len)), .val .null, .val (.ref s.heap.size)] [.int (Int32.ofNat N.slots.size), .ref s.heap.size, .ref a])) rfl (by rw [hml]; rfl) c10 (argsL := [.ref s.heap.size, .int (Int32.ofNat N.slots.size)]) (rest := [.ref a]) rfl rfl (by show 2 * 0 + (1 + 0) ≤ _; decide) (hb hbytes d45) (⟨rfl, n1⟩)
  obtain ⟨rfl, q11⟩ := E11
  have hB11 := hB1.mv (X8.warmed.alike.symm.trans X11.warmed.alike) q11
  have c12 : Steps p.tables e below (s₁.setTop (entryFrame m #[.ref a, .ref b, .int (Int32.ofNat o), .int (Int32.ofNat len), .null] 6)) (T11.setTop (mkF m 48 #[.val (.ref a), .val (.ref b), .val (.int (Int32.ofNat o)), .val (.int (Int32.ofNat len)), .val .null, .val (.ref s.heap.size)] [.int 0, .ref a])) := g11
  obtain ⟨T13, X13, p13, bl13, sl13, st13⟩ := X11.finit hexec hown (wk W (.fieldLink "java/lang/String" 15 "java/lang/String" "coder" "B")) (Or.inr ⟨_, (wk W (.laysFinal "java/lang/String" "java/lang/String" "coder" "B"))⟩) (Or.inl ⟨rfl, hnm⟩) f2 (Or.inl rfl) hB11 (t := .byte) (by decide +kernel) rfl (g := (mkF m 48 #[.val (.ref a), .val (.ref b), .val (.int (Int32.ofNat o)), .val (.int (Int32.ofNat len)), .val .null, .val (.ref s.heap.size)] [.int 0, .ref a])) rfl (rest := []) rfl (hb hbytes d48)
  have c14 : Steps p.tables e below (s₁.setTop (entryFrame m #[.ref a, .ref b, .int (Int32.ofNat o), .int (Int32.ofNat len), .null] 6)) (T13.setTop (mkF m 54 #[.val (.ref a), .val (.ref b), .val (.int (Int32.ofNat o)), .val (.int (Int32.ofNat len)), .val .null, .val (.ref s.heap.size)] [.ref s.heap.size, .ref a])) := (c12.trans (st13 _ (Steps.refl _))).trans (by
    refine XS.aloadN X13.here hexec rfl (hb hbytes d51) rfl rfl ?_
    refine XS.aload X13.here hexec rfl (hb hbytes d52) rfl rfl ?_
    exact Steps.refl _)
  obtain ⟨T15, X15, p15, bl15, sl15, st15⟩ := X13.finit hexec hown (wk W (.fieldLink "java/lang/String" 9 "java/lang/String" "value" "[B")) (Or.inr ⟨_, (wk W (.laysFinal "java/lang/String" "java/lang/String" "value" "[B"))⟩) (Or.inl ⟨rfl, hnm⟩) f1 (Or.inl rfl) bl13 (t := (.array .byte)) (by decide +kernel) rfl (g := (mkF m 54 #[.val (.ref a), .val (.ref b), .val (.int (Int32.ofNat o)), .val (.int (Int32.ofNat len)), .val .null, .val (.ref s.heap.size)] [.ref s.heap.size, .ref a])) rfl (rest := []) rfl (hb hbytes d54)
  have c16 : Steps p.tables e below (s₁.setTop (entryFrame m #[.ref a, .ref b, .int (Int32.ofNat o), .int (Int32.ofNat len), .null] 6)) (T15.setTop (mkF m 57 #[.val (.ref a), .val (.ref b), .val (.int (Int32.ofNat o)), .val (.int (Int32.ofNat len)), .val .null, .val (.ref s.heap.size)] [])) := c14.trans (st15 _ (Steps.refl _))
  have ap := apart (Or.inr ⟨_, (wk W (.laysFinal "java/lang/String" "java/lang/String" "value" "[B"))⟩) (Or.inr ⟨_, (wk W (.laysFinal "java/lang/String" "java/lang/String" "coder" "B"))⟩) f1 f2 (t₁ := .array .byte) (t₂ := .byte) (by decide +kernel) (by decide +kernel) (by decide)
  have al := X8.warmed.alike.symm.trans X15.warmed.alike
  have n7 : T11.heap[s.heap.size]? = some N := by rw [q11]; exact n1.1
  exact ⟨T15, none, _, _, _, X15, by simp, rfl, by omega, (fun _ => rfl), ⟨rfl, _, N, bl15, ((Same.refl D _).set _ (by simp)).set _ (by simp), sl15, (Cell.slots_setSlot_ne _ ap).trans sl13, n1.keep al (p15.other hne (p13.other hne n7)), n2, by rw [al.findClass]; exact n3, n4, n5, fun y c h1 h2 => p15.other h1 (p13.other h1 (by rw [q11]; exact n6 y c h2)), by rw [p15.2.2, p13.2.2, q11]; exact z8⟩, fun fs hl => c16.trans (X15.returnOut hexec hret (hb hbytes d57) hl)⟩
end New4
namespace New1
def yN : MethodName := ⟨"java/lang/String", "<init>", "([C)V"⟩
abbrev yB : ByteArray := jdk_42_method_3_code
theorem d0 : decode yB 0 = .ok (.aload_n 0, 1) := by decide +kernel
theorem d1 : decode yB 1 = .ok (.aload_n 1, 1) := by decide +kernel
theorem d2 : decode yB 2 = .ok (.iconst 0, 1) := by decide +kernel
theorem d3 : decode yB 3 = .ok (.aload_n 1, 1) := by decide +kernel
theorem d4 : decode yB 4 = .ok (.arraylength, 1) := by decide +kernel
theorem d5 : decode yB 5 = .ok (.aconst_null, 1) := by decide +kernel
theorem d6 : decode yB 6 = .ok (.invokespecial 27, 3) := by decide +kernel
theorem d9 : decode yB 9 = .ok (.return_, 1) := by decide +kernel
def site : List Cond := [New4.tab] ++ initW "java/lang/String" 27 New4.yN
def tab : Cond := tabOf yN yB 2 none site
def P (a : Addr) (D : Cell) (fV fC : Field) (b : Addr) (A : Cell) (z : Int32) (args : Array Value) (s : State) : Prop := args = #[.ref a, .ref b] ∧ Blank "java/lang/String" a D s ∧ Found "java/lang/String" "value" "[B" fV s ∧ Found "java/lang/String" "coder" "B" fC s ∧ Ch b A s ∧ StaticIs s "java/lang/String" "COMPACT_STRINGS" "Z" (.int z) ∧ ¬ z = 0 ∧ 0 < A.slots.size ∧ A.slots.size ≤ 536870912 ∧ ∀ i, i < A.slots.size → ¬ 255 < cv A i
def E (a : Addr) (D : Cell) (fV fC : Field) (A : Cell) (r : Option Value) (s u : State) : Prop := Got a D fV fC A 0 A.slots.size r s u
/-- new String(chars), not empty, no char above 255: a Latin-1 String of their low bytes -/
theorem law (l : Launch) (a : Addr) (D : Cell) (fV fC : Field) (b : Addr) (A : Cell) (z : Int32) : Law l yN 2 1 3 52 yB 2 none site (P a D fV fC b A z) (E a D fV fC A) [⟨a, fC.slot⟩, ⟨a, fV.slot⟩] 1 A.slots.size := by
  refine Law.of_walk (plainFor_of_name (by decide +kernel)) (by decide +kernel) (by decide +kernel) (by decide) (fun _ _ h => by rw [h.1]; rfl) (fun _ U U' hal hh h => ⟨h.1, h.2.1.mv hal hh, h.2.2.1.al hal, h.2.2.2.1.al hal, h.2.2.2.2.1.mv hal hh, h.2.2.2.2.2.1.there hal hh, h.2.2.2.2.2.2⟩) (fun r U U' V V' h1 hal h2 h => Got.mv r U U' V V' h1 hal h2 h) ?_
  intro p e s m args below meth c s₁ X0 hexec hbytes hml hret hlk hnm hown hh0 W hP
  obtain ⟨rfl, hB, f1, f2, hA, s1, hz, l0, l2, hp⟩ := hP
  have c1 : Steps p.tables e below (s₁.setTop (entryFrame m #[.ref a, .ref b] 2)) (s₁.setTop (mkF m 0 #[.val (.ref a), .val (.ref b)] [])) := entry rfl
  have c2 : Steps p.tables e below (s₁.setTop (entryFrame m #[.ref a, .ref b] 2)) (s₁.setTop (mkF m 6 #[.val (.ref a), .val (.ref b)] [.null, .int (Int32.ofNat A.slots.size), .int 0, .ref b, .ref a])) := c1.trans (by
    refine XS.aloadN X0.here hexec rfl (hb hbytes d0) rfl rfl ?_
    refine XS.aloadN X0.here hexec rfl (hb hbytes d1) rfl rfl ?_
    refine iconstV X0.here hexec rfl 0 (hb hbytes d2) (by decide) ?_
    refine XS.aloadN X0.here hexec rfl (hb hbytes d3) rfl rfl ?_
    refine X0.alen hexec (hA.1.mv X0.warmed.alike hh0) rfl rfl (hb hbytes d4) ?_
    refine XS.aconstNull X0.here hexec rfl (hb hbytes d5) ?_
    exact Steps.refl _)
  obtain ⟨v3, T3, X3, E3, g3⟩ := X0.callN hexec (New4.law l a D fV fC b A z 0 A.slots.size) rfl hown (wks W (initW "java/lang/String" 27 New4.yN)) (W New4.tab (by simp only [site, List.mem_cons, List.mem_append, true_or, or_true])) (W := 0) (Nat.le_of_ble_eq_true rfl) (Nat.le_of_ble_eq_true rfl) (Nat.le_refl _) (by show 0 + A.slots.size ≤ A.slots.size; omega) (g := (mkF m 6 #[.val (.ref a), .val (.ref b)] [.null, .int (Int32.ofNat A.slots.size), .int (Int32.ofNat 0), .ref b, .ref a])) rfl (by rw [hml]; rfl) c2 (argsL := [.ref b, .int (Int32.ofNat 0), .int (Int32.ofNat A.slots.size), .null]) (rest := []) rfl rfl (by show 2 * 0 + 0 ≤ _; decide) (hb hbytes d6) (⟨rfl, hB.mv X0.warmed.alike hh0, f1.al X0.warmed.alike, f2.al X0.warmed.alike, hA.mv X0.warmed.alike hh0, s1.there X0.warmed.alike hh0, hz, l0, by omega, l2, fun i hi => by rw [Nat.zero_add]; exact hp i hi⟩)
  have e0 := Got.mv _ s₁ s _ _ hh0.symm (Vm.Alike.refl _) rfl E3
  obtain rfl := e0.1
  have c4 : Steps p.tables e below (s₁.setTop (entryFrame m #[.ref a, .ref b] 2)) (T3.setTop (mkF m 9 #[.val (.ref a), .val (.ref b)] [])) := g3
  exact ⟨T3, none, _, _, _, X3, by simp, rfl, by omega, (fun _ => rfl), e0, fun fs hl => c4.trans (X3.returnOut hexec hret (hb hbytes d9) hl)⟩
theorem pays {l : Launch} {R : Room} {p : Program} {e : Env} {below : List Frame} {s : State} {sargs : Array Value} {len W : Nat} (a : Addr) (D : Cell) (fV fC : Field) (b : Addr) (A : Cell) (z : Int32) (htab : tab.before sargs s = true) (hfr : 4 ≤ R.frames) (hlo : W + 65 ≤ R.locals) :
    Back l R p e below s sargs yN len W (fun A₁ a₁ => A₁.cells + 1 ≤ R.cells ∧ A₁.slots + A.slots.size ≤ R.slots ∧ P a D fV fC b A z a₁ A₁.U) (fun A₁ _ v₁ B₁ => E a D fV fC A v₁ A₁.U B₁.U ∧ B₁.locs = A₁.locs ++ [⟨a, fC.slot⟩, ⟨a, fV.slot⟩] ∧ B₁.cells = A₁.cells + 1 ∧ B₁.slots = A₁.slots + A.slots.size) :=
  (law l a D fV fC b A z).pays htab hfr (by omega)
end New1
end StrChars
namespace StrChars.Road
open Jvm Sem ClassFile Op Lib Jvm.Stand Jvm.Free Jvm.Free.XT
open Jvm.Lib.Cold (StaticIs)
abbrev ST : String := "java/lang/String"
/-- every table word that New1's law asks, flat -/
abbrev words : List Jvm.Cond := [.code New1.yN New1.yB 2 none, .initialized ST, .methodLink ST 27 New4.yN, .instanceMethod New4.yN,
  .code New4.yN New4.yB 6 none, .fieldLink ST 38 ST "COMPACT_STRINGS" "Z", .laysFinal ST ST "value" "[B", .fieldLink ST 9 ST "value" "[B", .laysFinal ST ST "coder" "B", .fieldLink ST 15 ST "coder" "B",
  .methodLink ST 1 Lib.objectInit, .instanceMethod Lib.objectInit, .code Lib.objectInit ⟨#[0xb1]⟩ 1 none, .methodLink ST 177 Cmp3.yN, .static Cmp3.yN, .methodLink ST 47 CodL.yN, .static CodL.yN,
  .code Cmp3.yN Cmp3.yB 6 (some (.array .byte)), .initialized U16, .arrayClass .byte, .methodLink U16 115 Cmp5.yN, .static Cmp5.yN, .code Cmp5.yN Cmp5.yB 7 (some .int), .code CodL.yN CodL.yB 2 (some .byte)]
theorem tab_of {a : Array Value} {s : State} (h : ∀ w ∈ words, w.before a s = true) : New1.tab.before a s = true := by
  have h5 : Cmp5.tab.before a s = true := unparts (wk h (.code Cmp5.yN Cmp5.yB 7 (some .int))) (wks h (.initialized Cmp5.yN.cls :: Cmp5.site))
  have hc : CodL.tab.before a s = true := unparts (wk h (.code CodL.yN CodL.yB 2 (some .byte))) (wks h (.initialized CodL.yN.cls :: CodL.site))
  have q5 : ∀ w ∈ Cmp5.tab :: words, w.before a s = true := fun w hw => (List.mem_cons.mp hw).elim (fun e => e ▸ h5) (h w)
  have h3 : Cmp3.tab.before a s = true := unparts (wk q5 (.code Cmp3.yN Cmp3.yB 6 (some (.array .byte)))) (wks q5 (.initialized Cmp3.yN.cls :: Cmp3.site))
  have q3 : ∀ w ∈ Cmp3.tab :: CodL.tab :: words, w.before a s = true := fun w hw => (List.mem_cons.mp hw).elim (fun e => e ▸ h3) fun hw => (List.mem_cons.mp hw).elim (fun e => e ▸ hc) (h w)
  have h4 : New4.tab.before a s = true := unparts (wk q3 (.code New4.yN New4.yB 6 none)) (wks q3 (.initialized New4.yN.cls :: New4.site))
  have q4 : ∀ w ∈ New4.tab :: words, w.before a s = true := fun w hw => (List.mem_cons.mp hw).elim (fun e => e ▸ h4) (h w)
  exact unparts (wk q4 (.code New1.yN New1.yB 2 none)) (wks q4 (.initialized New1.yN.cls :: New1.site))
/-- the words ride from the start Z to the walk's own state -/
theorem moved {Z s : State} {a0 args : Array Value} (hZ : Z.Warmed39 s.vm) (hw : ∀ d ∈ words, d.before a0 Z = true) : ∀ d ∈ words, d.before args s = true := fun d hd => by
  have q := hw d hd
  have t : ∀ d ∈ words, d = .arrayClass .byte ∨ (d.onTables && d.keepsFace) = true := by decide +kernel
  rcases t d hd with rfl | t
  · exact RoadKit.mvA hZ q
  · exact RoadKit.mv hZ q t
/-- WHAT COMES BACK, over the tables of the start Z: h the heap at the call, h' behind it -/
def Q (Z : State) (x : Addr) (A : Cell) (h : Heap) (v : Option Value) (h' : Heap) (L : List Loc) : Prop := v = none ∧ (∀ y ∈ L, y.base = x) ∧ RoadKit.Keep h h' [x] ∧ h'.size = h.size + 1 ∧ RoadKit.Exa Z h' x ST ∧ RoadKit.Fld Z h' x ST "value" "[B" (.ref h.size) ∧ RoadKit.Fld Z h' x ST "coder" "B" (.int 0) ∧
  (∃ V : Cell, RoadKit.Arr Z h' h.size V .byte ∧ V.vm = .none ∧ Z.vm.findClass "[B" = some V.cls ∧ V.slots.size = A.slots.size ∧ ∀ j, j < A.slots.size → V.slots[j]? = some (.int (lo8 (cv A j)))) ∧
  ∀ (O n d : String) (w : Value), RoadKit.Fld Z h x O n d w → RoadKit.slotOf Z O n d ≠ RoadKit.slotOf Z ST "value" "[B" → RoadKit.slotOf Z O n d ≠ RoadKit.slotOf Z ST "coder" "B" → RoadKit.Fld Z h' x O n d w
/-- **new String(chars) AT A CALL, IN THE ROAD'S FORM**: for specialBack behind newO: x the fresh String, b the char[] with the cell A -/
theorem back {p : Program} {l : Launch} {e : Env} {R : Room} {s : State} {args : Array Value} {below : List Frame} {len W : Nat} {Z : State} {a0 : Array Value} {h : Heap} (hZ : Z.Warmed39 s.vm) (hw : ∀ d ∈ words, d.before a0 Z = true) {kI : Nat} (wi : (Jvm.Cond.instantiable ST kI).before a0 Z = true)
    {x b : Addr} {A : Cell} {z : Int32} {v0 c0 : Value} (E : RoadKit.Exa Z h x ST) (V : RoadKit.Fld Z h x ST "value" "[B" v0) (C : RoadKit.Fld Z h x ST "coder" "B" c0) (K : RoadKit.Arr Z h b A .char) (hty : Typed .char A) (S : RoadKit.Sta Z h ST "COMPACT_STRINGS" "Z" (.int z)) (hz : ¬ z = 0)
    (l0 : 0 < A.slots.size) (l2 : A.slots.size ≤ 536870912) (hp : ∀ i, i < A.slots.size → ¬ 255 < cv A i) (hfr : 4 ≤ R.frames) (hlo : W + 65 ≤ R.locals) :
    Back l R p e below s args New1.yN len W (fun P a => a = #[.ref x, .ref b] ∧ P.U.heap = h ∧ P.cells + 1 ≤ R.cells ∧ P.slots + A.slots.size ≤ R.slots)
      (fun P _ v B => ∃ L, Q Z x A h v B.U.heap L ∧ B.locs = P.locs ++ L ∧ B.cells = P.cells + 1 ∧ B.slots = P.slots + A.slots.size) := by
  intro m meth c P g ig mk a X hg hsize hdg hW hn hp'
  obtain ⟨rfl, rfl, r1, r2⟩ := hp'
  have al : Z.vm.Alike P.U.vm := hZ.alike.trans X.warmed.alike
  obtain ⟨D, cfV, kV, iV, fV, hD, gV, stV, knV, obV, asV, slV⟩ := id V
  obtain ⟨D', cfC, kC, iC, fC, hD', gC, stC, -, -, asC, slC⟩ := id C
  cases hD.symm.trans hD'
  obtain ⟨D2, kD, e1, e2, e3, e4, e5⟩ := id E
  cases hD.symm.trans e1
  obtain ⟨c2, k2, i1, i2, i3, -⟩ := Cond.instantiable_spec wi
  cases e2.symm.trans i1
  cases e3.symm.trans i2
  obtain ⟨kU, u1, u2⟩ := al.2.2 _ _ e3
  have hB : Blank ST x D P.U := ⟨hD, ⟨knV, fun q hq => by rw [hq] at obV; cases obV⟩, by rw [al.findClass]; exact e2, kU, u1, by rw [u2]; exact i3, by rw [u2]; exact e5 i3⟩
  have F1 : Found ST "value" "[B" fV P.U := ⟨SBG.found_only al ⟨cfV, kV, iV, gV⟩, stV⟩
  have F2 : Found ST "coder" "B" fC P.U := ⟨SBG.found_only al ⟨cfC, kC, iC, gC⟩, stC⟩
  have hA : Ch b A P.U := ⟨⟨K.1, State.isArrayOf_alike al K.2.1, K.2.2, by omega⟩, hty⟩
  have hS : StaticIs P.U ST "COMPACT_STRINGS" "Z" (.int z) := by
    obtain ⟨cfS, iS, kS, fS, st, cS, t1, t2, t3, t4, t5, t6, t7⟩ := S
    exact StaticIs.there (s := { Z with heap := P.U.heap }) ⟨cfS, iS, kS, fS, st, cS, t1, t2, t3, t4, t5, (fun q => by rw [q] at t6; cases t6), t7⟩ al rfl
  obtain ⟨v, B, X', ⟨⟨hv, E', V', q1, q2, q3, q4, q5, q6, q7, q8, q9, q10, q11⟩, hl, hc, hs⟩, st⟩ := New1.pays x D fV fC b A z (tab_of (moved hZ hw)) hfr hlo m meth c P g ig mk _ X hg hsize hdg hW hn ⟨r1, r2, rfl, hB, F1, F2, hA, hS, hz, l0, l2, hp⟩
  have al' : Z.vm.Alike B.U.vm := hZ.alike.trans X'.warmed.alike
  have hsz : E'.slots.size = D.slots.size := by
    obtain ⟨-, -, -, kB, w1, w2, w3⟩ := q1
    obtain ⟨kB', y1, y2⟩ := al'.2.2 _ _ e3
    rw [q2.2.1] at w1
    cases w1.symm.trans y1
    rw [w3, e5 i3, y2]
  refine ⟨v, B, X', ⟨_, ⟨hv, ?_, ⟨by omega, fun y cy hy hn' => q10 y cy (by simpa using hn') hy, fun y cy hy => ?_⟩, q11, ⟨E', _, q1.1, by rw [q2.2.1]; exact e2, by rw [q2.2.1]; exact e3, by rw [q2.1]; exact obV, fun _ => by rw [hsz]; exact e5 i3⟩,
    ⟨E', cfV, kV, iV, fV, q1.1, gV, stV, by rw [q2.1]; exact knV, by rw [q2.1]; exact obV, by rw [q2.2.1]; exact asV, q3⟩, ⟨E', cfC, kC, iC, fC, q1.1, gC, stC, by rw [q2.1]; exact knV, by rw [q2.1]; exact obV, by rw [q2.2.1]; exact asC, q4⟩,
    ⟨V', ⟨q5.1, State.isArrayOf_alike al'.symm q5.2.1, q5.2.2.1⟩, q6, by rw [← al'.findClass]; exact q7, q8, fun j hj => by have := q9 j hj; rwa [Nat.zero_add] at this⟩, fun O n d w F n1 n2 => ?_⟩, hl, hc, hs⟩, st⟩
  · intro y hy
    simp only [List.mem_cons, List.not_mem_nil, or_false] at hy
    rcases hy with rfl | rfl <;> rfl
  · by_cases q : y = x
    · subst q
      cases hD.symm.trans hy
      exact ⟨E', q1.1, q2.2.1, q2.1, hsz⟩
    · exact ⟨cy, q10 y cy q hy, rfl, rfl, rfl⟩
  · obtain ⟨D3, cf, k, i, f, g1, g2, g3, g4, g5, g6, g7⟩ := F
    cases hD.symm.trans g1
    simp only [RoadKit.slotOf, g2, gV, gC, Option.map_some, Option.getD_some] at n1 n2
    exact ⟨E', cf, k, i, f, q1.1, g2, g3, by rw [q2.1]; exact g4, by rw [q2.1]; exact g5, by rw [q2.2.1]; exact g6, by rw [q2.2.2 f.slot (by simp [n1, n2])]; exact g7⟩
end StrChars.Road
namespace StrChars.Road
open Jvm Sem ClassFile Op Lib Jvm.Stand Jvm.Free Jvm.Free.XT
/-- WHAT COMES BACK, the byte[] as a list of values -/
def QA (Z : State) (x : Addr) (zn : Int32) (cs : List Int32) (h : Heap) (v : Option Value) (h' : Heap) (L : List Loc) : Prop := v = none ∧ (∀ y ∈ L, y.base = x) ∧ RoadKit.Keep h h' [x] ∧ h'.size = h.size + 1 ∧ RoadKit.Exa Z h' x ST ∧ RoadKit.Fld Z h' x ST "value" "[B" (.ref h.size) ∧ RoadKit.Fld Z h' x ST "coder" "B" (.int 0) ∧
  (∃ kb, Z.vm.findClass "[B" = some kb ∧ RoadKit.Arv Z h' h.size kb .byte zn (cs.map fun c => .int (lo8 c)) (.int 0)) ∧
  ∀ (O n d : String) (w : Value), RoadKit.Fld Z h x O n d w → RoadKit.slotOf Z O n d ≠ RoadKit.slotOf Z ST "value" "[B" → RoadKit.slotOf Z O n d ≠ RoadKit.slotOf Z ST "coder" "B" → RoadKit.Fld Z h' x O n d w
/-- **new String(chars) AT A CALL, THE ARRAYS AS LISTS**: the char[] at b holds cs, not empty, no char above 255 -/
theorem backArv {p : Program} {l : Launch} {e : Env} {R : Room} {s : State} {args : Array Value} {below : List Frame} {len W : Nat} {Z : State} {a0 : Array Value} {h : Heap} (hZ : Z.Warmed39 s.vm) (hw : ∀ d ∈ words, d.before a0 Z = true) {kI : Nat} (wi : (Jvm.Cond.instantiable ST kI).before a0 Z = true)
    {x b : Addr} {k : ClassId} {zn z : Int32} {cs : List Int32} {dv v0 c0 : Value} (E : RoadKit.Exa Z h x ST) (V : RoadKit.Fld Z h x ST "value" "[B" v0) (C : RoadKit.Fld Z h x ST "coder" "B" c0) (K : RoadKit.Arv Z h b k .char zn (cs.map Value.int) dv) (S : RoadKit.Sta Z h ST "COMPACT_STRINGS" "Z" (.int z)) (hz : ¬ z = 0)
    (hlen : zn.toNatClampNeg = cs.length) (h0 : 0 < cs.length) (hbig : cs.length ≤ 536870912) (hall : ∀ c ∈ cs, ¬ 255 < c) (hfr : 4 ≤ R.frames) (hlo : W + 65 ≤ R.locals) :
    Back l R p e below s args New1.yN len W (fun P a => a = #[.ref x, .ref b] ∧ P.U.heap = h ∧ P.cells + 1 ≤ R.cells ∧ P.slots + cs.length ≤ R.slots)
      (fun P _ v B => ∃ L, QA Z x zn cs h v B.U.heap L ∧ B.locs = P.locs ++ L ∧ B.cells = P.cells + 1 ∧ B.slots = P.slots + cs.length) := by
  obtain ⟨A, K1, K2, K3, K4, K5, K6⟩ := K
  have e : A.slots.size = cs.length := K3.trans hlen
  have hat : ∀ (i : Nat) (hi : i < cs.length), A.slots[i]? = some (.int cs[i]) := fun i hi => by rw [K5 i (by omega)]; simp [List.getD_eq_getElem?_getD, hi]
  have hcv : ∀ (i : Nat) (hi : i < cs.length), cv A i = cs[i] := fun i hi => by unfold cv; rw [hat i hi]
  have hty : Typed .char A := fun i v hv => by
    have hi : i < A.slots.size := (Array.getElem?_eq_some_iff.mp hv).1
    have q := K5 i hi
    rw [hv] at q
    rw [Option.some.inj q]
    exact K6 i hi
  refine Back.mono (back hZ hw wi E V C K1 hty S hz (by omega) (by omega) (fun i hi => by rw [hcv i (by omega)]; exact hall _ (List.getElem_mem _)) hfr hlo) (fun P a hp => ⟨hp.1, hp.2.1, hp.2.2.1, by rw [e]; exact hp.2.2.2⟩) (fun P a v B hp hq => ?_)
  obtain ⟨L, ⟨q1, q2, q3, q4, q5, q6, q7, ⟨V', v1, v2, v3, v4, v5⟩, q9⟩, hl, hc, hs⟩ := hq
  refine ⟨L, ⟨q1, q2, q3, q4, q5, q6, q7, ⟨V'.cls, v3, V', v1, rfl, by rw [v4, e, hlen], K4, fun i hi => ?_, fun i hi => ?_⟩, q9⟩, hl, hc, by rw [hs, e]⟩
  · have hi' : i < cs.length := by omega
    rw [v5 i (by omega), hcv i hi']; simp [List.getD_eq_getElem?_getD, hi']
  · have hi' : i < cs.length := by omega
    simp only [List.getD_eq_getElem?_getD, List.getElem?_map, List.getElem?_eq_getElem hi', Option.map_some, Option.getD_some]
    exact fits_lo8 _
end StrChars.Road
namespace StrChars.Road
open Jvm Sem ClassFile Op Lib Jvm.Stand Jvm.Free Jvm.Free.XT
/-- WHAT COMES BACK, in the writer's own shape -/
def QV (Z : State) (x : Addr) (N : Int32) (bs : List Int32) (h : Heap) (n0 : Nat) (v : Option Value) (h' : Heap) (L : List Loc) : Prop := v = none ∧ RoadKit.Fr n0 L ∧ RoadKit.Keep h h' [x] ∧ RoadKit.Exa Z h' x ST ∧ RoadKit.Fld Z h' x ST "coder" "B" (.int 0) ∧
  ∃ (t : Addr) (kb : ClassId), n0 ≤ t ∧ h.size ≤ t ∧ ¬ t = x ∧ RoadKit.Fld Z h' x ST "value" "[B" (.ref t) ∧ RoadKit.Arv Z h' t kb .byte N (bs.map Value.int) (.int 0)
/-- **new String(chars) AT A CALL, FOR THE WRITER**: a char[] of n known ints, each 0 to 255 -/
theorem backV {p : Program} {l : Launch} {e : Env} {R : Room} {s : State} {args : Array Value} {below : List Frame} {len W : Nat} {Z : State} {a0 : Array Value} {h : Heap} (hZ : Z.Warmed39 s.vm) (hw : ∀ d ∈ words, d.before a0 Z = true) {kI : Nat} (wi : (Jvm.Cond.instantiable ST kI).before a0 Z = true)
    {x b : Addr} {kC : ClassId} {cs bs : List Int32} {d v0 c0 : Value} {z N : Int32} {n n0 : Nat} (hx0 : n0 ≤ x) (hh0 : n0 ≤ h.size) (E : RoadKit.Exa Z h x ST) (V : RoadKit.Fld Z h x ST "value" "[B" v0) (C : RoadKit.Fld Z h x ST "coder" "B" c0) (K : RoadKit.Arv Z h b kC .char N (cs.map Value.int) d) (S : RoadKit.Sta Z h ST "COMPACT_STRINGS" "Z" (.int z)) (hz : ¬ z = 0)
    (hn : cs.length = n) (hN : N = Int32.ofNat n) (l0 : 0 < n) (l2 : n ≤ 4000) (hp : ∀ c ∈ cs, ¬ c < 0 ∧ ¬ (255 : Int32) < c) (hb : bs = cs.map (fun c => c.toInt8.toInt32)) (hfr : 4 ≤ R.frames) (hlo : W + 65 ≤ R.locals) :
    Back l R p e below s args (⟨"java/lang/String", "<init>", "([C)V"⟩ : MethodName) len W (fun P a => a = #[.ref x, .ref b] ∧ P.U.heap = h ∧ P.cells + 1 ≤ R.cells ∧ P.slots + n ≤ R.slots)
      (fun P _ v B => ∃ L, QV Z x N bs h n0 v B.U.heap L ∧ B.locs = P.locs ++ L ∧ B.cells = P.cells + 1 ∧ B.slots = P.slots + n) := by
  subst hn hN hb
  refine Back.mono (backArv hZ hw wi E V C K S hz (n32 (by omega)) l0 (by omega) (fun c hc => (hp c hc).2) hfr hlo) (fun P a hp => hp) (fun P a v B hp hq => ?_)
  obtain ⟨L, ⟨q1, q2, q3, q4, q5, q6, q7, ⟨kb, v1, v2⟩, q9⟩, hl, hc, hs⟩ := hq
  exact ⟨L, ⟨q1, fun y hy => by rw [q2 y hy]; exact hx0, q3, q5, q7, h.size, kb, hh0, Nat.le_refl _, Nat.ne_of_gt E.lt, q6, by rw [List.map_map]; exact v2⟩, hl, hc, hs⟩
end StrChars.Road
end Jvm.Pilot.@@N@@
namespace Jvm.Pilot.@@N@@
open Jvm Jvm.ClassFile Sem Op Lib Jvm.Free Jvm.Stand Jvm.LawKit Jvm.RoadKit Bundle Jvm.Pilot.@@N@@.Jvm.D
/-- the road from here on ends, and G holds of its end -/
def Go (p : Program) (e : Env) (below : List Frame) (G : Outcome → State → Prop) (T : State) (g : JFrame) : Prop :=
  ∃ U o, Steps p.tables e below (T.setTop g) U ∧ U.status = .running ∧ Ended U below o ∧ G o U
/-- what a body leaves: it returned v, Q holds, the frame is kept -/
def Out (s : State) (Q : Option Value → Heap → List Loc → Prop) (C S : Nat) (o : Outcome) (U : State) : Prop :=
  ∃ v L, o = .returned v ∧ Q v U.heap L ∧ FrameEnd s o U L C S
section GoLaws
variable {p : Program} {l : Launch} {e : Env} {R : Room} {s : State} {m : MethodId} {args : Array Value} {below : List Frame} {meth : Method} {c : Code} {T T' : State} {locs : List Loc} {cells slots : Nat} {g g' : JFrame} {G : Outcome → State → Prop} {Q : Option Value → Heap → List Loc → Prop} {C S : Nat}
theorem Go.by (st : ∀ t, Steps p.tables e below (T'.setTop g') t → Steps p.tables e below (T.setTop g) t) (k : Go p e below G T' g') : Go p e below G T g := by
  obtain ⟨U, o, h, r⟩ := k
  exact ⟨U, o, st _ h, r⟩
theorem Go.tr (st : Steps p.tables e below (T.setTop g) (T'.setTop g')) (k : Go p e below G T' g') : Go p e below G T g := by
  obtain ⟨U, o, h, r⟩ := k
  exact ⟨U, o, st.trans h, r⟩
theorem Go.cast (q : g = g') (k : Go p e below G T g') : Go p e below G T g := by subst q; exact k
theorem Go.ends (X : Stand p l e R s m args below meth c T locs cells slots) {v : Option Value} (hlk : meth.locks = false) (hv : meth.sig.returnType = none → v = none)
    (st : ∀ fs, (∀ (f : JFrame) (acts : List Action), f.method = m → f.locked = none → f.entered = [] → (doReturn e (T.setTop f) acts v).1 = T.setFrames fs) → Steps p.tables e below (T.setTop g) (T.setFrames fs))
    (hQ : Q v T.heap locs) (hc : cells ≤ C) (hs : slots ≤ S) : Go p e below (Out s Q C S) T g := by
  obtain ⟨fs, hr, hrun, hended, hW, hsame⟩ := X.leave (v := v) hv hlk
  exact ⟨_, _, st fs hr, hrun, hended, _, _, rfl, hQ, ⟨_, rfl⟩, hW, hsame.mono hc hs⟩
theorem Go.ret0 (X : Stand p l e R s m args below meth c T locs cells slots) (hx : p.tables.exec = Jvm.exec) (hret : meth.sig.returnType = none) (hlk : meth.locks = false) {pc : Nat} {Ls : Array Slot} (hd : decode c.code pc = .ok (.return_, 1))
    (hQ : Q none T.heap locs) (hc : cells ≤ C) (hs : slots ≤ S) : Go p e below (Out s Q C S) T (mkF m pc Ls []) :=
  Go.ends X hlk (fun _ => rfl) (fun fs hr => X.returnOut hx hret hd hr) hQ hc hs
theorem Go.retN (X : Stand p l e R s m args below meth c T locs cells slots) (hx : p.tables.exec = Jvm.exec) {t : FieldType} (hret : meth.sig.returnType = some t) (ht : t = .boolean ∨ t = .byte ∨ t = .char ∨ t = .short) (hlk : meth.locks = false) {pc : Nat} {Ls : Array Slot} {z : Int32} {rest : List Value} (hd : decode c.code pc = .ok (.ireturn, 1))
    (hQ : Q (some (.int (nar t z))) T.heap locs) (hc : cells ≤ C) (hs : slots ≤ S) : Go p e below (Out s Q C S) T (mkF m pc Ls (.int z :: rest)) :=
  Go.ends X hlk (fun h => by rw [hret] at h; cases h) (fun fs hr => RoadKit.retN X hx hret ht hd hr) hQ hc hs
theorem Go.retI (X : Stand p l e R s m args below meth c T locs cells slots) (hx : p.tables.exec = Jvm.exec) (hret : meth.sig.returnType = some .int) (hlk : meth.locks = false) {pc : Nat} {Ls : Array Slot} {z : Int32} {rest : List Value} (hd : decode c.code pc = .ok (.ireturn, 1))
    (hQ : Q (some (.int z)) T.heap locs) (hc : cells ≤ C) (hs : slots ≤ S) : Go p e below (Out s Q C S) T (mkF m pc Ls (.int z :: rest)) :=
  Go.ends X hlk (fun h => by rw [hret] at h; cases h) (fun fs hr => retOut X hx hret rfl (Or.inl ⟨rfl, Or.inl rfl, z, rfl⟩) hd hr) hQ hc hs
theorem Go.retR (X : Stand p l e R s m args below meth c T locs cells slots) (hx : p.tables.exec = Jvm.exec) {t : FieldType} {w : Value} (hret : meth.sig.returnType = some t) (hn : narrow t w = w) (ht : t.isReference = true) (hw : w.isRef = true) (hlk : meth.locks = false) {pc : Nat} {Ls : Array Slot} {rest : List Value} (hd : decode c.code pc = .ok (.areturn, 1))
    (hQ : Q (some w) T.heap locs) (hc : cells ≤ C) (hs : slots ≤ S) : Go p e below (Out s Q C S) T (mkF m pc Ls (w :: rest)) :=
  Go.ends X hlk (fun h => by rw [hret] at h; cases h) (fun fs hr => retOut X hx hret hn (Or.inr (Or.inr (Or.inr (Or.inr ⟨rfl, ht, hw⟩)))) hd hr) hQ hc hs
theorem Stand_grow {cells' slots' : Nat} (X : Stand p l e R s m args below meth c T locs cells slots) (hc : cells ≤ cells') (hs : slots ≤ slots') : Stand p l e R s m args below meth c T locs cells' slots' :=
  { X with same := X.same.mono hc hs }
end GoLaws
theorem ne_arv {Z : State} {h : Heap} {a b : Addr} {C : String} {a0 : Array Value} {k : Nat} {kc : ClassId} {ty : FieldType} {z : Int32} {vs : List Value} {dv : Value} (F : Exa Z h a C) (wi : (Jvm.Cond.instantiable C k).before a0 Z = true) (G : Arv Z h b kc ty z vs dv) : a ≠ b := by
  obtain ⟨c, A, -⟩ := G
  exact ne_arr F wi A
/-- what a body leaves that may load String constants -/
def OutW (Z : State) (EL : List (String × Nat)) (s : State) (Q : Option Value → Heap → List Loc → Prop) (C S : Nat) (o : Outcome) (U : State) : Prop :=
  ∃ v L, o = .returned v ∧ Q v U.heap L ∧ CHr Z EL s.vm s.heap U.vm U.heap ∧ ReturnedEndW s o U L C S
section GoWide
variable {p : Program} {l : Launch} {e : Env} {R : Room} {s Z : State} {m : MethodId} {args a0 : Array Value} {below : List Frame} {meth : Method} {c : Code} {T : State} {locs : List Loc} {cells slots : Nat} {g : JFrame} {Q : Option Value → Heap → List Loc → Prop} {C S k0 : Nat} {vm0 : Vm} {EL : List (String × Nat)}
theorem Go.endsW (X : Stand p l e R (s.setVm vm0) m args below meth c T locs cells slots) {v : Option Value} (hlk : meth.locks = false) (hv : meth.sig.returnType = none → v = none)
    (st : ∀ fs, (∀ (f : JFrame) (acts : List Action), f.method = m → f.locked = none → f.entered = [] → (doReturn e (T.setTop f) acts v).1 = T.setFrames fs) → Steps p.tables e below (T.setTop g) (T.setFrames fs))
    (hS : s.Since vm0 k0) (hk : k0 ≤ T.heap.size) (hZ : Z.Warmed39 vm0) (hEL : EW Z a0 EL) (hC : CHr Z EL s.vm s.heap vm0 T.heap) (hQ : Q v T.heap locs) (hc : cells ≤ C) (hs : slots ≤ S) : Go p e below (OutW Z EL s Q C S) T g := by
  obtain ⟨fs, hr, hrun, hended, hW⟩ := X.leaveW hS hk (v := v) hv hlk
  exact ⟨_, _, st fs hr, hrun, hended, _, _, rfl, hQ, hC.trans (show CHr Z EL vm0 T.heap T.vm T.heap from CHv.at X hZ hEL hC.1), hW.1, hW.2.1, hW.2.2.1, hW.2.2.2.mono hc hs⟩
theorem Go.ret0W (X : Stand p l e R (s.setVm vm0) m args below meth c T locs cells slots) (hx : p.tables.exec = Jvm.exec) (hret : meth.sig.returnType = none) (hlk : meth.locks = false) {pc : Nat} {Ls : Array Slot} (hd : decode c.code pc = .ok (.return_, 1))
    (hS : s.Since vm0 k0) (hk : k0 ≤ T.heap.size) (hZ : Z.Warmed39 vm0) (hEL : EW Z a0 EL) (hC : CHr Z EL s.vm s.heap vm0 T.heap) (hQ : Q none T.heap locs) (hc : cells ≤ C) (hs : slots ≤ S) : Go p e below (OutW Z EL s Q C S) T (mkF m pc Ls []) :=
  Go.endsW X hlk (fun _ => rfl) (fun fs hr => X.returnOut hx hret hd hr) hS hk hZ hEL hC hQ hc hs
theorem Go.retNW (X : Stand p l e R (s.setVm vm0) m args below meth c T locs cells slots) (hx : p.tables.exec = Jvm.exec) {t : FieldType} (hret : meth.sig.returnType = some t) (ht : t = .boolean ∨ t = .byte ∨ t = .char ∨ t = .short) (hlk : meth.locks = false) {pc : Nat} {Ls : Array Slot} {z : Int32} {rest : List Value} (hd : decode c.code pc = .ok (.ireturn, 1))
    (hS : s.Since vm0 k0) (hk : k0 ≤ T.heap.size) (hZ : Z.Warmed39 vm0) (hEL : EW Z a0 EL) (hC : CHr Z EL s.vm s.heap vm0 T.heap) (hQ : Q (some (.int (nar t z))) T.heap locs) (hc : cells ≤ C) (hs : slots ≤ S) : Go p e below (OutW Z EL s Q C S) T (mkF m pc Ls (.int z :: rest)) :=
  Go.endsW X hlk (fun h => by rw [hret] at h; cases h) (fun fs hr => RoadKit.retN X hx hret ht hd hr) hS hk hZ hEL hC hQ hc hs
theorem safe_arv {vm : Vm} {h : Heap} {x : Addr} {kc : ClassId} {ty : FieldType} {z : Int32} {vs : List Value} {dv : Value} (hal : Z.vm.Alike vm) (G : Arv Z h x kc ty z vs dv) (ht : ty ≠ .byte) : Safe Z EL vm h x := by
  obtain ⟨c, A, -⟩ := G
  exact Safe.arr hal A ht
end GoWide
abbrev QT := Option Value → Heap → List Loc → Prop
abbrev De (code : ByteArray) (pc n pc' : Nat) (i : Instr) : Prop := decode code pc = .ok (i, n) ∧ pc + n = pc'
abbrev Dj (code : ByteArray) (pc pc' : Nat) (i : Instr) (o : Int) : Prop := decode code pc = .ok (i, 3) ∧ 0 ≤ (pc : Int) + o ∧ ((pc : Int) + o).toNat = pc'
abbrev HB (p : Program) (c : Code) (code : ByteArray) : Prop := p.tables.exec = Jvm.exec ∧ c.code = code
def pl (o : Slot) (v : Value) : Bool := decide (v.category = 1) && (match o with | .unset => true | .val w => decide (w.category = 1) | .second => false)
theorem sl {l l' : List Slot} {k : Nat} {o : Slot} {v : Value} (h : l[k]? = some o) (q : l.set k (.val v) = l') (hp : pl o v = true) : storeLocals l.toArray k v = some l'.toArray := by
  simp only [pl, Bool.and_eq_true, decide_eq_true_eq] at hp
  rw [XS.store1 (o := o) (by simpa using h) (by
    obtain ⟨-, hp⟩ := hp
    cases o with
    | unset => exact Or.inl rfl
    | val w => exact Or.inr ⟨w, rfl, by simpa using hp⟩
    | second => simp at hp) hp.1, ← q]
  simp
theorem s1 {a0 o : Slot} {l : List Slot} {v : Value} (h : pl o v = true) : storeLocals (a0 :: o :: l).toArray 1 v = some (a0 :: .val v :: l).toArray := sl (o := o) rfl rfl h
theorem s2 {a0 a1 o : Slot} {l : List Slot} {v : Value} (h : pl o v = true) : storeLocals (a0 :: a1 :: o :: l).toArray 2 v = some (a0 :: a1 :: .val v :: l).toArray := sl (o := o) rfl rfl h
theorem s3 {a0 a1 a2 o : Slot} {l : List Slot} {v : Value} (h : pl o v = true) : storeLocals (a0 :: a1 :: a2 :: o :: l).toArray 3 v = some (a0 :: a1 :: a2 :: .val v :: l).toArray := sl (o := o) rfl rfl h
theorem s4 {a0 a1 a2 a3 o : Slot} {l : List Slot} {v : Value} (h : pl o v = true) : storeLocals (a0 :: a1 :: a2 :: a3 :: o :: l).toArray 4 v = some (a0 :: a1 :: a2 :: a3 :: .val v :: l).toArray := sl (o := o) rfl rfl h
theorem s5 {a0 a1 a2 a3 a4 o : Slot} {l : List Slot} {v : Value} (h : pl o v = true) : storeLocals (a0 :: a1 :: a2 :: a3 :: a4 :: o :: l).toArray 5 v = some (a0 :: a1 :: a2 :: a3 :: a4 :: .val v :: l).toArray := sl (o := o) rfl rfl h
theorem s6 {a0 a1 a2 a3 a4 a5 o : Slot} {l : List Slot} {v : Value} (h : pl o v = true) : storeLocals (a0 :: a1 :: a2 :: a3 :: a4 :: a5 :: o :: l).toArray 6 v = some (a0 :: a1 :: a2 :: a3 :: a4 :: a5 :: .val v :: l).toArray := sl (o := o) rfl rfl h
theorem s7 {a0 a1 a2 a3 a4 a5 a6 o : Slot} {l : List Slot} {v : Value} (h : pl o v = true) : storeLocals (a0 :: a1 :: a2 :: a3 :: a4 :: a5 :: a6 :: o :: l).toArray 7 v = some (a0 :: a1 :: a2 :: a3 :: a4 :: a5 :: a6 :: .val v :: l).toArray := sl (o := o) rfl rfl h
theorem s8 {a0 a1 a2 a3 a4 a5 a6 a7 o : Slot} {l : List Slot} {v : Value} (h : pl o v = true) : storeLocals (a0 :: a1 :: a2 :: a3 :: a4 :: a5 :: a6 :: a7 :: o :: l).toArray 8 v = some (a0 :: a1 :: a2 :: a3 :: a4 :: a5 :: a6 :: a7 :: .val v :: l).toArray := sl (o := o) rfl rfl h
theorem s9 {a0 a1 a2 a3 a4 a5 a6 a7 a8 o : Slot} {l : List Slot} {v : Value} (h : pl o v = true) : storeLocals (a0 :: a1 :: a2 :: a3 :: a4 :: a5 :: a6 :: a7 :: a8 :: o :: l).toArray 9 v = some (a0 :: a1 :: a2 :: a3 :: a4 :: a5 :: a6 :: a7 :: a8 :: .val v :: l).toArray := sl (o := o) rfl rfl h
theorem s10 {a0 a1 a2 a3 a4 a5 a6 a7 a8 a9 o : Slot} {l : List Slot} {v : Value} (h : pl o v = true) : storeLocals (a0 :: a1 :: a2 :: a3 :: a4 :: a5 :: a6 :: a7 :: a8 :: a9 :: o :: l).toArray 10 v = some (a0 :: a1 :: a2 :: a3 :: a4 :: a5 :: a6 :: a7 :: a8 :: a9 :: .val v :: l).toArray := sl (o := o) rfl rfl h
theorem s11 {a0 a1 a2 a3 a4 a5 a6 a7 a8 a9 a10 o : Slot} {l : List Slot} {v : Value} (h : pl o v = true) : storeLocals (a0 :: a1 :: a2 :: a3 :: a4 :: a5 :: a6 :: a7 :: a8 :: a9 :: a10 :: o :: l).toArray 11 v = some (a0 :: a1 :: a2 :: a3 :: a4 :: a5 :: a6 :: a7 :: a8 :: a9 :: a10 :: .val v :: l).toArray := sl (o := o) rfl rfl h
theorem s12 {a0 a1 a2 a3 a4 a5 a6 a7 a8 a9 a10 a11 o : Slot} {l : List Slot} {v : Value} (h : pl o v = true) : storeLocals (a0 :: a1 :: a2 :: a3 :: a4 :: a5 :: a6 :: a7 :: a8 :: a9 :: a10 :: a11 :: o :: l).toArray 12 v = some (a0 :: a1 :: a2 :: a3 :: a4 :: a5 :: a6 :: a7 :: a8 :: a9 :: a10 :: a11 :: .val v :: l).toArray := sl (o := o) rfl rfl h
theorem s13 {a0 a1 a2 a3 a4 a5 a6 a7 a8 a9 a10 a11 a12 o : Slot} {l : List Slot} {v : Value} (h : pl o v = true) : storeLocals (a0 :: a1 :: a2 :: a3 :: a4 :: a5 :: a6 :: a7 :: a8 :: a9 :: a10 :: a11 :: a12 :: o :: l).toArray 13 v = some (a0 :: a1 :: a2 :: a3 :: a4 :: a5 :: a6 :: a7 :: a8 :: a9 :: a10 :: a11 :: a12 :: .val v :: l).toArray := sl (o := o) rfl rfl h
theorem s14 {a0 a1 a2 a3 a4 a5 a6 a7 a8 a9 a10 a11 a12 a13 o : Slot} {l : List Slot} {v : Value} (h : pl o v = true) : storeLocals (a0 :: a1 :: a2 :: a3 :: a4 :: a5 :: a6 :: a7 :: a8 :: a9 :: a10 :: a11 :: a12 :: a13 :: o :: l).toArray 14 v = some (a0 :: a1 :: a2 :: a3 :: a4 :: a5 :: a6 :: a7 :: a8 :: a9 :: a10 :: a11 :: a12 :: a13 :: .val v :: l).toArray := sl (o := o) rfl rfl h
theorem s15 {a0 a1 a2 a3 a4 a5 a6 a7 a8 a9 a10 a11 a12 a13 a14 o : Slot} {l : List Slot} {v : Value} (h : pl o v = true) : storeLocals (a0 :: a1 :: a2 :: a3 :: a4 :: a5 :: a6 :: a7 :: a8 :: a9 :: a10 :: a11 :: a12 :: a13 :: a14 :: o :: l).toArray 15 v = some (a0 :: a1 :: a2 :: a3 :: a4 :: a5 :: a6 :: a7 :: a8 :: a9 :: a10 :: a11 :: a12 :: a13 :: a14 :: .val v :: l).toArray := sl (o := o) rfl rfl h
theorem s16 {a0 a1 a2 a3 a4 a5 a6 a7 a8 a9 a10 a11 a12 a13 a14 a15 o : Slot} {l : List Slot} {v : Value} (h : pl o v = true) : storeLocals (a0 :: a1 :: a2 :: a3 :: a4 :: a5 :: a6 :: a7 :: a8 :: a9 :: a10 :: a11 :: a12 :: a13 :: a14 :: a15 :: o :: l).toArray 16 v = some (a0 :: a1 :: a2 :: a3 :: a4 :: a5 :: a6 :: a7 :: a8 :: a9 :: a10 :: a11 :: a12 :: a13 :: a14 :: a15 :: .val v :: l).toArray := sl (o := o) rfl rfl h
theorem s17 {a0 a1 a2 a3 a4 a5 a6 a7 a8 a9 a10 a11 a12 a13 a14 a15 a16 o : Slot} {l : List Slot} {v : Value} (h : pl o v = true) : storeLocals (a0 :: a1 :: a2 :: a3 :: a4 :: a5 :: a6 :: a7 :: a8 :: a9 :: a10 :: a11 :: a12 :: a13 :: a14 :: a15 :: a16 :: o :: l).toArray 17 v = some (a0 :: a1 :: a2 :: a3 :: a4 :: a5 :: a6 :: a7 :: a8 :: a9 :: a10 :: a11 :: a12 :: a13 :: a14 :: a15 :: a16 :: .val v :: l).toArray := sl (o := o) rfl rfl h
theorem s18 {a0 a1 a2 a3 a4 a5 a6 a7 a8 a9 a10 a11 a12 a13 a14 a15 a16 a17 o : Slot} {l : List Slot} {v : Value} (h : pl o v = true) : storeLocals (a0 :: a1 :: a2 :: a3 :: a4 :: a5 :: a6 :: a7 :: a8 :: a9 :: a10 :: a11 :: a12 :: a13 :: a14 :: a15 :: a16 :: a17 :: o :: l).toArray 18 v = some (a0 :: a1 :: a2 :: a3 :: a4 :: a5 :: a6 :: a7 :: a8 :: a9 :: a10 :: a11 :: a12 :: a13 :: a14 :: a15 :: a16 :: a17 :: .val v :: l).toArray := sl (o := o) rfl rfl h
theorem s19 {a0 a1 a2 a3 a4 a5 a6 a7 a8 a9 a10 a11 a12 a13 a14 a15 a16 a17 a18 o : Slot} {l : List Slot} {v : Value} (h : pl o v = true) : storeLocals (a0 :: a1 :: a2 :: a3 :: a4 :: a5 :: a6 :: a7 :: a8 :: a9 :: a10 :: a11 :: a12 :: a13 :: a14 :: a15 :: a16 :: a17 :: a18 :: o :: l).toArray 19 v = some (a0 :: a1 :: a2 :: a3 :: a4 :: a5 :: a6 :: a7 :: a8 :: a9 :: a10 :: a11 :: a12 :: a13 :: a14 :: a15 :: a16 :: a17 :: a18 :: .val v :: l).toArray := sl (o := o) rfl rfl h
section Z
variable {p : Program} {l : Launch} {e : Env} {R : Room} {s : State} {m : MethodId} {args : Array Value} {below : List Frame} {meth : Method} {c : Code} {T : State} {locs : List Loc} {cells slots : Nat} {G : Outcome → State → Prop} {code : ByteArray} {pc pc' : Nat} {ls ls' : Array Slot} {st : List Value}
theorem zil (X : Stand p l e R s m args below meth c T locs cells slots) (B : HB p c code) {k : Nat} {v : Int32} (d : De code pc 2 pc' (.iload k)) (h : ls[k]? = some (.val (.int v))) (K : Go p e below G T (mkF m pc' ls (.int v :: st))) : Go p e below G T (mkF m pc ls (st)) := by
  obtain ⟨x, rfl⟩ := B; obtain ⟨d, rfl⟩ := d
  exact Go.by (fun _ k => XS.iload X.here x rfl d h k) K
theorem zal (X : Stand p l e R s m args below meth c T locs cells slots) (B : HB p c code) {k : Nat} {v : Addr} (d : De code pc 2 pc' (.aload k)) (h : ls[k]? = some (.val (.ref v))) (K : Go p e below G T (mkF m pc' ls (.ref v :: st))) : Go p e below G T (mkF m pc ls (st)) := by
  obtain ⟨x, rfl⟩ := B; obtain ⟨d, rfl⟩ := d
  exact Go.by (fun _ k => XS.aload X.here x rfl d h rfl k) K
theorem zis (X : Stand p l e R s m args below meth c T locs cells slots) (B : HB p c code) {k : Nat} {v : Int32} (d : De code pc 2 pc' (.istore k)) (h : storeLocals ls k (.int v) = some ls') (K : Go p e below G T (mkF m pc' ls' (st))) : Go p e below G T (mkF m pc ls (.int v :: st)) := by
  obtain ⟨x, rfl⟩ := B; obtain ⟨d, rfl⟩ := d
  exact Go.by (fun _ k => XS.istore X.here x rfl d rfl h k) K
theorem zas (X : Stand p l e R s m args below meth c T locs cells slots) (B : HB p c code) {k : Nat} {v : Value} (d : De code pc 2 pc' (.astore k)) (h : storeLocals ls k v = some ls') (hr : v.isRef = true) (K : Go p e below G T (mkF m pc' ls' (st))) : Go p e below G T (mkF m pc ls (v :: st)) := by
  obtain ⟨x, rfl⟩ := B; obtain ⟨d, rfl⟩ := d
  exact Go.by (fun _ k => XS.astore X.here x rfl d rfl hr h k) K
theorem zilN (X : Stand p l e R s m args below meth c T locs cells slots) (B : HB p c code) {k : Fin 4} {v : Int32} (d : De code pc 1 pc' (.iload_n k)) (h : ls[k.val]? = some (.val (.int v))) (K : Go p e below G T (mkF m pc' ls (.int v :: st))) : Go p e below G T (mkF m pc ls (st)) := by
  obtain ⟨x, rfl⟩ := B; obtain ⟨d, rfl⟩ := d
  exact Go.by (fun _ k => XS.iloadN X.here x rfl d h k) K
theorem zalN (X : Stand p l e R s m args below meth c T locs cells slots) (B : HB p c code) {k : Fin 4} {v : Addr} (d : De code pc 1 pc' (.aload_n k)) (h : ls[k.val]? = some (.val (.ref v))) (K : Go p e below G T (mkF m pc' ls (.ref v :: st))) : Go p e below G T (mkF m pc ls (st)) := by
  obtain ⟨x, rfl⟩ := B; obtain ⟨d, rfl⟩ := d
  exact Go.by (fun _ k => XS.aloadN X.here x rfl d h rfl k) K
theorem zllN (X : Stand p l e R s m args below meth c T locs cells slots) (B : HB p c code) {k : Fin 4} {v : Int64} (d : De code pc 1 pc' (.lload_n k)) (h : ls[k.val]? = some (.val (.long v))) (K : Go p e below G T (mkF m pc' ls (.long v :: st))) : Go p e below G T (mkF m pc ls (st)) := by
  obtain ⟨x, rfl⟩ := B; obtain ⟨d, rfl⟩ := d
  exact Go.by (fun _ k => XS.lloadN X.here x rfl d h k) K
theorem zisN (X : Stand p l e R s m args below meth c T locs cells slots) (B : HB p c code) {k : Fin 4} {v : Int32} (d : De code pc 1 pc' (.istore_n k)) (h : storeLocals ls k.val (.int v) = some ls') (K : Go p e below G T (mkF m pc' ls' (st))) : Go p e below G T (mkF m pc ls (.int v :: st)) := by
  obtain ⟨x, rfl⟩ := B; obtain ⟨d, rfl⟩ := d
  exact Go.by (fun _ k => XS.istoreN X.here x rfl d rfl h k) K
theorem zasN (X : Stand p l e R s m args below meth c T locs cells slots) (B : HB p c code) {k : Fin 4} {v : Value} (d : De code pc 1 pc' (.astore_n k)) (h : storeLocals ls k.val v = some ls') (hr : v.isRef = true) (K : Go p e below G T (mkF m pc' ls' (st))) : Go p e below G T (mkF m pc ls (v :: st)) := by
  obtain ⟨x, rfl⟩ := B; obtain ⟨d, rfl⟩ := d
  exact Go.by (fun _ k => XS.astoreN X.here x rfl d rfl hr h k) K
theorem zc0 (X : Stand p l e R s m args below meth c T locs cells slots) (B : HB p c code)  (d : De code pc 1 pc' (.iconst 0))  (K : Go p e below G T (mkF m pc' ls (.int 0 :: st))) : Go p e below G T (mkF m pc ls (st)) := by
  obtain ⟨x, rfl⟩ := B; obtain ⟨d, rfl⟩ := d
  exact Go.by (fun _ k => XS.iconst X.here x rfl d k) K
theorem zc1 (X : Stand p l e R s m args below meth c T locs cells slots) (B : HB p c code)  (d : De code pc 1 pc' (.iconst 1))  (K : Go p e below G T (mkF m pc' ls (.int 1 :: st))) : Go p e below G T (mkF m pc ls (st)) := by
  obtain ⟨x, rfl⟩ := B; obtain ⟨d, rfl⟩ := d
  exact Go.by (fun _ k => XS.iconst X.here x rfl d k) K
theorem zc2 (X : Stand p l e R s m args below meth c T locs cells slots) (B : HB p c code)  (d : De code pc 1 pc' (.iconst 2))  (K : Go p e below G T (mkF m pc' ls (.int 2 :: st))) : Go p e below G T (mkF m pc ls (st)) := by
  obtain ⟨x, rfl⟩ := B; obtain ⟨d, rfl⟩ := d
  exact Go.by (fun _ k => XS.iconst X.here x rfl d k) K
theorem zc3 (X : Stand p l e R s m args below meth c T locs cells slots) (B : HB p c code)  (d : De code pc 1 pc' (.iconst 3))  (K : Go p e below G T (mkF m pc' ls (.int 3 :: st))) : Go p e below G T (mkF m pc ls (st)) := by
  obtain ⟨x, rfl⟩ := B; obtain ⟨d, rfl⟩ := d
  exact Go.by (fun _ k => XS.iconst X.here x rfl d k) K
theorem zc4 (X : Stand p l e R s m args below meth c T locs cells slots) (B : HB p c code)  (d : De code pc 1 pc' (.iconst 4))  (K : Go p e below G T (mkF m pc' ls (.int 4 :: st))) : Go p e below G T (mkF m pc ls (st)) := by
  obtain ⟨x, rfl⟩ := B; obtain ⟨d, rfl⟩ := d
  exact Go.by (fun _ k => XS.iconst X.here x rfl d k) K
theorem zc5 (X : Stand p l e R s m args below meth c T locs cells slots) (B : HB p c code)  (d : De code pc 1 pc' (.iconst 5))  (K : Go p e below G T (mkF m pc' ls (.int 5 :: st))) : Go p e below G T (mkF m pc ls (st)) := by
  obtain ⟨x, rfl⟩ := B; obtain ⟨d, rfl⟩ := d
  exact Go.by (fun _ k => XS.iconst X.here x rfl d k) K
theorem zbp (X : Stand p l e R s m args below meth c T locs cells slots) (B : HB p c code) {i : Int} {v : Int32} (d : De code pc 2 pc' (.bipush i)) (hv : (Int8.ofInt i).toInt32 = v) (K : Go p e below G T (mkF m pc' ls (.int v :: st))) : Go p e below G T (mkF m pc ls (st)) := by
  obtain ⟨x, rfl⟩ := B; obtain ⟨d, rfl⟩ := d; subst hv
  exact Go.by (fun _ k => XS.bipush X.here x rfl d k) K
theorem zsp (X : Stand p l e R s m args below meth c T locs cells slots) (B : HB p c code) {i : Int} {v : Int32} (d : De code pc 3 pc' (.sipush i)) (hv : (Int16.ofInt i).toInt32 = v) (K : Go p e below G T (mkF m pc' ls (.int v :: st))) : Go p e below G T (mkF m pc ls (st)) := by
  obtain ⟨x, rfl⟩ := B; obtain ⟨d, rfl⟩ := d; subst hv
  exact Go.by (fun _ k => XS.sipush X.here x rfl d k) K
theorem znull (X : Stand p l e R s m args below meth c T locs cells slots) (B : HB p c code)  (d : De code pc 1 pc' .aconst_null)  (K : Go p e below G T (mkF m pc' ls (.null :: st))) : Go p e below G T (mkF m pc ls (st)) := by
  obtain ⟨x, rfl⟩ := B; obtain ⟨d, rfl⟩ := d
  exact Go.by (fun _ k => XS.aconstNull X.here x rfl d k) K
theorem ziadd (X : Stand p l e R s m args below meth c T locs cells slots) (B : HB p c code) {x y v : Int32} (d : De code pc 1 pc' .iadd) (hv : x + y = v) (K : Go p e below G T (mkF m pc' ls (.int v :: st))) : Go p e below G T (mkF m pc ls (.int y :: .int x :: st)) := by
  obtain ⟨x, rfl⟩ := B; obtain ⟨d, rfl⟩ := d; subst hv
  exact Go.by (fun _ k => XS.iadd X.here x rfl d rfl k) K
theorem zisub (X : Stand p l e R s m args below meth c T locs cells slots) (B : HB p c code) {x y v : Int32} (d : De code pc 1 pc' .isub) (hv : x - y = v) (K : Go p e below G T (mkF m pc' ls (.int v :: st))) : Go p e below G T (mkF m pc ls (.int y :: .int x :: st)) := by
  obtain ⟨x, rfl⟩ := B; obtain ⟨d, rfl⟩ := d; subst hv
  exact Go.by (fun _ k => XS.isub X.here x rfl d rfl k) K
theorem ziand (X : Stand p l e R s m args below meth c T locs cells slots) (B : HB p c code) {x y v : Int32} (d : De code pc 1 pc' .iand) (hv : x &&& y = v) (K : Go p e below G T (mkF m pc' ls (.int v :: st))) : Go p e below G T (mkF m pc ls (.int y :: .int x :: st)) := by
  obtain ⟨x, rfl⟩ := B; obtain ⟨d, rfl⟩ := d; subst hv
  exact Go.by (fun _ k => XS.iand X.here x rfl d rfl k) K
theorem zishl (X : Stand p l e R s m args below meth c T locs cells slots) (B : HB p c code) {x y v : Int32} (d : De code pc 1 pc' .ishl) (hv : x <<< (y &&& 31) = v) (K : Go p e below G T (mkF m pc' ls (.int v :: st))) : Go p e below G T (mkF m pc ls (.int y :: .int x :: st)) := by
  obtain ⟨x, rfl⟩ := B; obtain ⟨d, rfl⟩ := d; subst hv
  exact Go.by (fun _ k => XS.ishl X.here x rfl d rfl k) K
theorem zishr (X : Stand p l e R s m args below meth c T locs cells slots) (B : HB p c code) {x y v : Int32} (d : De code pc 1 pc' .ishr) (hv : x >>> (y &&& 31) = v) (K : Go p e below G T (mkF m pc' ls (.int v :: st))) : Go p e below G T (mkF m pc ls (.int y :: .int x :: st)) := by
  obtain ⟨x, rfl⟩ := B; obtain ⟨d, rfl⟩ := d; subst hv
  exact Go.by (fun _ k => XS.ishr X.here x rfl d rfl k) K
theorem ziushr (X : Stand p l e R s m args below meth c T locs cells slots) (B : HB p c code) {x y v : Int32} (d : De code pc 1 pc' .iushr) (hv : (x.toUInt32 >>> (y &&& 31).toUInt32).toInt32 = v) (K : Go p e below G T (mkF m pc' ls (.int v :: st))) : Go p e below G T (mkF m pc ls (.int y :: .int x :: st)) := by
  obtain ⟨x, rfl⟩ := B; obtain ⟨d, rfl⟩ := d; subst hv
  exact Go.by (fun _ k => XS.iushr X.here x rfl d rfl k) K
theorem zineg (X : Stand p l e R s m args below meth c T locs cells slots) (B : HB p c code) {x : Int32} {v : Int32} (d : De code pc 1 pc' .ineg) (hv : -x = v) (K : Go p e below G T (mkF m pc' ls (.int v :: st))) : Go p e below G T (mkF m pc ls (.int x :: st)) := by
  obtain ⟨x, rfl⟩ := B; obtain ⟨d, rfl⟩ := d; subst hv
  exact Go.by (fun _ k => XS.ineg X.here x rfl d rfl k) K
theorem zi2b (X : Stand p l e R s m args below meth c T locs cells slots) (B : HB p c code) {x : Int32} {v : Int32} (d : De code pc 1 pc' .i2b) (hv : x.toInt8.toInt32 = v) (K : Go p e below G T (mkF m pc' ls (.int v :: st))) : Go p e below G T (mkF m pc ls (.int x :: st)) := by
  obtain ⟨x, rfl⟩ := B; obtain ⟨d, rfl⟩ := d; subst hv
  exact Go.by (fun _ k => XS.i2b X.here x rfl d rfl k) K
theorem zi2c (X : Stand p l e R s m args below meth c T locs cells slots) (B : HB p c code) {x : Int32} {v : Int32} (d : De code pc 1 pc' .i2c) (hv : x.toUInt32.toUInt16.toUInt32.toInt32 = v) (K : Go p e below G T (mkF m pc' ls (.int v :: st))) : Go p e below G T (mkF m pc ls (.int x :: st)) := by
  obtain ⟨x, rfl⟩ := B; obtain ⟨d, rfl⟩ := d; subst hv
  exact Go.by (fun _ k => XS.i2c X.here x rfl d rfl k) K
theorem zl2i (X : Stand p l e R s m args below meth c T locs cells slots) (B : HB p c code) {x : Int64} {v : Int32} (d : De code pc 1 pc' .l2i) (hv : x.toInt32 = v) (K : Go p e below G T (mkF m pc' ls (.int v :: st))) : Go p e below G T (mkF m pc ls (.long x :: st)) := by
  obtain ⟨x, rfl⟩ := B; obtain ⟨d, rfl⟩ := d; subst hv
  exact Go.by (fun _ k => XS.l2i X.here x rfl d rfl k) K
theorem zlneg (X : Stand p l e R s m args below meth c T locs cells slots) (B : HB p c code) {x : Int64} {v : Int64} (d : De code pc 1 pc' .lneg) (hv : -x = v) (K : Go p e below G T (mkF m pc' ls (.long v :: st))) : Go p e below G T (mkF m pc ls (.long x :: st)) := by
  obtain ⟨x, rfl⟩ := B; obtain ⟨d, rfl⟩ := d; subst hv
  exact Go.by (fun _ k => XS.lneg X.here x rfl d rfl k) K
theorem zinc (X : Stand p l e R s m args below meth c T locs cells slots) (B : HB p c code) {k : Nat} {i : Int} {x v : Int32} (d : De code pc 3 pc' (.iinc k i)) (h : ls[k]? = some (.val (.int x))) (hv : x + Int32.ofInt i = v) (h' : storeLocals ls k (.int v) = some ls') (K : Go p e below G T (mkF m pc' ls' (st))) : Go p e below G T (mkF m pc ls (st)) := by
  obtain ⟨x, rfl⟩ := B; obtain ⟨d, rfl⟩ := d; subst hv
  exact Go.by (fun _ k => XS.iinc X.here x rfl d h h' k) K
theorem zdup (X : Stand p l e R s m args below meth c T locs cells slots) (B : HB p c code) {v : Value} (d : De code pc 1 pc' .dup) (h : v.category = 1) (K : Go p e below G T (mkF m pc' ls (v :: v :: st))) : Go p e below G T (mkF m pc ls (v :: st)) := by
  obtain ⟨x, rfl⟩ := B; obtain ⟨d, rfl⟩ := d
  exact Go.by (fun _ k => XS.dup X.here x rfl d rfl h k) K
theorem zpop (X : Stand p l e R s m args below meth c T locs cells slots) (B : HB p c code) {v : Value} (d : De code pc 1 pc' .pop) (h : v.category = 1) (K : Go p e below G T (mkF m pc' ls (st))) : Go p e below G T (mkF m pc ls (v :: st)) := by
  obtain ⟨x, rfl⟩ := B; obtain ⟨d, rfl⟩ := d
  exact Go.by (fun _ k => XS.pop X.here x rfl d rfl h k) K
theorem zgo (X : Stand p l e R s m args below meth c T locs cells slots) (B : HB p c code) {o : Int}  (d : Dj code pc pc' (.goto o) o)  (K : Go p e below G T (mkF m pc' ls (st))) : Go p e below G T (mkF m pc ls (st)) := by
  obtain ⟨x, rfl⟩ := B
  exact Go.by (fun _ k => XS.goto X.here x rfl (pc0 := pc) (pc' := pc') rfl d.1 d.2.1 d.2.2 k) K
theorem zY (X : Stand p l e R s m args below meth c T locs cells slots) (B : HB p c code) {o : Int} {cd : ClassFile.Cond} {x : Int32} (d : Dj code pc pc' (.ifCond cd o) o) (h : ifCond.holds cd x = true) (K : Go p e below G T (mkF m pc' ls (st))) : Go p e below G T (mkF m pc ls (.int x :: st)) := by
  obtain ⟨x, rfl⟩ := B
  exact Go.by (fun _ k => XS.ifYes X.here x rfl (pc0 := pc) (pc' := pc') rfl d.1 rfl h d.2.1 d.2.2 k) K
theorem zCY (X : Stand p l e R s m args below meth c T locs cells slots) (B : HB p c code) {o : Int} {cd : ClassFile.Cond} {x y : Int32} (d : Dj code pc pc' (.if_icmp cd o) o) (h : if_icmp.holds cd x y = true) (K : Go p e below G T (mkF m pc' ls (st))) : Go p e below G T (mkF m pc ls (.int y :: .int x :: st)) := by
  obtain ⟨x, rfl⟩ := B
  exact Go.by (fun _ k => XS.icmpYes X.here x rfl (pc0 := pc) (pc' := pc') rfl d.1 rfl h d.2.1 d.2.2 k) K
theorem zN (X : Stand p l e R s m args below meth c T locs cells slots) (B : HB p c code) {cd : ClassFile.Cond} {o : Int} {x : Int32} (d : De code pc 3 pc' (.ifCond cd o)) (h : ifCond.holds cd x = false) (K : Go p e below G T (mkF m pc' ls (st))) : Go p e below G T (mkF m pc ls (.int x :: st)) := by
  obtain ⟨x, rfl⟩ := B; obtain ⟨d, rfl⟩ := d
  exact Go.by (fun _ k => XS.ifNo X.here x rfl d rfl h k) K
theorem zCN (X : Stand p l e R s m args below meth c T locs cells slots) (B : HB p c code) {cd : ClassFile.Cond} {o : Int} {x y : Int32} (d : De code pc 3 pc' (.if_icmp cd o)) (h : if_icmp.holds cd x y = false) (K : Go p e below G T (mkF m pc' ls (st))) : Go p e below G T (mkF m pc ls (.int y :: .int x :: st)) := by
  obtain ⟨x, rfl⟩ := B; obtain ⟨d, rfl⟩ := d
  exact Go.by (fun _ k => XS.icmpNo X.here x rfl d rfl h k) K
theorem znnY (X : Stand p l e R s m args below meth c T locs cells slots) (B : HB p c code) {o : Int} {b : Addr} (d : Dj code pc pc' (.ifnonnull o) o)  (K : Go p e below G T (mkF m pc' ls (st))) : Go p e below G T (mkF m pc ls (.ref b :: st)) := by
  obtain ⟨x, rfl⟩ := B
  exact Go.by (fun _ k => XS.ifnonnullYes X.here x rfl (pc0 := pc) (pc' := pc') rfl d.1 rfl d.2.1 d.2.2 k) K
end Z
section Y
variable {p : Program} {l : Launch} {e : Env} {R : Room} {s Z : State} {m : MethodId} {args a0 : Array Value} {below : List Frame} {meth : Method} {c : Code} {T : State} {locs : List Loc} {cells slots : Nat} {G : Outcome → State → Prop} {code : ByteArray} {pc pc' : Nat} {ls : Array Slot} {st st' rest argsL : List Value} {h : Heap} {own C : String} {i : Nat} {y z : MethodName} {bytes : ByteArray} {maxL : Nat} {ret : Option FieldType} {rm : Room} {Q : Option Value → Heap → List Loc → Prop} {a : Addr} {v : Value}
/-- a contract -/
abbrev MF (l : Launch) (Z : State) (y : MethodName) (w : Jvm.Cond) (ws : List Jvm.Cond) (R : Room) (as' : Array Value) (h : Heap) (Q : Option Value → Heap → List Loc → Prop) : Prop :=
  MetFree l y (head1 (w :: ws) R) (fun a U => a = as' ∧ Z.Warmed39 U.vm ∧ U.heap = h) (fun _ _ _ _ _ => True) (fun _ U o U' => Out U Q R.cells R.slots o U')
theorem MF.of {ws : List Jvm.Cond} (C : String) (hC : y.cls = C) (ls : Array Slot) (hp : plainFor y = true) (hf : ∀ m, entryFrame m args maxL = mkF m 0 ls [])
    (K : ∀ p e s m below meth c T, Z.Warmed39 s.vm → s.heap = h → HB p c bytes → c.maxLocals = maxL → meth.sig.returnType = ret → meth.locks = false → s.vm.findClass C = some m.cls → meth.name = y.name → Stand p l e R s m args below meth c T [] 0 0 → T.heap = h → Go p e below (Out s Q R.cells R.slots) T (mkF m 0 ls [])) : MF l Z y (Jvm.Cond.code y bytes maxL ret) ws R args h Q := by
  subst hC
  refine MetFree.of_bodySF hp hisR ?_
  intro p e s m args below meth c T Bd hml hP hK
  obtain ⟨rfl, hZ, hh⟩ := hP
  have k := K p e s m below meth c T hZ hh ⟨Bd.exec, Bd.bytes⟩ hml Bd.returns (BodyLoose.notSynchronized Bd) (findClass_of_methodNamed Bd.named) (name_of_methodNamed Bd.named Bd.method).1 (Stand.of_body Bd) (by rw [← hh, Bd.state]; rfl)
  rw [← hf m] at k
  exact k
theorem zgf (X : Stand p l e R s m args below meth c T locs cells slots) (B : HB p c code) (hZ : Z.Warmed39 s.vm) {R0 O n t : String} (hown : s.vm.findClass own = some m.cls) (w : (Jvm.Cond.fieldLink own i R0 n t).before a0 Z = true) (via : Via Z R0 O n t) (eT : T.heap = h) (F : Fld Z h a O n t v) (d : De code pc 3 pc' (.getfield i)) (K : ∀ T', Stand p l e R s m args below meth c T' locs cells slots → T'.heap = h → Go p e below G T' (mkF m pc' ls (v :: st))) : Go p e below G T (mkF m pc ls (.ref a :: st)) := by
  obtain ⟨x, rfl⟩ := B; obtain ⟨d, rfl⟩ := d
  obtain ⟨_, X, q, k⟩ := getF X x hZ (host := "") hown (Or.inl w) via eT F (g := mkF m pc ls (.ref a :: st)) rfl rfl d
  exact Go.by k (K _ X q)
theorem zgs (X : Stand p l e R s m args below meth c T locs cells slots) (B : HB p c code) (hZ : Z.Warmed39 s.vm) {O n t : String} (hown : s.vm.findClass own = some m.cls) (w : (Jvm.Cond.fieldLink own i O n t).before a0 Z = true) (eT : T.heap = h) (F : Sta Z h O n t v) (d : De code pc 3 pc' (.getstatic i)) (K : ∀ T', Stand p l e R s m args below meth c T' locs cells slots → T'.heap = h → Go p e below G T' (mkF m pc' ls (v :: st))) : Go p e below G T (mkF m pc ls (st)) := by
  obtain ⟨x, rfl⟩ := B; obtain ⟨d, rfl⟩ := d
  obtain ⟨_, X, q, k⟩ := getS2 X x hZ (host := "") hown (Or.inl w) Via.refl eT F (g := mkF m pc ls st) rfl d
  exact Go.by k (K _ X q)
theorem Go.b1 {A1 A2 A3 : State → Heap → Prop} (H : ∃ T' h', A1 T' h' ∧ A2 T' h' ∧ A3 T' h' ∧ ∀ t, Steps p.tables e below (T'.setTop { mkF m pc ls st with pc := pc + 1, stack := st' }) t → Steps p.tables e below (T.setTop (mkF m pc ls st)) t) (K : ∀ T' h', A1 T' h' → A2 T' h' → A3 T' h' → Go p e below G T' (mkF m (pc + 1) ls st')) : Go p e below G T (mkF m pc ls st) := by
  obtain ⟨_, _, H⟩ := H
  exact Go.by H.2.2.2 (K _ _ H.1 H.2.1 H.2.2.1)
theorem Go.f2 (H : ∀ t, Steps p.tables e below (T.setTop { mkF m pc ls st with pc := pc + 2, stack := st' }) t → Steps p.tables e below (T.setTop (mkF m pc ls st)) t) (K : Go p e below G T (mkF m (pc + 2) ls st')) : Go p e below G T (mkF m pc ls st) := Go.by H K
theorem Go.f3 (H : ∀ t, Steps p.tables e below (T.setTop { mkF m pc ls st with pc := pc + 3, stack := st' }) t → Steps p.tables e below (T.setTop (mkF m pc ls st)) t) (K : Go p e below G T (mkF m (pc + 3) ls st')) : Go p e below G T (mkF m pc ls st) := Go.by H K
theorem Go.a3 {A1 A2 : State → Prop} (H : ∃ T', A1 T' ∧ A2 T' ∧ ∀ t, Steps p.tables e below (T'.setTop { mkF m pc ls st with pc := pc + 3, stack := st' }) t → Steps p.tables e below (T.setTop (mkF m pc ls st)) t) (K : ∀ T', A1 T' → A2 T' → Go p e below G T' (mkF m (pc + 3) ls st')) : Go p e below G T (mkF m pc ls st) := by
  obtain ⟨_, H⟩ := H
  exact Go.by H.2.2 (K _ H.1 H.2.1)
theorem Go.b3 {A1 A2 A3 : State → Heap → Prop} (H : ∃ T' h', A1 T' h' ∧ A2 T' h' ∧ A3 T' h' ∧ ∀ t, Steps p.tables e below (T'.setTop { mkF m pc ls st with pc := pc + 3, stack := st' }) t → Steps p.tables e below (T.setTop (mkF m pc ls st)) t) (K : ∀ T' h', A1 T' h' → A2 T' h' → A3 T' h' → Go p e below G T' (mkF m (pc + 3) ls st')) : Go p e below G T (mkF m pc ls st) := by
  obtain ⟨_, _, H⟩ := H
  exact Go.by H.2.2.2 (K _ _ H.1 H.2.1 H.2.2.1)
theorem zlb (X : Stand p l e R s m args below meth c T locs cells slots) (B : HB p c code) (hZ : Z.Warmed39 s.vm) (eT : T.heap = h) {k : ClassId} {z j : Int32} {vs : List Value} {dv : Value} (V : Arv Z h a k .byte z vs dv) (q : ¬ j < 0 ∧ j < z) (u : vs.getD j.toNatClampNeg dv = v) (d : De code pc 1 pc' .baload) (K : Go p e below G T (mkF m pc' ls (v :: st))) : Go p e below G T (mkF m pc ls (.int j :: .ref a :: st)) := by
  obtain ⟨x, rfl⟩ := B; obtain ⟨d, rfl⟩ := d; subst eT
  obtain ⟨_, A, _, S, _, H, _⟩ := V
  exact Go.by (X.baloadBytes x (j := j) (v := v) A.1 (State.isArrayOf_alike hZ.alike A.2.1) A.2.2 (inb_of S q) (H.at (inb_of S q) u) (g := mkF m pc ls (.int j :: .ref a :: st)) rfl rfl d) K
theorem zln (X : Stand p l e R s m args below meth c T locs cells slots) (B : HB p c code) (hZ : Z.Warmed39 s.vm) (eT : T.heap = h) {k : ClassId} {ty : FieldType} {z : Int32} {vs : List Value} {dv : Value} (V : Arv Z h a k ty z vs dv) (d : De code pc 1 pc' .arraylength) (K : Go p e below G T (mkF m pc' ls (.int z :: st))) : Go p e below G T (mkF m pc ls (.ref a :: st)) := by
  obtain ⟨x, rfl⟩ := B; obtain ⟨d, rfl⟩ := d; subst eT
  obtain ⟨_, A, _, S, M, _, _⟩ := V
  refine Go.by (X.arraylength x A.1 (State.isArrayOf_alike hZ.alike A.2.1) (g := mkF m pc ls (.ref a :: st)) rfl rfl d) ?_
  rw [len_of S M]; exact K
theorem zno (X : Stand p l e R s m args below meth c T locs cells slots) (B : HB p c code) (hZ : Z.Warmed39 s.vm) {n : Nat} (hown : s.vm.findClass own = some m.cls) (w : (Jvm.Cond.classLink own i C).before a0 Z = true) (wi : (Jvm.Cond.instantiable C n).before a0 Z = true) (wz : (Jvm.Cond.initialized C).before a0 Z = true) (eT : T.heap = h) (d : De code pc 3 pc' (.new i)) (hc : Nat.ble (cells + 1) R.cells = true) (hl : Nat.ble (slots + n) R.slots = true) (K : ∀ T' h' a, a = h.size → Stand p l e R s m args below meth c T' locs (cells + 1) (slots + n) → T'.heap = h' → Ext h h' → Exa Z h' a C → (∀ {O nm d : String} {ty : FieldType}, Laid Z a0 C O nm d → parseFieldDescriptor d = some ty → Fld Z h' a O nm d (defaultValue ty)) → Unt h' a → Go p e below G T' (mkF m pc' ls (.ref a :: st))) : Go p e below G T (mkF m pc ls (st)) := by
  obtain ⟨x, rfl⟩ := B; obtain ⟨d, rfl⟩ := d
  obtain ⟨_, _, X, q, E, A, D, U, k⟩ := newO X x hZ hown w wi wz eT (g := mkF m pc ls st) rfl d (Nat.le_of_ble_eq_true hc) (Nat.le_of_ble_eq_true hl)
  exact Go.by k (K _ _ _ rfl X q E A D U)
theorem znp (X : Stand p l e R s m args below meth c T locs cells slots) (B : HB p c code) (hZ : Z.Warmed39 s.vm) {aty : ArrayType} (w : (Jvm.Cond.arrayClass (newarray.typeOf aty)).before a0 Z = true) (eT : T.heap = h) (d : De code pc 2 pc' (.newarray aty)) {n : Int32} (hn : ¬ n < 0) {cap : Nat} (hcap : n.toNatClampNeg ≤ cap) (hb : Nat.ble (cap * 8) 536870912 = true) (hc : Nat.ble (cells + 1) R.cells = true) (hl : Nat.ble (slots + cap) R.slots = true) (K : ∀ T' h' cA a, a = h.size → Stand p l e R s m args below meth c T' locs (cells + 1) (slots + cap) → T'.heap = h' → Ext h h' → Arr Z h' a (newA cA (newarray.typeOf aty) n) (newarray.typeOf aty) → Go p e below G T' (mkF m pc' ls (.ref a :: st))) : Go p e below G T (mkF m pc ls (.int n :: st)) := by
  obtain ⟨x, rfl⟩ := B; obtain ⟨d, rfl⟩ := d
  obtain ⟨_, _, _, X, q, E, A, k⟩ := newP X x hZ w eT (g := mkF m pc ls (.int n :: st)) rfl d rfl hn hcap (Nat.le_of_ble_eq_true hb) (Nat.le_of_ble_eq_true hc) (Nat.le_of_ble_eq_true hl)
  exact Go.by k (K _ _ _ _ rfl X q E A )
theorem znq (X : Stand p l e R s m args below meth c T locs cells slots) (B : HB p c code) (hZ : Z.Warmed39 s.vm) {aty : ArrayType} (w : (Jvm.Cond.arrayClass (newarray.typeOf aty)).before a0 Z = true) (eT : T.heap = h) (d : De code pc 2 pc' (.newarray aty)) {n : Int32} (hn : ¬ n < 0) {cap : Nat} (hcap : n.toNatClampNeg ≤ cap) (hb : Nat.ble (cap * 8) 536870912 = true) (hc : Nat.ble (cells + 1) R.cells = true) (hl : Nat.ble (slots + cap) R.slots = true) {ad : String} (had : "[" ++ (newarray.typeOf aty).toString = ad) (K : ∀ T' h' cA a, a = h.size → Stand p l e R s m args below meth c T' locs (cells + 1) (slots + cap) → T'.heap = h' → Ext h h' → Arr Z h' a (newA cA (newarray.typeOf aty) n) (newarray.typeOf aty) → Exa Z h' a ad → Go p e below G T' (mkF m pc' ls (.ref a :: st))) : Go p e below G T (mkF m pc ls (.int n :: st)) := by
  obtain ⟨x, rfl⟩ := B; obtain ⟨d, rfl⟩ := d
  obtain ⟨_, _, _, X, q, E, A, Ex, k⟩ := newPE X x hZ w eT (g := mkF m pc ls (.int n :: st)) rfl d rfl hn hcap (Nat.le_of_ble_eq_true hb) (Nat.le_of_ble_eq_true hc) (Nat.le_of_ble_eq_true hl) had
  exact Go.by k (K _ _ _ _ rfl X q E A Ex)
theorem zcs (X : Stand p l e R s m args below meth c T locs cells slots) (B : HB p c code) (hZ : Z.Warmed39 s.vm) (hown : s.vm.findClass own = some m.cls) (w1 : (Jvm.Cond.methodLink own i y).before a0 Z = true) (w2 : (Jvm.Cond.static y).before a0 Z = true) (w3 : (Jvm.Cond.initialized y.cls).before a0 Z = true) (w4 : (Jvm.Cond.code y bytes maxL ret).before a0 Z = true) (hy : y.cls ≠ "java/lang/invoke/MethodHandle" ∧ y.cls ≠ "java/lang/invoke/VarHandle") (M : MF l Z y (Jvm.Cond.code y bytes maxL ret) [] rm argsL.toArray h Q) (eT : T.heap = h) (hz : c.maxLocals = ls.size) {ps : List FieldType} {r : Option FieldType} (hd : parseMethodDescriptor y.desc = some ⟨ps, r⟩) (hn : argsL.length = ps.length) (d : De code pc 3 pc' (.invokestatic i)) (hs : st = argsL.reverseAux rest) (hf : Nat.ble (rm.frames + 1) R.frames = true) (hL : Nat.ble ((rest.map fun v => v.category).sum + (maxL + 11) + rm.locals) R.locals = true) (hc : Nat.ble (cells + rm.cells) R.cells = true) (hS : Nat.ble (slots + rm.slots) R.slots = true) (K : ∀ v T' L, Stand p l e R s m args below meth c T' (locs ++ L) (cells + rm.cells) (slots + rm.slots) → Q v T'.heap L → Go p e below G T' (mkF m pc' ls (v.toList ++ rest))) : Go p e below G T (mkF m pc ls (st)) := by
  obtain ⟨x, rfl⟩ := B; obtain ⟨d, rfl⟩ := d
  rw [List.reverseAux_eq] at hs
  obtain ⟨_, _, ⟨_, _, _, _⟩, -, X, ⟨_, hQ, l, y, z⟩, k⟩ := Jvm.LawKit.callS X x hown (mvT hZ w1) (mvT hZ w2) (mvT hZ w3) (mvT hZ w4) hy (backOf (W := (rest.map fun v => v.category).sum) M hZ w4 w3 (Nat.le_of_ble_eq_true hf) (Nat.le_of_ble_eq_true hL)) (g := mkF m pc ls st) rfl hz.symm (lenOf hd hn) hs (by show 2 * 0 + _ ≤ _; exact Nat.le_of_eq (Nat.zero_add _)) d (fun _ _ => ⟨rfl, eT, Nat.le_of_ble_eq_true hc, Nat.le_of_ble_eq_true hS⟩)
  dsimp only [Pt.U, Pt.locs, Pt.cells, Pt.slots] at X l y z hQ k
  subst l y z
  exact Go.by k (K _ _ _ X hQ)
theorem zci (X : Stand p l e R s m args below meth c T locs cells slots) (B : HB p c code) (hZ : Z.Warmed39 s.vm) (hy1 : y.name = "<init>") (hown : s.vm.findClass own = some m.cls) (w1 : (Jvm.Cond.methodLink own i y).before a0 Z = true) (w2 : (Jvm.Cond.instanceMethod y).before a0 Z = true) (w3 : (Jvm.Cond.initialized y.cls).before a0 Z = true) (w4 : (Jvm.Cond.code y bytes maxL none).before a0 Z = true) (hy : y.cls ≠ "java/lang/invoke/MethodHandle" ∧ y.cls ≠ "java/lang/invoke/VarHandle") (M : MF l Z y (Jvm.Cond.code y bytes maxL none) [] rm (.ref a :: argsL).toArray h Q) (eT : T.heap = h) (hz : c.maxLocals = ls.size) {ps : List FieldType} {r : Option FieldType} (hd : parseMethodDescriptor y.desc = some ⟨ps, r⟩) (hn : argsL.length = ps.length) (d : De code pc 3 pc' (.invokespecial i)) (hs : st = argsL.reverseAux (.ref a :: rest)) (hf : Nat.ble (rm.frames + 1) R.frames = true) (hL : Nat.ble ((rest.map fun v => v.category).sum + (maxL + 11) + rm.locals) R.locals = true) (hc : Nat.ble (cells + rm.cells) R.cells = true) (hS : Nat.ble (slots + rm.slots) R.slots = true) (K : ∀ v T' L, Stand p l e R s m args below meth c T' (locs ++ L) (cells + rm.cells) (slots + rm.slots) → Q v T'.heap L → Go p e below G T' (mkF m pc' ls (v.toList ++ rest))) : Go p e below G T (mkF m pc ls (st)) := by
  obtain ⟨x, rfl⟩ := B; obtain ⟨d, rfl⟩ := d
  rw [List.reverseAux_eq] at hs
  obtain ⟨_, _, ⟨_, _, _, _⟩, -, X, ⟨_, hQ, l, y, z⟩, k⟩ := X.specialBack x hy1 hown (mvT hZ w1) (mvT hZ w2) (mvT hZ w4) hy (backOf (W := (rest.map fun v => v.category).sum) M hZ w4 w3 (Nat.le_of_ble_eq_true hf) (Nat.le_of_ble_eq_true hL)) (g := mkF m pc ls st) rfl hz.symm (Steps.refl _) (a := a) (lenOf hd hn) hs (by show 2 * 0 + _ ≤ _; exact Nat.le_of_eq (Nat.zero_add _)) d (fun _ _ => ⟨rfl, eT, Nat.le_of_ble_eq_true hc, Nat.le_of_ble_eq_true hS⟩)
  dsimp only [Pt.U, Pt.locs, Pt.cells, Pt.slots] at X l y z hQ k
  subst l y z
  exact Go.tr k (K _ _ _ X hQ)
theorem zcv (X : Stand p l e R s m args below meth c T locs cells slots) (B : HB p c code) (hZ : Z.Warmed39 s.vm) (hown : s.vm.findClass own = some m.cls) (w1 : (Jvm.Cond.methodLink own i y).before a0 Z = true) (w2 : (Jvm.Cond.declares y).before a0 Z = true) (nf : NotFace s y) (w5 : (Jvm.Cond.selects C y z).before a0 Z = true) (w6 : (Jvm.Cond.instanceMethod z).before a0 Z = true) (w3 : (Jvm.Cond.initialized z.cls).before a0 Z = true) (w4 : (Jvm.Cond.code z bytes maxL ret).before a0 Z = true) (hy : y.cls ≠ "java/lang/invoke/MethodHandle" ∧ y.cls ≠ "java/lang/invoke/VarHandle") (E : Exa Z h a C) (M : MF l Z z (Jvm.Cond.code z bytes maxL ret) [] rm (.ref a :: argsL).toArray h Q) (eT : T.heap = h) (hz : c.maxLocals = ls.size) {ps : List FieldType} {r : Option FieldType} (hd : parseMethodDescriptor y.desc = some ⟨ps, r⟩) (hn : argsL.length = ps.length) (d : De code pc 3 pc' (.invokevirtual i)) (hs : st = argsL.reverseAux (.ref a :: rest)) (hf : Nat.ble (rm.frames + 1) R.frames = true) (hL : Nat.ble ((rest.map fun v => v.category).sum + (maxL + 11) + rm.locals) R.locals = true) (hc : Nat.ble (cells + rm.cells) R.cells = true) (hS : Nat.ble (slots + rm.slots) R.slots = true) (K : ∀ v T' L, Stand p l e R s m args below meth c T' (locs ++ L) (cells + rm.cells) (slots + rm.slots) → Q v T'.heap L → Go p e below G T' (mkF m pc' ls (v.toList ++ rest))) : Go p e below G T (mkF m pc ls (st)) := by
  obtain ⟨x, rfl⟩ := B; obtain ⟨d, rfl⟩ := d
  rw [List.reverseAux_eq] at hs
  obtain ⟨_, _, q1, _, q2⟩ := isOf hZ eT E
  obtain ⟨_, _, ⟨_, _, _, _⟩, -, X, ⟨_, hQ, l, y, z⟩, k⟩ := X.virtualBack x hown (mvT hZ w1) (mvT hZ w2) nf (mvT hZ w5) (mvT hZ w6) hy (backOf (W := (rest.map fun v => v.category).sum) M hZ w4 w3 (Nat.le_of_ble_eq_true hf) (Nat.le_of_ble_eq_true hL)) q1 q2 (g := mkF m pc ls st) rfl hz.symm (Steps.refl _) (lenOf hd hn) hs (by show 2 * 0 + _ ≤ _; exact Nat.le_of_eq (Nat.zero_add _)) d (fun _ _ => ⟨rfl, eT, Nat.le_of_ble_eq_true hc, Nat.le_of_ble_eq_true hS⟩)
  dsimp only [Pt.U, Pt.locs, Pt.cells, Pt.slots] at X l y z hQ k
  subst l y z
  exact Go.tr k (K _ _ _ X hQ)
theorem zcp (X : Stand p l e R s m args below meth c T locs cells slots) (B : HB p c code) (hZ : Z.Warmed39 s.vm) (hown : s.vm.findClass own = some m.cls) (w1 : (Jvm.Cond.methodLink own i y).before a0 Z = true) (w2 : (Jvm.Cond.instanceMethod y).before a0 Z = true) (w5 : (Jvm.Cond.selects y.cls y y).before a0 Z = true) (w6 : (Jvm.Cond.privateMethod y).before a0 Z = true) (w3 : (Jvm.Cond.initialized y.cls).before a0 Z = true) (w4 : (Jvm.Cond.code y bytes maxL ret).before a0 Z = true) (hy : y.cls ≠ "java/lang/invoke/MethodHandle" ∧ y.cls ≠ "java/lang/invoke/VarHandle") (E : Exa Z h a C) (M : MF l Z y (Jvm.Cond.code y bytes maxL ret) [] rm (.ref a :: argsL).toArray h Q) (eT : T.heap = h) (hz : c.maxLocals = ls.size) {ps : List FieldType} {r : Option FieldType} (hd : parseMethodDescriptor y.desc = some ⟨ps, r⟩) (hn : argsL.length = ps.length) (d : De code pc 3 pc' (.invokevirtual i)) (hs : st = argsL.reverseAux (.ref a :: rest)) (hf : Nat.ble (rm.frames + 1) R.frames = true) (hL : Nat.ble ((rest.map fun v => v.category).sum + (maxL + 11) + rm.locals) R.locals = true) (hc : Nat.ble (cells + rm.cells) R.cells = true) (hS : Nat.ble (slots + rm.slots) R.slots = true) (K : ∀ v T' L, Stand p l e R s m args below meth c T' (locs ++ L) (cells + rm.cells) (slots + rm.slots) → Q v T'.heap L → Go p e below G T' (mkF m pc' ls (v.toList ++ rest))) : Go p e below G T (mkF m pc ls (st)) := by
  obtain ⟨x, rfl⟩ := B; obtain ⟨d, rfl⟩ := d
  rw [List.reverseAux_eq] at hs
  obtain ⟨_, _, _, _, _, q1, _, q2⟩ := isOf hZ eT E
  obtain ⟨_, _, ⟨_, _, _, _⟩, -, X, ⟨_, hQ, l, y, z⟩, k⟩ := X.privateBack x hown (mvT hZ w1) (mvT hZ w2) (mvT hZ w5) (Cond.privateMethod_at (args := #[]) (mvP hZ w6)) (mvT hZ w4) hy (backOf (W := (rest.map fun v => v.category).sum) M hZ w4 w3 (Nat.le_of_ble_eq_true hf) (Nat.le_of_ble_eq_true hL)) (g := mkF m pc ls st) rfl hz.symm (Steps.refl _) q1 (fun q hq => by rw [hq] at q2; cases q2) (lenOf hd hn) hs (by show 2 * 0 + _ ≤ _; exact Nat.le_of_eq (Nat.zero_add _)) d (fun _ _ => ⟨rfl, eT, Nat.le_of_ble_eq_true hc, Nat.le_of_ble_eq_true hS⟩)
  dsimp only [Pt.U, Pt.locs, Pt.cells, Pt.slots] at X l y z hQ k
  subst l y z
  exact Go.tr k (K _ _ _ X hQ)
theorem zr0 (X : Stand p l e R s m args below meth c T locs cells slots) (B : HB p c code) (hret : meth.sig.returnType = none) (hlk : meth.locks = false) (d : De code pc 1 pc' .return_) (eT : T.heap = h) (q : Q none h locs) (hc : Nat.ble cells R.cells = true) (hs : Nat.ble slots R.slots = true) : Go p e below (Out s Q R.cells R.slots) T (mkF m pc ls ([])) := by
  subst eT; exact Go.ret0 X B.1 hret hlk (hb B.2 d.1) q (Nat.le_of_ble_eq_true hc) (Nat.le_of_ble_eq_true hs)
theorem zrI (X : Stand p l e R s m args below meth c T locs cells slots) (B : HB p c code) (hret : meth.sig.returnType = some .int) (hlk : meth.locks = false) {x : Int32} (d : De code pc 1 pc' .ireturn) (eT : T.heap = h) (q : Q (some (.int x)) h locs) (hc : Nat.ble cells R.cells = true) (hs : Nat.ble slots R.slots = true) : Go p e below (Out s Q R.cells R.slots) T (mkF m pc ls (.int x :: st)) := by
  subst eT; exact Go.retI X B.1 hret hlk (hb B.2 d.1) q (Nat.le_of_ble_eq_true hc) (Nat.le_of_ble_eq_true hs)
theorem zrN (X : Stand p l e R s m args below meth c T locs cells slots) (B : HB p c code) {t : FieldType} (hret : meth.sig.returnType = some t) (ht : t = .boolean ∨ t = .byte ∨ t = .char ∨ t = .short) (hlk : meth.locks = false) {x : Int32} (d : De code pc 1 pc' .ireturn) (eT : T.heap = h) (q : Q (some (.int (nar t x))) h locs) (hc : Nat.ble cells R.cells = true) (hs : Nat.ble slots R.slots = true) : Go p e below (Out s Q R.cells R.slots) T (mkF m pc ls (.int x :: st)) := by
  subst eT; exact Go.retN X B.1 hret ht hlk (hb B.2 d.1) q (Nat.le_of_ble_eq_true hc) (Nat.le_of_ble_eq_true hs)
theorem zrR (X : Stand p l e R s m args below meth c T locs cells slots) (B : HB p c code) {t : FieldType} (hret : meth.sig.returnType = some t) (hn : narrow t v = v) (ht : t.isReference = true) (hw : v.isRef = true) (hlk : meth.locks = false) (d : De code pc 1 pc' .areturn) (eT : T.heap = h) (q : Q (some v) h locs) (hc : Nat.ble cells R.cells = true) (hs : Nat.ble slots R.slots = true) : Go p e below (Out s Q R.cells R.slots) T (mkF m pc ls (v :: st)) := by
  subst eT; exact Go.retR X B.1 hret hn ht hw hlk (hb B.2 d.1) q (Nat.le_of_ble_eq_true hc) (Nat.le_of_ble_eq_true hs)
end Y
abbrev un : Slot := .unset
abbrev Ro0 : Room := ⟨0, 0, 0, 0⟩
abbrev Ro1 : Room := ⟨1, 0, 0, 13⟩
abbrev Ro2 : Room := ⟨1, 0, 0, 14⟩
abbrev Ro3 : Room := ⟨2, 0, 0, 27⟩
abbrev Ro4 : Room := ⟨3, 0, 0, 40⟩
abbrev Ro5 : Room := ⟨1, 0, 0, 12⟩
abbrev Ro6 : Room := ⟨0, 1, 1, 0⟩
abbrev Ro7 : Room := ⟨2, 2, 5, 27⟩
abbrev Ro8 : Room := ⟨1, 1, 34, 12⟩
abbrev Ro9 : Room := ⟨1, 0, 0, 18⟩
abbrev Ro10 : Room := ⟨2, 0, 0, 33⟩
abbrev Ro11 : Room := ⟨3, 0, 0, 47⟩
abbrev Ro12 : Room := ⟨4, 0, 0, 61⟩
abbrev Ro13 : Room := ⟨1, 1, 34, 14⟩
abbrev Ro14 : Room := ⟨2, 1, 34, 29⟩
abbrev Ro15 : Room := ⟨3, 1, 34, 45⟩
abbrev Ro16 : Room := ⟨4, 2, 38, 59⟩
abbrev Ro17 : Room := ⟨2, 0, 0, 29⟩
abbrev Ro18 : Room := ⟨1, 1, 70, 18⟩
abbrev Ro19 : Room := ⟨3, 1, 70, 48⟩
abbrev Ro20 : Room := ⟨4, 1, 70, 62⟩
abbrev Ro21 : Room := ⟨5, 1, 70, 76⟩
abbrev Ro22 : Room := ⟨5, 1, 70, 75⟩
abbrev Ro23 : Room := ⟨2, 1, 34, 25⟩
abbrev Ro24 : Room := ⟨2, 1, 70, 34⟩
abbrev Ro25 : Room := ⟨3, 1, 70, 49⟩
abbrev Ro26 : Room := ⟨4, 1, 70, 65⟩
abbrev Ro27 : Room := ⟨5, 2, 74, 79⟩
abbrev Ro28 : Room := ⟨1, 0, 0, 22⟩
abbrev Ro29 : Room := ⟨2, 0, 0, 38⟩
abbrev Ro30 : Room := ⟨5, 1, 70, 78⟩
abbrev Ro31 : Room := ⟨4, 0, 0, 53⟩
abbrev Ro32 : Room := ⟨5, 0, 0, 67⟩
abbrev Ro33 : Room := ⟨6, 0, 0, 82⟩
abbrev Ro34 : Room := ⟨3, 2, 38, 39⟩
abbrev Ro35 : Room := ⟨5, 4, 24, 74⟩
abbrev Ro36 : Room := ⟨6, 9, 158, 90⟩
abbrev Ro37 : Room := ⟨6, 10, 228, 90⟩
abbrev Ro38 : Room := ⟨5, 0, 0, 74⟩
abbrev Ro39 : Room := ⟨6, 1, 70, 89⟩
abbrev Ro40 : Room := ⟨6, 1, 70, 88⟩
abbrev Ro41 : Room := ⟨6, 2, 4, 89⟩
abbrev Ro42 : Room := ⟨7, 3, 74, 104⟩
abbrev Ro43 : Room := ⟨7, 3, 74, 103⟩
abbrev Ro44 : Room := ⟨6, 3, 74, 92⟩
abbrev Ro45 : Room := ⟨6, 3, 74, 89⟩
abbrev Ro46 : Room := ⟨5, 2, 38, 71⟩
abbrev Ro47 : Room := ⟨6, 2, 74, 91⟩
abbrev mn0 : MethodName := ⟨"java/lang/String", "coder", "()B"⟩
abbrev mn1 : MethodName := ⟨"java/lang/String", "length", "()I"⟩
abbrev mn2 : MethodName := ⟨"jdk/internal/util/Preconditions", "checkIndex", "(IILjava/util/function/BiFunction;)I"⟩
abbrev mn3 : MethodName := ⟨"java/lang/String", "checkIndex", "(II)V"⟩
abbrev mn4 : MethodName := ⟨"java/lang/StringLatin1", "charAt", "([BI)C"⟩
abbrev mn5 : MethodName := ⟨"java/lang/String", "isLatin1", "()Z"⟩
abbrev mn6 : MethodName := ⟨"java/lang/String", "charAt", "(I)C"⟩
abbrev mn7 : MethodName := ⟨"java/lang/String", "<init>", "([BB)V"⟩
abbrev mn8 : MethodName := ⟨"java/lang/StringLatin1", "canEncode", "(C)Z"⟩
abbrev mn9 : MethodName := ⟨"java/lang/StringLatin1", "toBytes", "(C)[B"⟩
abbrev mn10 : MethodName := ⟨"java/lang/String", "valueOf", "(C)Ljava/lang/String;"⟩
abbrev mn11 : MethodName := ⟨"java/lang/AbstractStringBuilder", "<init>", "(I)V"⟩
abbrev mn12 : MethodName := ⟨"java/lang/AbstractStringBuilder", "ensureCapacityInternal", "(I)V"⟩
abbrev mn13 : MethodName := ⟨"java/lang/AbstractStringBuilder", "inflateIfNeededFor", "(Ljava/lang/String;)V"⟩
abbrev mn14 : MethodName := ⟨"java/lang/String", "getBytes", "([BIB)V"⟩
abbrev mn15 : MethodName := ⟨"java/lang/AbstractStringBuilder", "putStringAt", "(ILjava/lang/String;)V"⟩
abbrev mn16 : MethodName := ⟨"java/lang/AbstractStringBuilder", "append", "(Ljava/lang/String;)Ljava/lang/AbstractStringBuilder;"⟩
abbrev mn17 : MethodName := ⟨"java/lang/StringBuilder", "append", "(Ljava/lang/String;)Ljava/lang/StringBuilder;"⟩
abbrev mn18 : MethodName := ⟨"java/lang/AbstractStringBuilder", "isLatin1", "()Z"⟩
abbrev mn19 : MethodName := ⟨"java/lang/AbstractStringBuilder", "append", "(C)Ljava/lang/AbstractStringBuilder;"⟩
abbrev mn20 : MethodName := ⟨"java/lang/StringBuilder", "append", "(C)Ljava/lang/StringBuilder;"⟩
abbrev mn21 : MethodName := ⟨"java/lang/AbstractStringBuilder", "getValue", "()[B"⟩
abbrev mn22 : MethodName := ⟨"java/lang/AbstractStringBuilder", "length", "()I"⟩
abbrev mn23 : MethodName := ⟨"java/lang/StringBuilder", "length", "()I"⟩
abbrev mn24 : MethodName := ⟨"java/util/Arrays", "copyOfRange", "([BII)[B"⟩
abbrev mn25 : MethodName := ⟨"java/lang/String", "<init>", "(Ljava/lang/AbstractStringBuilder;Ljava/lang/Void;)V"⟩
abbrev mn26 : MethodName := ⟨"java/lang/String", "<init>", "(Ljava/lang/StringBuilder;)V"⟩
abbrev mn27 : MethodName := ⟨"java/lang/StringBuilder", "toString", "()Ljava/lang/String;"⟩
abbrev mn28 : MethodName := ⟨"java/lang/Math", "max", "(II)I"⟩
abbrev mn29 : MethodName := ⟨"java/lang/Math", "min", "(II)I"⟩
abbrev mn30 : MethodName := ⟨"jdk/internal/util/ArraysSupport", "newLength", "(III)I"⟩
abbrev mn31 : MethodName := ⟨"java/lang/AbstractStringBuilder", "newCapacity", "(I)I"⟩
abbrev mn32 : MethodName := ⟨"java/util/Arrays", "copyOf", "([BI)[B"⟩
abbrev mn33 : MethodName := ⟨"java/lang/StringBuilder", "<init>", "()V"⟩
abbrev mn34 : MethodName := ⟨"java/util/Arrays", "checkLength", "(II)V"⟩
abbrev mn35 : MethodName := ⟨"java/util/Arrays", "copyOfRangeByte", "([BII)[B"⟩
abbrev mn36 : MethodName := ⟨"java/lang/Long", "stringSize", "(J)I"⟩
abbrev mn37 : MethodName := ⟨"java/lang/Long", "getChars", "(JI[B)I"⟩
abbrev mn38 : MethodName := ⟨"java/lang/AbstractStringBuilder", "append", "(J)Ljava/lang/AbstractStringBuilder;"⟩
abbrev mn39 : MethodName := ⟨"java/lang/StringBuilder", "append", "(J)Ljava/lang/StringBuilder;"⟩
abbrev mn40 : MethodName := ⟨"com/example/rabotnik/rabotnik/coordinator/PrometheusTextFamilyPinLaw", "pick", "(I)C"⟩
abbrev mn41 : MethodName := ⟨"com/example/rabotnik/rabotnik/coordinator/PrometheusTextFamilyPinLaw", "ch", "(Ljava/lang/String;IC)Z"⟩
abbrev mn42 : MethodName := ⟨"com/example/rabotnik/rabotnik/coordinator/PrometheusTextFamilyPinLaw", "at", "(Ljava/lang/String;ILjava/lang/String;I)Z"⟩
abbrev mn43 : MethodName := ⟨"com/example/rabotnik/rabotnik/coordinator/PrometheusTextFamilyPinLaw", "eqLit", "(Ljava/lang/String;ILjava/lang/String;)Z"⟩
abbrev mn44 : MethodName := ⟨"com/example/rabotnik/rabotnik/coordinator/PrometheusTextFamilyPinLaw", "esc", "(Ljava/lang/String;IC)Z"⟩
abbrev mn45 : MethodName := ⟨"com/example/rabotnik/rabotnik/coordinator/PrometheusTextFamilyPinLaw", "escLen", "(C)I"⟩
abbrev mn46 : MethodName := ⟨"com/example/rabotnik/rabotnik/coordinator/PrometheusText", "<init>", "()V"⟩
abbrev mn47 : MethodName := ⟨"com/example/rabotnik/rabotnik/coordinator/PrometheusText", "escaped", "(Ljava/lang/String;Z)V"⟩
abbrev mn48 : MethodName := ⟨"com/example/rabotnik/rabotnik/coordinator/PrometheusText", "family", "(Ljava/lang/String;Lcom/example/rabotnik/rabotnik/coordinator/PrometheusText$Type;Ljava/lang/String;)V"⟩
abbrev mn49 : MethodName := ⟨"com/example/rabotnik/rabotnik/coordinator/PrometheusText", "sampleName", "(Ljava/lang/String;[Ljava/lang/String;)V"⟩
abbrev mn50 : MethodName := ⟨"com/example/rabotnik/rabotnik/coordinator/PrometheusText", "sample", "(J[Ljava/lang/String;)V"⟩
abbrev mn51 : MethodName := ⟨"com/example/rabotnik/rabotnik/coordinator/PrometheusText", "text", "()Ljava/lang/String;"⟩
abbrev mn52 : MethodName := ⟨"java/lang/String", "<init>", "([C)V"⟩
abbrev mn53 : MethodName := ⟨"java/lang/Object", "<init>", "()V"⟩
abbrev mn54 : MethodName := ⟨"java/lang/System", "arraycopy", "(Ljava/lang/Object;ILjava/lang/Object;II)V"⟩
abbrev mn55 : MethodName := ⟨"[B", "clone", "()Ljava/lang/Object;"⟩
abbrev mn56 : MethodName := ⟨"java/lang/Object", "clone", "()Ljava/lang/Object;"⟩
abbrev ss0 := "java/lang/String"
abbrev ss1 := "java/lang/AbstractStringBuilder"
abbrev ss2 := "coder"
abbrev ss3 := "value"
abbrev ss4 := "java/lang/StringBuilder"
abbrev ss5 := "count"
abbrev ss6 := "com/example/rabotnik/rabotnik/coordinator/PrometheusText"
abbrev ss7 := "COMPACT_STRINGS"
abbrev ss8 := "com/example/rabotnik/rabotnik/coordinator/PrometheusText$Type"
abbrev ss9 := "Ljava/lang/String;"
abbrev ss10 := "jdk/internal/util/Preconditions"
abbrev ss11 := "Ljava/lang/StringBuilder;"
abbrev ss12 := "SIOOBE_FORMATTER"
abbrev ss13 := "Ljava/util/function/BiFunction;"
abbrev ss14 := "java/lang/Integer"
abbrev ss15 := "DigitOnes"
abbrev ss16 := "com/example/rabotnik/rabotnik/coordinator/PrometheusTextFamilyPinLaw"
abbrev ss17 := "Lcom/example/rabotnik/rabotnik/coordinator/PrometheusText$Type;"
abbrev ss18 := "family"
abbrev ss19 := "java/util/Arrays"
abbrev ss20 := "java/lang/StringLatin1"
/-- an instance method that its class itself declares is found from that class (no interface) -/
theorem own_same {s : State} {a0 : Array Value} {y z : MethodName} {C : String} (hi : (Jvm.Cond.instanceMethod y).before a0 s = true) (hs : (Jvm.Cond.selects C z z).before a0 s = true) (hc : z.cls = y.cls) (hy : y.cls ≠ "java/lang/invoke/MethodHandle" ∧ y.cls ≠ "java/lang/invoke/VarHandle") : (Jvm.Cond.sameMethod y.cls y.cls y.name y.desc).before a0 s = true := by
  obtain ⟨mk, methM, hnamed, hmethM, -, -⟩ := Cond.instanceMethod_spec hi
  have hfound : s.methodFound? y.cls y.name y.desc = some mk := State.methodFound?_of_named hnamed hy
  have hcl := findClass_of_methodNamed hnamed
  obtain ⟨c2, r2, m2, q1, q2, q3, q4, kP, hkP, hkPi⟩ := Cond.selects_spec hs
  have hcz := findClass_of_methodNamed q3
  rw [hc] at hcz
  have e : mk.cls = m2.cls := Option.some.inj (hcl.symm.trans hcz)
  have hnamed' : s.methodNamed? ⟨y.cls, y.name, y.desc⟩ = some mk := hnamed
  rw [← e] at hkP
  simp [Cond.before, Cond.holds, Cond.value, hcl, hfound, hnamed', hkP, hkPi]
theorem own_selp {s : State} {a0 : Array Value} {y : MethodName} {C : String} (hi : (Jvm.Cond.instanceMethod y).before a0 s = true) (hp : (Jvm.Cond.privateMethod y).before a0 s = true) (hs : (Jvm.Cond.selects C y y).before a0 s = true) (hy : y.cls ≠ "java/lang/invoke/MethodHandle" ∧ y.cls ≠ "java/lang/invoke/VarHandle") : (Jvm.Cond.selects y.cls y y).before a0 s = true := by
  obtain ⟨c2, r2, m2, q1, q2, q3, q4, kP, hkP, hkPi⟩ := Cond.selects_spec hs
  exact selects_self_of_private (findClass_of_methodNamed q3) hkP hkPi (Cond.privateMethod_at hp) hi hy
theorem own_notface {s : State} {args : Array Value} {y z : MethodName} {C : String} (hs : (Jvm.Cond.selects C z z).before args s = true) (hc : z.cls = y.cls) : NotFace s y := fun r0 h0 => by
  obtain ⟨c2, r2, m2, q1, q2, q3, q4, kP, hkP, hkPi⟩ := Cond.selects_spec hs
  have hcz := findClass_of_methodNamed q3
  rw [hc] at hcz
  have e : r0.cls = m2.cls := Option.some.inj ((findClass_of_methodNamed h0).symm.trans hcz)
  exact ⟨kP, by rw [e]; exact hkP, hkPi⟩
abbrev B8 (cs : List Int32) : List Value := (cs.map (fun c => c.toInt8.toInt32)).map Value.int
theorem shr0 (x : Int32) : x >>> ((0 : Int32) &&& 31) = x := by
  apply Int32.toBitVec_inj.mp; simp [Int32.toBitVec_shiftRight]
theorem shl0 (x : Int32) : x <<< ((0 : Int32) &&& 31) = x := by
  apply Int32.toBitVec_inj.mp; simp [Int32.toBitVec_shiftLeft]
theorem on_nat {n : Nat} (h : n < 2 ^ 31) : (Int32.ofNat n).toNatClampNeg = n := by
  show (Int32.ofNat n).toInt.toNat = n
  rw [Int32.toInt_ofNat_of_lt h]; rfl
theorem on_pos {n : Nat} (h : n < 2 ^ 31) : ¬ Int32.ofNat n < 0 := by
  rw [Int32.lt_iff_toInt_lt, Int32.toInt_ofNat_of_lt h]
  show ¬ (n : Int) < 0
  omega
theorem on_int {n : Nat} (h : n < 2 ^ 31) : (Int32.ofNat n).toInt = n := Int32.toInt_ofNat_of_lt h
theorem on_add (a b : Nat) : Int32.ofNat a + Int32.ofNat b = Int32.ofNat (a + b) := by
  apply Int32.toBitVec_inj.mp
  show BitVec.ofNat 32 a + BitVec.ofNat 32 b = BitVec.ofNat 32 (a + b)
  exact (BitVec.ofNat_add a b).symm
theorem on_sub {a b : Nat} (h : b ≤ a) (ha : a < 2 ^ 31) : Int32.ofNat a - Int32.ofNat b = Int32.ofNat (a - b) := by
  have e : Int32.ofNat a = Int32.ofNat (a - b) + Int32.ofNat b := by rw [on_add]; congr 1; omega
  rw [e]
  apply Int32.toBitVec_inj.mp
  simp
theorem b8_app (cs ds : List Int32) : B8 (cs ++ ds) = B8 cs ++ B8 ds := by simp [B8]
theorem b8_len (cs : List Int32) : (B8 cs).length = cs.length := by simp [B8]
theorem rng_getD {vs : List Value} {dv : Value} {n : Nat} (i : Nat) (h : vs.length ≤ n) : ((List.range n).map fun i => vs.getD (0 + i) dv).getD i dv = vs.getD i dv := by
  simp only [List.getD_eq_getElem?_getD, List.getElem?_map, Nat.zero_add]
  by_cases q : i < n
  · rw [List.getElem?_range q]; simp
  · rw [List.getElem?_eq_none (by simpa using q), List.getElem?_eq_none (l := vs) (by omega)]; rfl
theorem app_getD (ws us vs : List Value) (dv : Value) (h : ∀ i, us.getD i dv = vs.getD i dv) (i : Nat) : (ws ++ us).getD i dv = (ws ++ vs).getD i dv := by
  simp only [List.getD_eq_getElem?_getD] at h ⊢
  by_cases q : i < ws.length
  · rw [List.getElem?_append_left q, List.getElem?_append_left q]
  · rw [List.getElem?_append_right (by omega), List.getElem?_append_right (by omega)]; exact h _
section OwnCopy
variable {p : Program} {l : Launch} {e : Env} {R : Room} {s Z : State} {m : MethodId} {args : Array Value} {below : List Frame} {meth : Method} {c : Code} {T : State} {locs : List Loc} {cells slots : Nat} {h : Heap} {a b : Addr} {k k' : ClassId}
/-- System.arraycopy of a Latin-1 text behind another one (n signs, the source's text at most so long) -/
theorem own_cpy (X : Stand p l e R s m args below meth c T locs cells slots) (hx : p.tables.exec = Jvm.exec) (hZ : Z.Warmed39 s.vm) {a0 : Array Value} {own : String} {index : Nat} (hown : s.vm.findClass own = some m.cls)
    (w1 : (Cond.methodLink own index Jvm.Stand.acN).before a0 Z = true) (w2 : (Cond.native Jvm.Stand.acN).before a0 Z = true) (w3 : (Cond.static Jvm.Stand.acN).before a0 Z = true) (w4 : (Cond.initialized "java/lang/System").before a0 Z = true) (eT : T.heap = h)
    {ca cb n : Nat} {cs es : List Int32} {nn dp : Int32} (A : Arv Z h a k .byte (Int32.ofNat ca) (B8 cs) (.int 0)) (B : Arv Z h b k' .byte (Int32.ofNat cb) (B8 es) (.int 0)) (hn : nn = Int32.ofNat n) (hdp : dp = Int32.ofNat es.length)
    (q1 : cs.length ≤ n) (q2 : n ≤ ca) (q3 : es.length + n ≤ cb) (q4 : ca < 2 ^ 31) (q5 : cb < 2 ^ 31) {n0 : Nat} (N : Fr n0 locs) (ge : n0 ≤ b)
    {g : JFrame} (hg : g.method = m) (hsize : g.locals.size = c.maxLocals) {rest : List Value} (hs : g.stack = .int nn :: .int dp :: .ref b :: .int 0 :: .ref a :: rest) (hd : decode c.code g.pc = .ok (.invokestatic index, 3))
    (hf : 1 ≤ R.frames) {W : Nat} (hW : 2 * g.monitorRoom + (rest.map fun v => v.category).sum ≤ W) (hlo : W + (nativeFrameWords "java/lang/System" "arraycopy" 5 + 11) ≤ R.locals) :
    ∃ T' h' L, Stand p l e R s m args below meth c T' L cells slots ∧ T'.heap = h' ∧ Fr n0 L ∧ Keep h h' [b] ∧ Arv Z h' b k' .byte (Int32.ofNat cb) (B8 (es ++ cs)) (.int 0) ∧
      ∀ target, Steps p.tables e below (T'.setTop { g with pc := g.pc + 3, stack := rest }) target → Steps p.tables e below (T.setTop g) target := by
  subst hn hdp
  have hn' : n < 2 ^ 31 := by omega
  have he' : es.length < 2 ^ 31 := by omega
  obtain ⟨T', h', L, x1, x2, x3, x4, x5, x6⟩ := cpA X hx hZ hown w1 w2 w3 w4 eT A (B.pad (pad_rep (B8 es) (.int 0) n)) (us := (List.range n).map fun i => (B8 cs).getD (0 + i) (.int 0)) (Or.inl ⟨rfl, rfl⟩) (sp := 0) (dp := Int32.ofNat es.length) (nn := Int32.ofNat n) (by decide) (on_pos he') (on_pos hn')
    (by rw [on_nat hn', on_nat q4]; show 0 + n ≤ ca; omega) (by rw [on_nat hn', on_nat he', on_nat q5]; exact q3) (by rw [on_nat hn']; rfl) (by rw [on_nat hn', on_nat he']; simp) N ge hg hsize hs hd hf hW hlo
  refine ⟨T', h', L, x1, x2, x3, x4, x5.pad fun i => ?_, x6⟩
  rw [on_nat hn', on_nat he', b8_app]
  have e1 : (B8 es ++ List.replicate n (Value.int 0)).take es.length = B8 es := by rw [← b8_len es]; exact List.take_left
  have e2 : (B8 es ++ List.replicate n (Value.int 0)).drop (es.length + n) = [] := by apply List.drop_eq_nil_of_le; simp
  rw [e1, e2, List.append_nil]
  exact (app_getD (B8 es) _ _ _ (fun j => rng_getD j (by rw [b8_len]; exact q1)) i).symm
end OwnCopy
theorem nar_b8 (x : Int32) : nar .byte (x.toInt8.toInt32) = x.toInt8.toInt32 := by
  show (x.toInt8.toInt32).toInt8.toInt32 = x.toInt8.toInt32
  simp
theorem own_push {Z : State} {h h' : Heap} {a : Addr} {k : ClassId} {z j y x : Int32} {cs : List Int32} (F : Arv Z h a k .byte z (B8 cs) (.int 0)) (hj : j.toNatClampNeg = cs.length) (W : Wr h h' a j.toNatClampNeg (.int (nar .byte y))) (hy : nar .byte y = x.toInt8.toInt32) : Arv Z h' a k .byte z (B8 (cs ++ [x])) (.int 0) := by
  obtain ⟨c, A, q, S, M, G, J⟩ := F.pad (pad_rep (B8 cs) (.int 0) 1)
  have r := Arv.set A q S M G J (fits_nar_byte y) W cs.length hj (by simp)
  have e : (B8 cs ++ List.replicate 1 (Value.int 0)).set cs.length (.int (nar .byte y)) = B8 (cs ++ [x]) := by
    rw [hy, b8_app, List.set_append_right (h := by simp)]; simp [B8]
  exact e ▸ r

theorem on_pred (n : Nat) : Int32.ofNat (n + 1) + (-1 : Int32) = Int32.ofNat n := by
  rw [← on_add n 1, Int32.add_assoc, show Int32.ofNat 1 + (-1 : Int32) = 0 from rfl, Int32.add_zero]
def newCap (cap mc : Nat) : Nat := cap + max (mc - cap) (cap + 2)
theorem arv_of_arh {Z : State} {h : Heap} {a : Addr} {k : ClassId} {ty : FieldType} {z : Int32} {vs : List Value} {dv : Value} (F : Arh Z h a k ty z [] vs dv) : Arv Z h a k ty z vs dv := by
  obtain ⟨c, A, q, S, M, H, G⟩ := F
  exact ⟨c, A, q, S, M, fun k hk => H k hk, G⟩
theorem on_lt {a b : Nat} (h : a < b) (hb : b < 2 ^ 31) : Int32.ofNat a < Int32.ofNat b := by
  rw [Int32.lt_iff_toInt_lt, on_int (by omega), on_int hb]; omega
theorem on_subneg {a b : Nat} (h : a ≤ b) (hb : b < 2 ^ 31) : ¬ ((0 : Int32) < Int32.ofNat a - Int32.ofNat b) := by
  have e : Int32.ofNat a - Int32.ofNat b = - Int32.ofNat (b - a) := by
    rw [← on_sub h hb]; apply Int32.toBitVec_inj.mp; simp
  rw [e, Int32.lt_iff_toInt_lt, Int32.toInt_neg, on_int (by omega)]
  have e0 : (0 : Int32).toInt = 0 := rfl
  rw [e0, Int.bmod_def]; omega
/-- the k decimal signs of X, the first ones first -/
def D (k X : Nat) : List Int32 := (List.range k).map fun j => Int32.ofNat (48 + X / 10 ^ (k - 1 - j) % 10)
theorem lt_on {a b : Nat} (ha : a < 2 ^ 31) (hb : b < 2 ^ 31) : Int32.ofNat a < Int32.ofNat b ↔ a < b := by
  rw [Int32.lt_iff_toInt_lt, on_int ha, on_int hb]; omega
theorem eq_on {a b : Nat} (ha : a < 2 ^ 31) (hb : b < 2 ^ 31) : Int32.ofNat a = Int32.ofNat b ↔ a = b := by
  rw [← Int32.toInt_inj, on_int ha, on_int hb]; omega
theorem b8_at {cs : List Int32} {i : Nat} (h : i < 2 ^ 31) : (B8 cs).getD (Int32.ofNat i).toNatClampNeg (.int 0) = .int ((cs.getD i 0).toInt8.toInt32) := by
  rw [on_nat h]
  simp only [B8, List.getD_eq_getElem?_getD, List.getElem?_map]
  cases cs[i]? <;> rfl
theorem lo_back {c : Int32} (h : ¬ c < 0 ∧ ¬ (255 : Int32) < c) : ((c.toInt8.toInt32) &&& (255 : Int32)).toUInt32.toUInt16.toUInt32.toInt32 = c ∧ nar .char c = c := by
  have t : ∀ k : Fin 256, ((((Int32.ofNat k.val).toInt8.toInt32) &&& (255 : Int32)).toUInt32.toUInt16.toUInt32.toInt32 = Int32.ofNat k.val) ∧ nar .char (Int32.ofNat k.val) = Int32.ofNat k.val := by decide +kernel
  have h1 : ¬ c.toInt < 0 := fun q => h.1 (Int32.lt_iff_toInt_lt.mpr q)
  have h2 : ¬ 255 < c.toInt := fun q => h.2 (Int32.lt_iff_toInt_lt.mpr q)
  have e : c = Int32.ofNat c.toInt.toNat := by apply Int32.toInt_inj.mp; rw [on_int (by omega)]; omega
  rw [e]; exact t ⟨c.toInt.toNat, by omega⟩
theorem getD_lo {cs : List Int32} (h : ∀ c ∈ cs, ¬ c < 0 ∧ ¬ (255 : Int32) < c) (i : Nat) : ¬ cs.getD i 0 < 0 ∧ ¬ (255 : Int32) < cs.getD i 0 := by
  rw [List.getD_eq_getElem?_getD]
  by_cases q : i < cs.length
  · rw [List.getElem?_eq_getElem q]; exact h _ (List.getElem_mem q)
  · rw [List.getElem?_eq_none (by omega)]; decide
def ONES : List Value := (List.range 100).map fun r => .int (Int32.ofNat (48 + r % 10))
theorem ones_at {r : Nat} (h : r < 100) : ONES.getD (Int32.ofNat r).toNatClampNeg (.int 0) = .int (Int32.ofNat (48 + r % 10)) := by
  rw [on_nat (by omega)]; simp only [ONES, List.getD_eq_getElem?_getD, List.getElem?_map, List.getElem?_range h]; rfl
theorem of_nn {y : Int32} (h : 0 ≤ y.toInt) : ∃ n, n < 2 ^ 31 ∧ y = Int32.ofNat n := by
  have l := Int32.toInt_lt y
  exact ⟨y.toInt.toNat, by omega, by apply Int32.toInt_inj.mp; rw [on_int (by omega)]; omega⟩
theorem rem_on (x : Int32) {M : Nat} (hM : M + 1 < 2 ^ 31) : ∃ N, N ≤ M ∧ (x &&& (2147483647 : Int32)) % Int32.ofNat (M + 1) = Int32.ofNat N := by
  obtain ⟨n, h1, h2⟩ := of_nn (c_and x (2147483647 : Int32) (by decide)).1
  rw [h2]
  have q := (c_irem (Int32.ofNat n) (Int32.ofNat (M + 1)) ((M + 1 : Nat) : Int) (on_int hM)).1 (by rw [on_int h1]; omega)
  rw [on_int h1] at q
  refine ⟨n % (M + 1), Nat.le_of_lt_succ (Nat.mod_lt _ (Nat.succ_pos _)), ?_⟩
  apply Int32.toInt_inj.mp
  have l : n % (M + 1) < M + 1 := Nat.mod_lt n (Nat.succ_pos M)
  rw [q, on_int (by omega)]; rfl
theorem mask3c (x : Int32) : (x &&& (3 : Int32)) = (0 : Int32) ∨ (x &&& (3 : Int32)) = (1 : Int32) ∨ (x &&& (3 : Int32)) = (2 : Int32) ∨ (x &&& (3 : Int32)) = (3 : Int32) := by
  have h := c_and x (3 : Int32) (by decide)
  obtain ⟨n, h1, h2⟩ := of_nn h.1
  have e3 : (3 : Int32).toInt = 3 := rfl
  rw [h2, on_int h1, e3] at h
  rw [h2]
  have t : ∀ n : Fin 4, Int32.ofNat n.val = (0 : Int32) ∨ Int32.ofNat n.val = (1 : Int32) ∨ Int32.ofNat n.val = (2 : Int32) ∨ Int32.ofNat n.val = (3 : Int32) := by decide
  exact t ⟨n, by omega⟩
theorem ch_lo (x : Int32) : ¬ ((x &&& (255 : Int32)).toUInt32.toUInt16.toUInt32.toInt32) < 0 ∧ ¬ (255 : Int32) < ((x &&& (255 : Int32)).toUInt32.toUInt16.toUInt32.toInt32) := by
  obtain ⟨n, h1, h2⟩ := of_nn (c_and x (255 : Int32) (by decide)).1
  have h := (c_and x (255 : Int32) (by decide)).2
  rw [h2, on_int h1] at h
  rw [h2]
  have e : (255 : Int32).toInt = 255 := rfl
  have t : ∀ n : Fin 256, ¬ ((Int32.ofNat n.val).toUInt32.toUInt16.toUInt32.toInt32) < 0 ∧ ¬ (255 : Int32) < ((Int32.ofNat n.val).toUInt32.toUInt16.toUInt32.toInt32) := by decide +kernel
  exact t ⟨n, by omega⟩
section OwnStart
variable {args : Array Value} {s : State} {t u : Term} {a : Addr}
theorem own_eqI {n : Int32} (h : (Cond.eq t (.int n)).value args s none s [] = some true) : t.eval args s none [] s = some (.int n) := by
  obtain ⟨x, y, h1, h2, k1, k2⟩ := cmp_v (Or.inl h)
  cases (Term.int_eval n).symm.trans h2
  obtain ⟨z, rfl⟩ := k2
  have q := gotT (Cond.eq_ints h1 h2) h
  subst q; exact h1
theorem own_el {v : Value} {j : Int32} {i : Nat} {c : Cell} (h : (Term.elem t (.int j)).eval args s none [] s = some v) (ev : t.eval args s none [] s = some (.ref a)) (hc : s.heap[a]? = some c) (hi : j.toNatClampNeg = i) : c.slots[i]? = some v := by
  subst hi; exact (elem_in h ev (Term.int_eval j) hc).2
theorem own_arv {ty : FieldType} {z : Int32} {vs : List Value} {dv : Value} (hf : Fit s) (ev : t.eval args s none [] s = some (.ref a)) (hA : (Cond.arrayOf t ty).value args s none s [] = some true) (hl : (Cond.eq (.length t) (.int z)).value args s none s [] = some true) (hz : ¬ z < 0) (hn : z.toNatClampNeg = vs.length) (H : ∀ c : Cell, s.heap[a]? = some c → HasL c 0 vs) : ∃ k, Arv s s.heap a k ty z vs dv := by
  obtain ⟨c, A⟩ := Arr.start ev hA
  have e := own_eqI hl
  have hat := Arr.fin (Vm.Alike.refl _) A
  by_cases q : c.slots.size < 2 ^ 31
  · rw [len_f ev hat q] at e
    exact ⟨_, Arv.start hf A q (by cases e; rfl) hz hn (H c A.1)⟩
  · simp [Term.eval, ev, hat, q] at e
end OwnStart
theorem hasL_of {c : Cell} : ∀ (vs : List Value) (i : Nat), (∀ j (h : j < vs.length), c.slots[i + j]? = some vs[j]) → HasL c i vs
  | [], _, _ => trivial
  | v :: r, i, H => ⟨H 0 (by simp), hasL_of r (i + 1) fun j hj => by
      have := H (j + 1) (by simpa using hj)
      rw [show i + 1 + j = i + (j + 1) by omega]; simpa using this⟩
/-- a table of bytes in a static: its length and what each place holds -/
theorem own_tbl {args : Array Value} {s : State} {t rhs : Term} {F : Nat → Nat} (hf : Fit s) (hx : (Cond.exactly t "[B").value args s none s [] = some true) (hl : (Cond.eq (.length t) (.int 100)).value args s none s [] = some true) (harr : (Cond.arrayClass .byte).before args s = true)
    (ha : (Cond.all t (.eq (.elem t (.index 0)) rhs)).value args s none s [] = some true) (hev : ∀ idx, t.eval args s none idx s = t.eval args s none [] s) (hrhs : ∀ r, r < 100 → rhs.eval args s none [r] s = some (.int (Int32.ofNat (F r)))) :
    ∃ a k, t.eval args s none [] s = some (.ref a) ∧ Arv s s.heap a k .byte 100 ((List.range 100).map fun r => .int (Int32.ofNat (F r))) (.int 0) := by
  obtain ⟨d, cB, D, kB, ev, hfcB, hcellD, hkB, hstatD, hclsD, -⟩ := Cond.exactly_spec (beq_iff_eq.mpr hx : (Cond.exactly t "[B").holds args s none s [] = true)
  have e := own_eqI hl
  obtain ⟨d', D', ev', harrAt, hlen⟩ := Term.length_spec e
  cases ev.symm.trans ev'
  obtain ⟨hcellD', hknD, -, -⟩ := State.arrayAt?_spec harrAt
  cases hcellD.symm.trans hcellD'
  obtain ⟨cB', kB', comp, hnameB, hkB', hkindB⟩ := Cond.arrayClass_spec harr
  have eBA : ("[" ++ FieldType.toString .byte) = "[B" := by decide
  rw [eBA] at hnameB
  cases hfcB.symm.trans hnameB
  cases hkB.symm.trans hkB'
  have A : Arr s s.heap d D .byte := ⟨hcellD, ⟨(fun q h => by rw [h] at hstatD; cases hstatD), kB, (by rw [hclsD]; exact hkB), comp, hkindB⟩, hknD⟩
  by_cases q : D.slots.size < 2 ^ 31
  · rw [len_f ev harrAt q] at e
    have hsz : D.slots.size.toInt32 = 100 := Value.int.inj (Option.some.inj e)
    have hs : D.slots.size = 100 := by
      have h2 : Int32.ofNat D.slots.size = Int32.ofNat 100 := hsz
      have h3 := congrArg Int32.toInt h2
      rw [Int32.toInt_ofNat_of_lt q, Int32.toInt_ofNat_of_lt (by decide)] at h3; omega
    refine ⟨d, D.cls, ev, Arv.start hf A q hsz (by decide) (by simp) (hasL_of _ 0 fun j hj => ?_)⟩
    have hj' : j < 100 := by simpa using hj
    have h := Cond.all_elim ev harrAt ha j (by omega)
    have nn : ¬ Int32.ofNat j < 0 := by rw [Int32.lt_iff_toInt_lt, Int32.toInt_ofNat_of_lt (by omega)]; show ¬ (j : Int) < 0; omega
    have hjn : (Int32.ofNat j).toNatClampNeg = j := by show (Int32.ofNat j).toInt.toNat = j; rw [Int32.toInt_ofNat_of_lt (by omega)]; rfl
    have eL := elem_f (t := t) (a := .index 0) (idx := [j]) (j := Int32.ofNat j) ((hev [j]).trans ev) rfl harrAt nn
    rw [hjn] at eL
    have eR := eqv_i (hrhs j hj') h
    rw [eL] at eR
    simpa using eR
  · simp [Term.eval, ev, harrAt, q] at e
theorem ones_num : ∀ r, r < 100 → (48 : Int32) + Int32.ofNat r % 10 = Int32.ofNat (48 + r % 10) := by decide +kernel
theorem own_selp2 {s : State} {a0 : Array Value} {y z : MethodName} {C : String} (hi : (Jvm.Cond.instanceMethod y).before a0 s = true) (hp : (Jvm.Cond.privateMethod y).before a0 s = true) (hs : (Jvm.Cond.selects C z z).before a0 s = true) (hc : z.cls = y.cls) (hy : y.cls ≠ "java/lang/invoke/MethodHandle" ∧ y.cls ≠ "java/lang/invoke/VarHandle") : (Jvm.Cond.selects y.cls y y).before a0 s = true := by
  obtain ⟨c2, r2, m2, q1, q2, q3, q4, kP, hkP, hkPi⟩ := Cond.selects_spec hs
  have hcz := findClass_of_methodNamed q3
  rw [hc] at hcz
  exact selects_self_of_private hcz hkP hkPi (Cond.privateMethod_at hp) hi hy
section OwnRef
variable {p : Program} {l : Launch} {e : Env} {R : Room} {s Z : State} {m : MethodId} {args a0 : Array Value} {below : List Frame} {meth : Method} {c : Code} {T : State} {locs : List Loc} {cells slots : Nat} {h : Heap}
/-- getfield by a resolved entry -/
theorem own_getRef (X : Stand p l e R s m args below meth c T locs cells slots) (hx : p.tables.exec = Jvm.exec) (hZ : Z.Warmed39 s.vm) {own O n d : String} {index : Nat} (hown : s.vm.findClass own = some m.cls) (w : (Cond.fieldRef own index O n d).before a0 Z = true)
    (eT : T.heap = h) {a : Addr} {v : Value} (F : Fld Z h a O n d v) {g : JFrame} (hg : g.method = m) {rest : List Value} (hs : g.stack = .ref a :: rest) (hd : decode c.code g.pc = .ok (.getfield index, 3)) :
    ∃ T', Stand p l e R s m args below meth c T' locs cells slots ∧ T'.heap = h ∧ ∀ target, Steps p.tables e below (T'.setTop { g with pc := g.pc + 3, stack := v :: rest }) target → Steps p.tables e below (T.setTop g) target := by
  obtain ⟨cell, cf, k, i, f, h1, h2, h3, h4, -, -, h7⟩ := F
  have hW : Z.Warmed39 T.vm := wtrans hZ X.warmed
  have hf : T.vm.findClass own = some m.cls := by rw [X.warmed.alike.findClass]; exact hown
  obtain ⟨c', k', i', f', hi, hr⟩ := Cond.fieldRef_spec (s := Z.setVm T.vm) (cur := m.cls) hf (Cond.fieldRef_warmed39 hW w)
  obtain ⟨k2, q, -⟩ := State.fieldFound?_setVm (s := Z) hW.alike h2
  cases hi.symm.trans q
  exact ⟨T, X, eT, fun target k => (X.getfieldR hx hg hr h3 hs (by rw [eT]; exact h1) h4 h7 hd (Steps.refl _)).trans k⟩
end OwnRef
/-- the texts of EL, all shorter than 16 -/
def EWs (Z : State) (a0 : Array Value) (EL : List (String × Nat)) : Prop := ∀ p ∈ EL, ∃ text : String, (Cond.stringLink p.1 p.2 text).before a0 Z = true ∧ (∀ c ∈ text.toList, c.toNat < 256) ∧ text.toList.length < 16
theorem EWs.nil {Z : State} {a0 : Array Value} : EWs Z a0 [] := fun _ hp => by cases hp
theorem EWs.cons {Z : State} {a0 : Array Value} {EL : List (String × Nat)} {own text : String} {index : Nat} (w : (Cond.stringLink own index text).before a0 Z = true) (ht : ∀ c ∈ text.toList, c.toNat < 256) (hl : text.toList.length < 16) (E : EWs Z a0 EL) : EWs Z a0 ((own, index) :: EL) := fun p hp => by
  rcases List.mem_cons.mp hp with rfl | hp
  · exact ⟨text, w, ht, hl⟩
  · exact E p hp
/-- a byte[] of 16 or more is no constant's -/
theorem safe_len {Z : State} {a0 : Array Value} {EL : List (String × Nat)} {vm : Vm} {h : Heap} {x : Addr} {kc : ClassId} {cap : Nat} {vs : List Value} {dv : Value} (hZ : Z.Warmed39 vm) (w : EWs Z a0 EL) (G : Arv Z h x kc .byte (Int32.ofNat cap) vs dv) (h1 : 16 ≤ cap) (h2 : cap < 2 ^ 31) : Safe Z EL vm h x := fun B => by
  obtain ⟨cl, ⟨A1, ⟨-, kA, hkA, compA, hkindA⟩, -⟩, -, S, -⟩ := G
  obtain ⟨kA', hkA', ekA⟩ := hZ.alike.2.2 _ _ hkA
  obtain ⟨p, hp, u, a, hb, q, -, F, rfl | rfl⟩ := B
  · cases (show h[q.sa]? = some q.sC from F.ha).symm.trans A1
    obtain ⟨cS, ⟨-, -, e⟩, ⟨kS, g1, g2, -⟩, -⟩ := F
    subst e
    cases (show vm.classes[q.sC.cls]? = some kS from g1).symm.trans hkA'
    rw [ekA] at g2
    cases hkindA.symm.trans g2
  · cases (show h[q.sd]? = some q.SA from F.hd).symm.trans A1
    obtain ⟨text, wl, ht, hlen⟩ := w p hp
    obtain ⟨c, k', cf, i, hc', hk', hcf', hpool, hu, -⟩ := hb
    obtain ⟨k, cf0, i0, units0, hk, hcf, hp0, hu0, -, htext, -⟩ := Cond.stringLink_spec (args := a0) (s := Wst Z vm h) hc' (mvS (s := { Z with heap := h }) hZ wl)
    cases hk'.symm.trans (show vm.classes[c]? = some k from hk)
    cases hcf'.symm.trans hcf
    cases hpool.symm.trans hp0
    cases hu.symm.trans hu0
    obtain ⟨cS, -, -, -, hbyt⟩ := F
    have hsz : q.SA.slots.size = u.size := by rw [hbyt, SBG.stringBytes_lat (Jvm.ClassFile.lat_of_text htext ht), Array.size_map]
    have hul : u.size = text.toList.length := by rw [← Array.length_toList, Jvm.ClassFile.units_of_text htext ht, List.length_map]
    rw [on_nat h2] at S
    omega
theorem ne_arvt {Z : State} {h : Heap} {a b : Addr} {k k' : ClassId} {ty ty' : FieldType} {z z' : Int32} {vs vs' : List Value} {dv dv' : Value} (F : Arv Z h a k ty z vs dv) (G : Arv Z h b k' ty' z' vs' dv') (ht : ty ≠ ty') : a ≠ b := by
  rintro rfl
  obtain ⟨c, ⟨A1, ⟨-, kA, hkA, compA, hkindA⟩, -⟩, -⟩ := F
  obtain ⟨c', ⟨B1, ⟨-, kB, hkB, compB, hkindB⟩, -⟩, -⟩ := G
  cases A1.symm.trans B1
  cases hkA.symm.trans hkB
  have q := hkindA.symm.trans hkindB
  injection q with _ e
  exact ht e
/-- no text of EL is n long -/
def EWn (Z : State) (a0 : Array Value) (EL : List (String × Nat)) (n : Nat) : Prop := ∀ p ∈ EL, ∃ text : String, (Cond.stringLink p.1 p.2 text).before a0 Z = true ∧ (∀ c ∈ text.toList, c.toNat < 256) ∧ text.toList.length ≠ n
theorem EWn.nil {Z : State} {a0 : Array Value} {n : Nat} : EWn Z a0 [] n := fun _ hp => by cases hp
theorem EWn.cons {Z : State} {a0 : Array Value} {EL : List (String × Nat)} {own text : String} {index n : Nat} (w : (Cond.stringLink own index text).before a0 Z = true) (ht : ∀ c ∈ text.toList, c.toNat < 256) (hl : text.toList.length ≠ n) (E : EWn Z a0 EL n) : EWn Z a0 ((own, index) :: EL) n := fun p hp => by
  rcases List.mem_cons.mp hp with rfl | hp
  · exact ⟨text, w, ht, hl⟩
  · exact E p hp
abbrev HELP : List Int32 := [35, 32, 72, 69, 76, 80, 32]
abbrev TYP : List Int32 := [35, 32, 84, 89, 80, 69, 32]
abbrev BS2 : List Int32 := [92, 92]
abbrev BSN : List Int32 := [92, 110]
theorem HELP_len : HELP.length = 7 := rfl
theorem TYP_len : TYP.length = 7 := rfl
theorem BS2_len : BS2.length = 2 := rfl
theorem BSN_len : BSN.length = 2 := rfl
abbrev Lo (cs : List Int32) : Prop := ∀ c ∈ cs, ¬ c < 0 ∧ ¬ (255 : Int32) < c
theorem Lo_app {a b : List Int32} (h : Lo a) (k : Lo b) : Lo (a ++ b) := fun c hc => (List.mem_append.mp hc).elim (h c) (k c)
theorem Lo_one {c : Int32} (h : ¬ c < 0 ∧ ¬ (255 : Int32) < c) : Lo [c] := fun d hd => by rw [List.mem_singleton.mp hd]; exact h
/-- a sign as a help text writes it -/
def esc1 (c : Int32) : List Int32 := if c = 92 then [92, 92] else if c = 10 then [92, 110] else [c]
def escL (cs : List Int32) : List Int32 := cs.flatMap esc1
theorem esc1_len (c : Int32) : (esc1 c).length ≤ 2 := by unfold esc1; split; decide; split; decide; simp
theorem esc1_lo {c : Int32} (h : ¬ c < 0 ∧ ¬ (255 : Int32) < c) : Lo (esc1 c) := by
  unfold esc1; split
  · decide
  · split
    · decide
    · exact Lo_one h
theorem escL_nil : escL [] = [] := rfl
theorem escL_cons (c : Int32) (cs : List Int32) : escL (c :: cs) = esc1 c ++ escL cs := by simp [escL]
theorem escL_app (a b : List Int32) : escL (a ++ b) = escL a ++ escL b := by simp [escL]
theorem escL_len (cs : List Int32) : (escL cs).length ≤ 2 * cs.length := by
  induction cs with
  | nil => simp [escL]
  | cons c cs ih => rw [escL_cons, List.length_append, List.length_cons]; have := esc1_len c; omega
theorem escL_lo {cs : List Int32} (h : Lo cs) : Lo (escL cs) := by
  intro c hc
  obtain ⟨d, hd, hcd⟩ := List.mem_flatMap.mp hc
  exact esc1_lo (h d hd) c hcd
theorem escL_take {ds : List Int32} {k : Nat} (h : k < ds.length) : escL (ds.take (k + 1)) = escL (ds.take k) ++ esc1 (ds.getD k 0) := by
  rw [List.take_add_one, escL_app, List.getD_eq_getElem?_getD, List.getElem?_eq_getElem h]; simp [escL]
/-- es stands in ds from place o on -/
def SubT (ds : List Int32) (o : Nat) (es : List Int32) : Prop := ∃ a b, ds = a ++ (es ++ b) ∧ a.length = o
theorem SubT.len {ds es : List Int32} {o : Nat} (h : SubT ds o es) : o + es.length ≤ ds.length := by
  obtain ⟨a, b, rfl, rfl⟩ := h; simp
theorem SubT.left {ds es fs : List Int32} {o : Nat} (h : SubT ds o (es ++ fs)) : SubT ds o es := by
  obtain ⟨a, b, rfl, rfl⟩ := h; exact ⟨a, fs ++ b, by rw [List.append_assoc], rfl⟩
theorem SubT.right {ds es fs : List Int32} {o : Nat} (h : SubT ds o (es ++ fs)) : SubT ds (o + es.length) fs := by
  obtain ⟨a, b, rfl, rfl⟩ := h; exact ⟨a ++ es, b, by simp only [List.append_assoc], by simp⟩
theorem SubT.at {ds es : List Int32} {o k : Nat} (h : SubT ds o es) (hk : k < es.length) : SubT ds (o + k) [es.getD k 0] := by
  have e : es = es.take k ++ ([es.getD k 0] ++ es.drop (k + 1)) := by
    rw [List.getD_eq_getElem?_getD, List.getElem?_eq_getElem hk]; simp
  have h2 := h; rw [e] at h2
  have h3 := h2.right.left
  rwa [List.length_take, Nat.min_eq_left (Nat.le_of_lt hk)] at h3
theorem SubT.get {ds : List Int32} {o : Nat} {c : Int32} (h : SubT ds o [c]) : ds.getD o 0 = c := by
  obtain ⟨a, b, rfl, rfl⟩ := h; simp [List.getD_eq_getElem?_getD]
theorem esc_bs {c : Int32} (h : c = 92) : esc1 c = [92] ++ [92] := by simp [esc1, h]
theorem esc_nl {c : Int32} (h : ¬ c = 92) (k : c = 10) : esc1 c = [92] ++ [110] := by simp [esc1, k]
theorem esc_no {c : Int32} (h : ¬ c = 92) (k : ¬ c = 10) : esc1 c = [c] := by simp [esc1, h, k]
theorem rem3c (x : Int32) : ((x &&& (2147483647 : Int32)) % (3 : Int32)) = (0 : Int32) ∨ ((x &&& (2147483647 : Int32)) % (3 : Int32)) = (1 : Int32) ∨ ((x &&& (2147483647 : Int32)) % (3 : Int32)) = (2 : Int32) := by
  obtain ⟨N, h, e⟩ := rem_on x (M := 2) (by decide)
  have e' : (x &&& (2147483647 : Int32)) % (3 : Int32) = Int32.ofNat N := e
  rw [e']
  have t : ∀ n : Fin 3, Int32.ofNat n.val = (0 : Int32) ∨ Int32.ofNat n.val = (1 : Int32) ∨ Int32.ofNat n.val = (2 : Int32) := by decide
  exact t ⟨N, by omega⟩
abbrev CNT : List Int32 := [99, 111, 117, 110, 116, 101, 114]
theorem b8CNT : B8 CNT = [.int 99, .int 111, .int 117, .int 110, .int 116, .int 101, .int 114] := by rfl
abbrev GAU : List Int32 := [103, 97, 117, 103, 101]
theorem b8GAU : B8 GAU = [.int 103, .int 97, .int 117, .int 103, .int 101] := by rfl
abbrev HIS : List Int32 := [104, 105, 115, 116, 111, 103, 114, 97, 109]
theorem b8HIS : B8 HIS = [.int 104, .int 105, .int 115, .int 116, .int 111, .int 103, .int 114, .int 97, .int 109] := by rfl
def TX (q0 q1 : Int32) (hs wd : List Int32) : List Int32 := (HELP ++ ([q0] ++ ([q1] ++ ([(32 : Int32)] ++ (escL hs ++ ([(10 : Int32)] ++ (TYP ++ ([q0] ++ ([q1] ++ ([(32 : Int32)] ++ (wd ++ ([(10 : Int32)] ++ ([q0] ++ ([q1] ++ ([(32 : Int32)] ++ ([(55 : Int32)] ++ [(10 : Int32)]))))))))))))))))
theorem TX_eq (q0 q1 : Int32) (hs wd : List Int32) : (((((((((((((((([] : List Int32) ++ HELP) ++ ([q0, q1] : List Int32)) ++ [(32 : Int32)]) ++ escL hs) ++ [(10 : Int32)]) ++ TYP) ++ ([q0, q1] : List Int32)) ++ [(32 : Int32)]) ++ wd) ++ [(10 : Int32)]) ++ ([q0, q1] : List Int32)) ++ ([] : List Int32)) ++ [(32 : Int32)]) ++ [(55 : Int32)]) ++ [(10 : Int32)]) = TX q0 q1 hs wd := by simp [TX]
theorem TX_len (q0 q1 : Int32) (hs wd : List Int32) : (TX q0 q1 hs wd).length = 27 + (escL hs).length + wd.length := by simp only [TX, List.length_append, List.length_cons, List.length_nil, HELP_len, TYP_len] <;> omega
theorem TX_lo {q0 q1 : Int32} {hs wd : List Int32} (h0 : ¬ q0 < 0 ∧ ¬ (255 : Int32) < q0) (h1 : ¬ q1 < 0 ∧ ¬ (255 : Int32) < q1) (h2 : Lo hs) (h3 : Lo wd) : Lo (TX q0 q1 hs wd) := (Lo_app (by decide) (Lo_app (Lo_one h0) (Lo_app (Lo_one h1) (Lo_app (by decide) (Lo_app (escL_lo h2) (Lo_app (by decide) (Lo_app (by decide) (Lo_app (Lo_one h0) (Lo_app (Lo_one h1) (Lo_app (by decide) (Lo_app h3 (Lo_app (by decide) (Lo_app (Lo_one h0) (Lo_app (Lo_one h1) (Lo_app (by decide) (Lo_app (by decide) (by decide)))))))))))))))))
theorem TS_0 (q0 q1 : Int32) (hs wd : List Int32) {o : Nat} (h : o = 0) : SubT (TX q0 q1 hs wd) o (HELP) := ⟨([] : List Int32), ([q0] ++ ([q1] ++ ([(32 : Int32)] ++ (escL hs ++ ([(10 : Int32)] ++ (TYP ++ ([q0] ++ ([q1] ++ ([(32 : Int32)] ++ (wd ++ ([(10 : Int32)] ++ ([q0] ++ ([q1] ++ ([(32 : Int32)] ++ ([(55 : Int32)] ++ [(10 : Int32)]))))))))))))))), by simp only [TX, List.append_assoc, List.nil_append, List.append_nil], by subst h; (try simp only [List.length_append, List.length_cons, List.length_nil, HELP_len, TYP_len]) <;> omega⟩
theorem TS_1 (q0 q1 : Int32) (hs wd : List Int32) {o : Nat} (h : o = 7) : SubT (TX q0 q1 hs wd) o ([q0]) := ⟨HELP, ([q1] ++ ([(32 : Int32)] ++ (escL hs ++ ([(10 : Int32)] ++ (TYP ++ ([q0] ++ ([q1] ++ ([(32 : Int32)] ++ (wd ++ ([(10 : Int32)] ++ ([q0] ++ ([q1] ++ ([(32 : Int32)] ++ ([(55 : Int32)] ++ [(10 : Int32)])))))))))))))), by simp only [TX, List.append_assoc, List.nil_append, List.append_nil], by subst h; (try simp only [List.length_append, List.length_cons, List.length_nil, HELP_len, TYP_len]) <;> omega⟩
theorem TS_2 (q0 q1 : Int32) (hs wd : List Int32) {o : Nat} (h : o = 8) : SubT (TX q0 q1 hs wd) o ([q1]) := ⟨(HELP ++ [q0]), ([(32 : Int32)] ++ (escL hs ++ ([(10 : Int32)] ++ (TYP ++ ([q0] ++ ([q1] ++ ([(32 : Int32)] ++ (wd ++ ([(10 : Int32)] ++ ([q0] ++ ([q1] ++ ([(32 : Int32)] ++ ([(55 : Int32)] ++ [(10 : Int32)]))))))))))))), by simp only [TX, List.append_assoc, List.nil_append, List.append_nil], by subst h; (try simp only [List.length_append, List.length_cons, List.length_nil, HELP_len, TYP_len]) <;> omega⟩
theorem TS_3 (q0 q1 : Int32) (hs wd : List Int32) {o : Nat} (h : o = 9) : SubT (TX q0 q1 hs wd) o ([(32 : Int32)]) := ⟨(HELP ++ ([q0] ++ [q1])), (escL hs ++ ([(10 : Int32)] ++ (TYP ++ ([q0] ++ ([q1] ++ ([(32 : Int32)] ++ (wd ++ ([(10 : Int32)] ++ ([q0] ++ ([q1] ++ ([(32 : Int32)] ++ ([(55 : Int32)] ++ [(10 : Int32)])))))))))))), by simp only [TX, List.append_assoc, List.nil_append, List.append_nil], by subst h; (try simp only [List.length_append, List.length_cons, List.length_nil, HELP_len, TYP_len]) <;> omega⟩
theorem TS_4 (q0 q1 : Int32) (hs wd : List Int32) {o : Nat} (h : o = 10) : SubT (TX q0 q1 hs wd) o (escL hs) := ⟨(HELP ++ ([q0] ++ ([q1] ++ [(32 : Int32)]))), ([(10 : Int32)] ++ (TYP ++ ([q0] ++ ([q1] ++ ([(32 : Int32)] ++ (wd ++ ([(10 : Int32)] ++ ([q0] ++ ([q1] ++ ([(32 : Int32)] ++ ([(55 : Int32)] ++ [(10 : Int32)]))))))))))), by simp only [TX, List.append_assoc, List.nil_append, List.append_nil], by subst h; (try simp only [List.length_append, List.length_cons, List.length_nil, HELP_len, TYP_len]) <;> omega⟩
theorem TS_5 (q0 q1 : Int32) (hs wd : List Int32) {o : Nat} (h : o = 10 + (escL hs).length) : SubT (TX q0 q1 hs wd) o ([(10 : Int32)]) := ⟨(HELP ++ ([q0] ++ ([q1] ++ ([(32 : Int32)] ++ escL hs)))), (TYP ++ ([q0] ++ ([q1] ++ ([(32 : Int32)] ++ (wd ++ ([(10 : Int32)] ++ ([q0] ++ ([q1] ++ ([(32 : Int32)] ++ ([(55 : Int32)] ++ [(10 : Int32)])))))))))), by simp only [TX, List.append_assoc, List.nil_append, List.append_nil], by subst h; (try simp only [List.length_append, List.length_cons, List.length_nil, HELP_len, TYP_len]) <;> omega⟩
theorem TS_6 (q0 q1 : Int32) (hs wd : List Int32) {o : Nat} (h : o = 11 + (escL hs).length) : SubT (TX q0 q1 hs wd) o (TYP) := ⟨(HELP ++ ([q0] ++ ([q1] ++ ([(32 : Int32)] ++ (escL hs ++ [(10 : Int32)]))))), ([q0] ++ ([q1] ++ ([(32 : Int32)] ++ (wd ++ ([(10 : Int32)] ++ ([q0] ++ ([q1] ++ ([(32 : Int32)] ++ ([(55 : Int32)] ++ [(10 : Int32)]))))))))), by simp only [TX, List.append_assoc, List.nil_append, List.append_nil], by subst h; (try simp only [List.length_append, List.length_cons, List.length_nil, HELP_len, TYP_len]) <;> omega⟩
theorem TS_7 (q0 q1 : Int32) (hs wd : List Int32) {o : Nat} (h : o = 18 + (escL hs).length) : SubT (TX q0 q1 hs wd) o ([q0]) := ⟨(HELP ++ ([q0] ++ ([q1] ++ ([(32 : Int32)] ++ (escL hs ++ ([(10 : Int32)] ++ TYP)))))), ([q1] ++ ([(32 : Int32)] ++ (wd ++ ([(10 : Int32)] ++ ([q0] ++ ([q1] ++ ([(32 : Int32)] ++ ([(55 : Int32)] ++ [(10 : Int32)])))))))), by simp only [TX, List.append_assoc, List.nil_append, List.append_nil], by subst h; (try simp only [List.length_append, List.length_cons, List.length_nil, HELP_len, TYP_len]) <;> omega⟩
theorem TS_8 (q0 q1 : Int32) (hs wd : List Int32) {o : Nat} (h : o = 19 + (escL hs).length) : SubT (TX q0 q1 hs wd) o ([q1]) := ⟨(HELP ++ ([q0] ++ ([q1] ++ ([(32 : Int32)] ++ (escL hs ++ ([(10 : Int32)] ++ (TYP ++ [q0]))))))), ([(32 : Int32)] ++ (wd ++ ([(10 : Int32)] ++ ([q0] ++ ([q1] ++ ([(32 : Int32)] ++ ([(55 : Int32)] ++ [(10 : Int32)]))))))), by simp only [TX, List.append_assoc, List.nil_append, List.append_nil], by subst h; (try simp only [List.length_append, List.length_cons, List.length_nil, HELP_len, TYP_len]) <;> omega⟩
theorem TS_9 (q0 q1 : Int32) (hs wd : List Int32) {o : Nat} (h : o = 20 + (escL hs).length) : SubT (TX q0 q1 hs wd) o ([(32 : Int32)]) := ⟨(HELP ++ ([q0] ++ ([q1] ++ ([(32 : Int32)] ++ (escL hs ++ ([(10 : Int32)] ++ (TYP ++ ([q0] ++ [q1])))))))), (wd ++ ([(10 : Int32)] ++ ([q0] ++ ([q1] ++ ([(32 : Int32)] ++ ([(55 : Int32)] ++ [(10 : Int32)])))))), by simp only [TX, List.append_assoc, List.nil_append, List.append_nil], by subst h; (try simp only [List.length_append, List.length_cons, List.length_nil, HELP_len, TYP_len]) <;> omega⟩
theorem TS_10 (q0 q1 : Int32) (hs wd : List Int32) {o : Nat} (h : o = 21 + (escL hs).length) : SubT (TX q0 q1 hs wd) o (wd) := ⟨(HELP ++ ([q0] ++ ([q1] ++ ([(32 : Int32)] ++ (escL hs ++ ([(10 : Int32)] ++ (TYP ++ ([q0] ++ ([q1] ++ [(32 : Int32)]))))))))), ([(10 : Int32)] ++ ([q0] ++ ([q1] ++ ([(32 : Int32)] ++ ([(55 : Int32)] ++ [(10 : Int32)]))))), by simp only [TX, List.append_assoc, List.nil_append, List.append_nil], by subst h; (try simp only [List.length_append, List.length_cons, List.length_nil, HELP_len, TYP_len]) <;> omega⟩
theorem TS_11 (q0 q1 : Int32) (hs wd : List Int32) {o : Nat} (h : o = 21 + (escL hs).length + wd.length) : SubT (TX q0 q1 hs wd) o ([(10 : Int32)]) := ⟨(HELP ++ ([q0] ++ ([q1] ++ ([(32 : Int32)] ++ (escL hs ++ ([(10 : Int32)] ++ (TYP ++ ([q0] ++ ([q1] ++ ([(32 : Int32)] ++ wd)))))))))), ([q0] ++ ([q1] ++ ([(32 : Int32)] ++ ([(55 : Int32)] ++ [(10 : Int32)])))), by simp only [TX, List.append_assoc, List.nil_append, List.append_nil], by subst h; (try simp only [List.length_append, List.length_cons, List.length_nil, HELP_len, TYP_len]) <;> omega⟩
theorem TS_12 (q0 q1 : Int32) (hs wd : List Int32) {o : Nat} (h : o = 22 + (escL hs).length + wd.length) : SubT (TX q0 q1 hs wd) o ([q0]) := ⟨(HELP ++ ([q0] ++ ([q1] ++ ([(32 : Int32)] ++ (escL hs ++ ([(10 : Int32)] ++ (TYP ++ ([q0] ++ ([q1] ++ ([(32 : Int32)] ++ (wd ++ [(10 : Int32)]))))))))))), ([q1] ++ ([(32 : Int32)] ++ ([(55 : Int32)] ++ [(10 : Int32)]))), by simp only [TX, List.append_assoc, List.nil_append, List.append_nil], by subst h; (try simp only [List.length_append, List.length_cons, List.length_nil, HELP_len, TYP_len]) <;> omega⟩
theorem TS_13 (q0 q1 : Int32) (hs wd : List Int32) {o : Nat} (h : o = 23 + (escL hs).length + wd.length) : SubT (TX q0 q1 hs wd) o ([q1]) := ⟨(HELP ++ ([q0] ++ ([q1] ++ ([(32 : Int32)] ++ (escL hs ++ ([(10 : Int32)] ++ (TYP ++ ([q0] ++ ([q1] ++ ([(32 : Int32)] ++ (wd ++ ([(10 : Int32)] ++ [q0])))))))))))), ([(32 : Int32)] ++ ([(55 : Int32)] ++ [(10 : Int32)])), by simp only [TX, List.append_assoc, List.nil_append, List.append_nil], by subst h; (try simp only [List.length_append, List.length_cons, List.length_nil, HELP_len, TYP_len]) <;> omega⟩
theorem TS_14 (q0 q1 : Int32) (hs wd : List Int32) {o : Nat} (h : o = 24 + (escL hs).length + wd.length) : SubT (TX q0 q1 hs wd) o ([(32 : Int32)]) := ⟨(HELP ++ ([q0] ++ ([q1] ++ ([(32 : Int32)] ++ (escL hs ++ ([(10 : Int32)] ++ (TYP ++ ([q0] ++ ([q1] ++ ([(32 : Int32)] ++ (wd ++ ([(10 : Int32)] ++ ([q0] ++ [q1]))))))))))))), ([(55 : Int32)] ++ [(10 : Int32)]), by simp only [TX, List.append_assoc, List.nil_append, List.append_nil], by subst h; (try simp only [List.length_append, List.length_cons, List.length_nil, HELP_len, TYP_len]) <;> omega⟩
theorem TS_15 (q0 q1 : Int32) (hs wd : List Int32) {o : Nat} (h : o = 25 + (escL hs).length + wd.length) : SubT (TX q0 q1 hs wd) o ([(55 : Int32)]) := ⟨(HELP ++ ([q0] ++ ([q1] ++ ([(32 : Int32)] ++ (escL hs ++ ([(10 : Int32)] ++ (TYP ++ ([q0] ++ ([q1] ++ ([(32 : Int32)] ++ (wd ++ ([(10 : Int32)] ++ ([q0] ++ ([q1] ++ [(32 : Int32)])))))))))))))), [(10 : Int32)], by simp only [TX, List.append_assoc, List.nil_append, List.append_nil], by subst h; (try simp only [List.length_append, List.length_cons, List.length_nil, HELP_len, TYP_len]) <;> omega⟩
theorem TS_16 (q0 q1 : Int32) (hs wd : List Int32) {o : Nat} (h : o = 26 + (escL hs).length + wd.length) : SubT (TX q0 q1 hs wd) o ([(10 : Int32)]) := ⟨(HELP ++ ([q0] ++ ([q1] ++ ([(32 : Int32)] ++ (escL hs ++ ([(10 : Int32)] ++ (TYP ++ ([q0] ++ ([q1] ++ ([(32 : Int32)] ++ (wd ++ ([(10 : Int32)] ++ ([q0] ++ ([q1] ++ ([(32 : Int32)] ++ [(55 : Int32)]))))))))))))))), ([] : List Int32), by simp only [TX, List.append_assoc, List.nil_append, List.append_nil], by subst h; (try simp only [List.length_append, List.length_cons, List.length_nil, HELP_len, TYP_len]) <;> omega⟩
abbrev HW (a0 : Array Value) (Z : State) : Prop := ∀ d ∈ tables_1, d.before a0 Z = true
abbrev OW (w : Jvm.Cond) : Prop := ∀ {a0 : Array Value} {Z : State}, HW a0 Z → w.before a0 Z = true
theorem gw {w : Jvm.Cond} (i : Nat) (h : tables_1[i]? = some w) : OW w := fun hw => hw _ (List.mem_of_getElem? h)
theorem ow0 : OW (.classLink "com/example/rabotnik/rabotnik/coordinator/PrometheusTextFamilyPinLaw" (7 : Nat) "java/lang/String") := gw 0 rfl
theorem ow1 : OW (.instantiable "java/lang/String" (4 : Nat)) := gw 1 rfl
theorem ow2 : OW (.initialized "java/lang/String") := gw 2 rfl
theorem ow3 : OW (.arrayClass Jvm.ClassFile.FieldType.char) := gw 3 rfl
theorem ow4 : OW (.methodLink "com/example/rabotnik/rabotnik/coordinator/PrometheusTextFamilyPinLaw" (9 : Nat) mn52) := gw 4 rfl
theorem ow5 : OW (.instanceMethod mn52) := gw 5 rfl
theorem ow6 : OW (.code mn52 jdk_42_method_3_code (2 : Nat) (Option.none : Option Jvm.ClassFile.FieldType)) := gw 6 rfl
theorem ow11 : OW (.methodLink "java/lang/String" (1 : Nat) mn53) := gw 11 rfl
theorem ow12 : OW (.instanceMethod mn53) := gw 12 rfl
theorem ow13 : OW (.code mn53 object_method_1_code (1 : Nat) (Option.none : Option Jvm.ClassFile.FieldType)) := gw 13 rfl
theorem ow14 : OW (.fieldLink "java/lang/String" (38 : Nat) "java/lang/String" "COMPACT_STRINGS" "Z") := gw 14 rfl
theorem ow19 : OW (.arrayClass Jvm.ClassFile.FieldType.byte) := gw 19 rfl
theorem ow26 : OW (.fieldLink "java/lang/String" (15 : Nat) "java/lang/String" "coder" "B") := gw 26 rfl
theorem ow27 : OW (.laysFinal "java/lang/String" "java/lang/String" "coder" "B") := gw 27 rfl
theorem ow28 : OW (.fieldLink "java/lang/String" (9 : Nat) "java/lang/String" "value" "[B") := gw 28 rfl
theorem ow29 : OW (.laysFinal "java/lang/String" "java/lang/String" "value" "[B") := gw 29 rfl
theorem ow30 : OW (.constant "com/example/rabotnik/rabotnik/coordinator/PrometheusTextFamilyPinLaw" (12 : Nat) (2147483647 : Int32)) := gw 30 rfl
theorem ow31 : OW (.methodLink "com/example/rabotnik/rabotnik/coordinator/PrometheusTextFamilyPinLaw" (13 : Nat) mn40) := gw 31 rfl
theorem ow32 : OW (.static mn40) := gw 32 rfl
theorem ow33 : OW (.initialized "com/example/rabotnik/rabotnik/coordinator/PrometheusTextFamilyPinLaw") := gw 33 rfl
theorem ow34 : OW (.code mn40 method_3_code (2 : Nat) (Option.some Jvm.ClassFile.FieldType.char)) := gw 34 rfl
theorem ow35 : OW (.stringLink "com/example/rabotnik/rabotnik/coordinator/PrometheusTextFamilyPinLaw" (19 : Nat) "") := gw 35 rfl
theorem ow38 : OW (.fieldLink "com/example/rabotnik/rabotnik/coordinator/PrometheusTextFamilyPinLaw" (25 : Nat) "com/example/rabotnik/rabotnik/coordinator/PrometheusText$Type" "COUNTER" "Lcom/example/rabotnik/rabotnik/coordinator/PrometheusText$Type;") := gw 38 rfl
theorem ow39 : OW (.initialized "com/example/rabotnik/rabotnik/coordinator/PrometheusText$Type") := gw 39 rfl
theorem ow40 : OW (.laysStatic "com/example/rabotnik/rabotnik/coordinator/PrometheusText$Type" "COUNTER" "Lcom/example/rabotnik/rabotnik/coordinator/PrometheusText$Type;") := gw 40 rfl
theorem ow41 : OW (.stringLink "com/example/rabotnik/rabotnik/coordinator/PrometheusTextFamilyPinLaw" (37 : Nat) "counter") := gw 41 rfl
theorem ow42 : OW (.arrayOver (Jvm.ClassFile.FieldType.object "java/lang/String")) := gw 42 rfl
theorem ow43 : OW (.classLink "com/example/rabotnik/rabotnik/coordinator/PrometheusTextFamilyPinLaw" (43 : Nat) "com/example/rabotnik/rabotnik/coordinator/PrometheusText") := gw 43 rfl
theorem ow44 : OW (.instantiable "com/example/rabotnik/rabotnik/coordinator/PrometheusText" (2 : Nat)) := gw 44 rfl
theorem ow45 : OW (.initialized "com/example/rabotnik/rabotnik/coordinator/PrometheusText") := gw 45 rfl
theorem ow46 : OW (.methodLink "com/example/rabotnik/rabotnik/coordinator/PrometheusTextFamilyPinLaw" (45 : Nat) mn46) := gw 46 rfl
theorem ow47 : OW (.instanceMethod mn46) := gw 47 rfl
theorem ow48 : OW (.code mn46 prog_37_method_1_code (1 : Nat) (Option.none : Option Jvm.ClassFile.FieldType)) := gw 48 rfl
theorem ow49 : OW (.methodLink "com/example/rabotnik/rabotnik/coordinator/PrometheusText" (1 : Nat) mn53) := gw 49 rfl
theorem ow50 : OW (.classLink "com/example/rabotnik/rabotnik/coordinator/PrometheusText" (7 : Nat) "java/lang/StringBuilder") := gw 50 rfl
theorem ow51 : OW (.instantiable "java/lang/StringBuilder" (4 : Nat)) := gw 51 rfl
theorem ow52 : OW (.initialized "java/lang/StringBuilder") := gw 52 rfl
theorem ow53 : OW (.methodLink "com/example/rabotnik/rabotnik/coordinator/PrometheusText" (9 : Nat) mn33) := gw 53 rfl
theorem ow54 : OW (.instanceMethod mn33) := gw 54 rfl
theorem ow55 : OW (.code mn33 jdk_67_method_1_code (1 : Nat) (Option.none : Option Jvm.ClassFile.FieldType)) := gw 55 rfl
theorem ow56 : OW (.methodLink "java/lang/StringBuilder" (1 : Nat) mn11) := gw 56 rfl
theorem ow57 : OW (.instanceMethod mn11) := gw 57 rfl
theorem ow60 : OW (.initialized "java/lang/AbstractStringBuilder") := gw 60 rfl
theorem ow61 : OW (.code mn11 jdk_68_method_2_code (2 : Nat) (Option.none : Option Jvm.ClassFile.FieldType)) := gw 61 rfl
theorem ow62 : OW (.methodLink "java/lang/AbstractStringBuilder" (3 : Nat) mn53) := gw 62 rfl
theorem ow63 : OW (.fieldLink "java/lang/AbstractStringBuilder" (18 : Nat) "java/lang/String" "COMPACT_STRINGS" "Z") := gw 63 rfl
theorem ow64 : OW (.fieldLink "java/lang/AbstractStringBuilder" (15 : Nat) "java/lang/AbstractStringBuilder" "value" "[B") := gw 64 rfl
theorem ow65 : OW (.lays "java/lang/StringBuilder" "java/lang/AbstractStringBuilder" "value" "[B") := gw 65 rfl
theorem ow66 : OW (.fieldLink "java/lang/AbstractStringBuilder" (22 : Nat) "java/lang/AbstractStringBuilder" "coder" "B") := gw 66 rfl
theorem ow67 : OW (.lays "java/lang/StringBuilder" "java/lang/AbstractStringBuilder" "coder" "B") := gw 67 rfl
theorem ow68 : OW (.fieldLink "com/example/rabotnik/rabotnik/coordinator/PrometheusText" (10 : Nat) "com/example/rabotnik/rabotnik/coordinator/PrometheusText" "page" "Ljava/lang/StringBuilder;") := gw 68 rfl
theorem ow69 : OW (.laysFinal "com/example/rabotnik/rabotnik/coordinator/PrometheusText" "com/example/rabotnik/rabotnik/coordinator/PrometheusText" "page" "Ljava/lang/StringBuilder;") := gw 69 rfl
theorem ow70 : OW (.methodLink "com/example/rabotnik/rabotnik/coordinator/PrometheusTextFamilyPinLaw" (46 : Nat) mn48) := gw 70 rfl
theorem ow71 : OW (.declares mn48) := gw 71 rfl
theorem ow72 : OW (.instanceMethod mn48) := gw 72 rfl
theorem ow73 : OW (.selects "com/example/rabotnik/rabotnik/coordinator/PrometheusText" mn48 mn48) := gw 73 rfl
theorem ow74 : OW (.code mn48 prog_37_method_2_code (4 : Nat) (Option.none : Option Jvm.ClassFile.FieldType)) := gw 74 rfl
theorem ow75 : OW (.fieldLink "com/example/rabotnik/rabotnik/coordinator/PrometheusText" (16 : Nat) "com/example/rabotnik/rabotnik/coordinator/PrometheusText" "family" "Ljava/lang/String;") := gw 75 rfl
theorem ow76 : OW (.lays "com/example/rabotnik/rabotnik/coordinator/PrometheusText" "com/example/rabotnik/rabotnik/coordinator/PrometheusText" "family" "Ljava/lang/String;") := gw 76 rfl
theorem ow77 : OW (.stringLink "com/example/rabotnik/rabotnik/coordinator/PrometheusText" (20 : Nat) "# HELP ") := gw 77 rfl
theorem ow78 : OW (.methodLink "com/example/rabotnik/rabotnik/coordinator/PrometheusText" (22 : Nat) mn17) := gw 78 rfl
theorem ow79 : OW (.declares mn17) := gw 79 rfl
theorem ow80 : OW (.instanceMethod mn17) := gw 80 rfl
theorem ow81 : OW (.selects "java/lang/StringBuilder" mn17 mn17) := gw 81 rfl
theorem ow82 : OW (.code mn17 jdk_67_method_7_code (2 : Nat) (Option.some (Jvm.ClassFile.FieldType.object "java/lang/StringBuilder"))) := gw 82 rfl
theorem ow83 : OW (.methodLink "java/lang/StringBuilder" (29 : Nat) mn16) := gw 83 rfl
theorem ow84 : OW (.instanceMethod mn16) := gw 84 rfl
theorem ow85 : OW (.superclass "java/lang/StringBuilder" "java/lang/AbstractStringBuilder") := gw 85 rfl
theorem ow87 : OW (.code mn16 jdk_68_method_22_code (3 : Nat) (Option.some (Jvm.ClassFile.FieldType.object "java/lang/AbstractStringBuilder"))) := gw 87 rfl
theorem ow88 : OW (.methodLink "java/lang/AbstractStringBuilder" (32 : Nat) mn1) := gw 88 rfl
theorem ow89 : OW (.declares mn1) := gw 89 rfl
theorem ow90 : OW (.instanceMethod mn1) := gw 90 rfl
theorem ow91 : OW (.selects "java/lang/String" mn1 mn1) := gw 91 rfl
theorem ow92 : OW (.code mn1 jdk_42_method_54_code (1 : Nat) (Option.some Jvm.ClassFile.FieldType.int)) := gw 92 rfl
theorem ow93 : OW (.methodLink "java/lang/String" (335 : Nat) mn0) := gw 93 rfl
theorem ow94 : OW (.declares mn0) := gw 94 rfl
theorem ow95 : OW (.instanceMethod mn0) := gw 95 rfl
theorem ow96 : OW (.selects "java/lang/String" mn0 mn0) := gw 96 rfl
theorem ow97 : OW (.code mn0 jdk_42_method_152_code (1 : Nat) (Option.some Jvm.ClassFile.FieldType.byte)) := gw 97 rfl
theorem ow98 : OW (.fieldLink "java/lang/AbstractStringBuilder" (79 : Nat) "java/lang/AbstractStringBuilder" "count" "I") := gw 98 rfl
theorem ow99 : OW (.lays "java/lang/StringBuilder" "java/lang/AbstractStringBuilder" "count" "I") := gw 99 rfl
theorem ow100 : OW (.methodLink "java/lang/AbstractStringBuilder" (100 : Nat) mn12) := gw 100 rfl
theorem ow101 : OW (.instanceMethod mn12) := gw 101 rfl
theorem ow102 : OW (.privateMethod mn12) := gw 102 rfl
theorem ow103 : OW (.selects "java/lang/StringBuilder" mn12 mn12) := gw 103 rfl
theorem ow104 : OW (.code mn12 jdk_68_method_9_code (3 : Nat) (Option.none : Option Jvm.ClassFile.FieldType)) := gw 104 rfl
theorem ow105 : OW (.methodLink "java/lang/AbstractStringBuilder" (208 : Nat) mn15) := gw 105 rfl
theorem ow106 : OW (.instanceMethod mn15) := gw 106 rfl
theorem ow107 : OW (.privateMethod mn15) := gw 107 rfl
theorem ow108 : OW (.selects "java/lang/StringBuilder" mn15 mn15) := gw 108 rfl
theorem ow109 : OW (.code mn15 jdk_68_method_73_code (3 : Nat) (Option.none : Option Jvm.ClassFile.FieldType)) := gw 109 rfl
theorem ow110 : OW (.methodLink "java/lang/AbstractStringBuilder" (397 : Nat) mn13) := gw 110 rfl
theorem ow111 : OW (.instanceMethod mn13) := gw 111 rfl
theorem ow112 : OW (.privateMethod mn13) := gw 112 rfl
theorem ow113 : OW (.selects "java/lang/StringBuilder" mn13 mn13) := gw 113 rfl
theorem ow114 : OW (.code mn13 jdk_68_method_71_code (2 : Nat) (Option.none : Option Jvm.ClassFile.FieldType)) := gw 114 rfl
theorem ow115 : OW (.methodLink "java/lang/AbstractStringBuilder" (40 : Nat) mn0) := gw 115 rfl
theorem ow116 : OW (.methodLink "java/lang/AbstractStringBuilder" (399 : Nat) mn14) := gw 116 rfl
theorem ow117 : OW (.declares mn14) := gw 117 rfl
theorem ow118 : OW (.instanceMethod mn14) := gw 118 rfl
theorem ow119 : OW (.selects "java/lang/String" mn14 mn14) := gw 119 rfl
theorem ow120 : OW (.code mn14 jdk_42_method_147_code (4 : Nat) (Option.none : Option Jvm.ClassFile.FieldType)) := gw 120 rfl
theorem ow121 : OW (.methodLink "java/lang/String" (212 : Nat) mn54) := gw 121 rfl
theorem ow122 : OW (.static mn54) := gw 122 rfl
theorem ow123 : OW (.initialized "java/lang/System") := gw 123 rfl
theorem ow124 : OW (.native mn54) := gw 124 rfl
theorem ow125 : OW (.methodLink "com/example/rabotnik/rabotnik/coordinator/PrometheusText" (26 : Nat) mn20) := gw 125 rfl
theorem ow126 : OW (.declares mn20) := gw 126 rfl
theorem ow127 : OW (.instanceMethod mn20) := gw 127 rfl
theorem ow128 : OW (.selects "java/lang/StringBuilder" mn20 mn20) := gw 128 rfl
theorem ow129 : OW (.code mn20 jdk_67_method_14_code (2 : Nat) (Option.some (Jvm.ClassFile.FieldType.object "java/lang/StringBuilder"))) := gw 129 rfl
theorem ow130 : OW (.methodLink "java/lang/StringBuilder" (50 : Nat) mn19) := gw 130 rfl
theorem ow131 : OW (.instanceMethod mn19) := gw 131 rfl
theorem ow133 : OW (.code mn19 jdk_68_method_31_code (2 : Nat) (Option.some (Jvm.ClassFile.FieldType.object "java/lang/AbstractStringBuilder"))) := gw 133 rfl
theorem ow134 : OW (.methodLink "java/lang/AbstractStringBuilder" (83 : Nat) mn18) := gw 134 rfl
theorem ow135 : OW (.declares mn18) := gw 135 rfl
theorem ow136 : OW (.instanceMethod mn18) := gw 136 rfl
theorem ow137 : OW (.selects "java/lang/StringBuilder" mn18 mn18) := gw 137 rfl
theorem ow138 : OW (.code mn18 jdk_68_method_68_code (1 : Nat) (Option.some Jvm.ClassFile.FieldType.boolean)) := gw 138 rfl
theorem ow139 : OW (.methodLink "java/lang/AbstractStringBuilder" (191 : Nat) mn8) := gw 139 rfl
theorem ow140 : OW (.static mn8) := gw 140 rfl
theorem ow141 : OW (.initialized "java/lang/StringLatin1") := gw 141 rfl
theorem ow142 : OW (.code mn8 jdk_43_method_3_code (1 : Nat) (Option.some Jvm.ClassFile.FieldType.boolean)) := gw 142 rfl
theorem ow143 : OW (.methodLink "com/example/rabotnik/rabotnik/coordinator/PrometheusText" (29 : Nat) mn47) := gw 143 rfl
theorem ow144 : OW (.instanceMethod mn47) := gw 144 rfl
theorem ow145 : OW (.privateMethod mn47) := gw 145 rfl
theorem ow146 : OW (.code mn47 prog_37_method_9_code (5 : Nat) (Option.none : Option Jvm.ClassFile.FieldType)) := gw 146 rfl
theorem ow147 : OW (.methodLink "com/example/rabotnik/rabotnik/coordinator/PrometheusText" (131 : Nat) mn1) := gw 147 rfl
theorem ow148 : OW (.stringLink "com/example/rabotnik/rabotnik/coordinator/PrometheusText" (33 : Nat) "# TYPE ") := gw 148 rfl
theorem ow149 : OW (.methodLink "java/lang/AbstractStringBuilder" (104 : Nat) mn31) := gw 149 rfl
theorem ow150 : OW (.instanceMethod mn31) := gw 150 rfl
theorem ow151 : OW (.privateMethod mn31) := gw 151 rfl
theorem ow152 : OW (.selects "java/lang/StringBuilder" mn31 mn31) := gw 152 rfl
theorem ow153 : OW (.code mn31 jdk_68_method_10_code (6 : Nat) (Option.some Jvm.ClassFile.FieldType.int)) := gw 153 rfl
theorem ow154 : OW (.methodLink "java/lang/AbstractStringBuilder" (114 : Nat) mn30) := gw 154 rfl
theorem ow155 : OW (.static mn30) := gw 155 rfl
theorem ow156 : OW (.initialized "jdk/internal/util/ArraysSupport") := gw 156 rfl
theorem ow157 : OW (.code mn30 jdk_48_method_27_code (4 : Nat) (Option.some Jvm.ClassFile.FieldType.int)) := gw 157 rfl
theorem ow158 : OW (.methodLink "jdk/internal/util/ArraysSupport" (194 : Nat) mn28) := gw 158 rfl
theorem ow159 : OW (.static mn28) := gw 159 rfl
theorem ow160 : OW (.initialized "java/lang/Math") := gw 160 rfl
theorem ow161 : OW (.code mn28 jdk_29_method_65_code (2 : Nat) (Option.some Jvm.ClassFile.FieldType.int)) := gw 161 rfl
theorem ow162 : OW (.constant "jdk/internal/util/ArraysSupport" (200 : Nat) (2147483639 : Int32)) := gw 162 rfl
theorem ow163 : OW (.constant "java/lang/AbstractStringBuilder" (39 : Nat) (2147483647 : Int32)) := gw 163 rfl
theorem ow164 : OW (.methodLink "java/lang/AbstractStringBuilder" (108 : Nat) mn32) := gw 164 rfl
theorem ow165 : OW (.static mn32) := gw 165 rfl
theorem ow166 : OW (.initialized "java/util/Arrays") := gw 166 rfl
theorem ow167 : OW (.code mn32 jdk_65_method_121_code (3 : Nat) (Option.some (Jvm.ClassFile.FieldType.array Jvm.ClassFile.FieldType.byte))) := gw 167 rfl
theorem ow168 : OW (.methodLink "java/util/Arrays" (304 : Nat) mn29) := gw 168 rfl
theorem ow169 : OW (.static mn29) := gw 169 rfl
theorem ow170 : OW (.code mn29 jdk_29_method_69_code (2 : Nat) (Option.some Jvm.ClassFile.FieldType.int)) := gw 170 rfl
theorem ow171 : OW (.methodLink "java/util/Arrays" (150 : Nat) mn54) := gw 171 rfl
theorem ow172 : OW (.fieldRef "com/example/rabotnik/rabotnik/coordinator/PrometheusText" (35 : Nat) "com/example/rabotnik/rabotnik/coordinator/PrometheusText$Type" "word" "Ljava/lang/String;") := gw 172 rfl
theorem ow174 : OW (.constantLong "com/example/rabotnik/rabotnik/coordinator/PrometheusTextFamilyPinLaw" (50 : Nat) (7 : Int64)) := gw 174 rfl
theorem ow175 : OW (.methodLink "com/example/rabotnik/rabotnik/coordinator/PrometheusTextFamilyPinLaw" (52 : Nat) mn50) := gw 175 rfl
theorem ow176 : OW (.declares mn50) := gw 176 rfl
theorem ow177 : OW (.instanceMethod mn50) := gw 177 rfl
theorem ow178 : OW (.selects "com/example/rabotnik/rabotnik/coordinator/PrometheusText" mn50 mn50) := gw 178 rfl
theorem ow179 : OW (.code mn50 prog_37_method_3_code (4 : Nat) (Option.none : Option Jvm.ClassFile.FieldType)) := gw 179 rfl
theorem ow180 : OW (.stringLink "com/example/rabotnik/rabotnik/coordinator/PrometheusText" (40 : Nat) "") := gw 180 rfl
theorem ow181 : OW (.methodLink "com/example/rabotnik/rabotnik/coordinator/PrometheusText" (42 : Nat) mn49) := gw 181 rfl
theorem ow182 : OW (.instanceMethod mn49) := gw 182 rfl
theorem ow183 : OW (.privateMethod mn49) := gw 183 rfl
theorem ow184 : OW (.code mn49 prog_37_method_7_code (4 : Nat) (Option.none : Option Jvm.ClassFile.FieldType)) := gw 184 rfl
theorem ow185 : OW (.methodLink "com/example/rabotnik/rabotnik/coordinator/PrometheusText" (46 : Nat) mn39) := gw 185 rfl
theorem ow186 : OW (.declares mn39) := gw 186 rfl
theorem ow187 : OW (.instanceMethod mn39) := gw 187 rfl
theorem ow188 : OW (.selects "java/lang/StringBuilder" mn39 mn39) := gw 188 rfl
theorem ow189 : OW (.code mn39 jdk_67_method_16_code (3 : Nat) (Option.some (Jvm.ClassFile.FieldType.object "java/lang/StringBuilder"))) := gw 189 rfl
theorem ow190 : OW (.methodLink "java/lang/StringBuilder" (56 : Nat) mn38) := gw 190 rfl
theorem ow191 : OW (.instanceMethod mn38) := gw 191 rfl
theorem ow193 : OW (.code mn38 jdk_68_method_33_code (5 : Nat) (Option.some (Jvm.ClassFile.FieldType.object "java/lang/AbstractStringBuilder"))) := gw 193 rfl
theorem ow194 : OW (.methodLink "java/lang/AbstractStringBuilder" (254 : Nat) mn36) := gw 194 rfl
theorem ow195 : OW (.static mn36) := gw 195 rfl
theorem ow196 : OW (.initialized "java/lang/Long") := gw 196 rfl
theorem ow197 : OW (.code mn36 jdk_35_method_15_code (6 : Nat) (Option.some Jvm.ClassFile.FieldType.int)) := gw 197 rfl
theorem ow198 : OW (.constantLong "java/lang/Long" (140 : Nat) (-10 : Int64)) := gw 198 rfl
theorem ow199 : OW (.methodLink "java/lang/AbstractStringBuilder" (259 : Nat) mn37) := gw 199 rfl
theorem ow200 : OW (.static mn37) := gw 200 rfl
theorem ow201 : OW (.code mn37 jdk_35_method_14_code (11 : Nat) (Option.some Jvm.ClassFile.FieldType.int)) := gw 201 rfl
theorem ow202 : OW (.constantLong "java/lang/Long" (129 : Nat) (-2147483648 : Int64)) := gw 202 rfl
theorem ow203 : OW (.fieldLink "java/lang/Long" (133 : Nat) "java/lang/Integer" "DigitOnes" "[B") := gw 203 rfl
theorem ow205 : OW (.methodLink "com/example/rabotnik/rabotnik/coordinator/PrometheusTextFamilyPinLaw" (56 : Nat) mn51) := gw 205 rfl
theorem ow206 : OW (.declares mn51) := gw 206 rfl
theorem ow207 : OW (.instanceMethod mn51) := gw 207 rfl
theorem ow208 : OW (.selects "com/example/rabotnik/rabotnik/coordinator/PrometheusText" mn51 mn51) := gw 208 rfl
theorem ow209 : OW (.code mn51 prog_37_method_6_code (1 : Nat) (Option.some (Jvm.ClassFile.FieldType.object "java/lang/String"))) := gw 209 rfl
theorem ow210 : OW (.methodLink "com/example/rabotnik/rabotnik/coordinator/PrometheusText" (93 : Nat) mn27) := gw 210 rfl
theorem ow211 : OW (.declares mn27) := gw 211 rfl
theorem ow212 : OW (.instanceMethod mn27) := gw 212 rfl
theorem ow213 : OW (.selects "java/lang/StringBuilder" mn27 mn27) := gw 213 rfl
theorem ow214 : OW (.code mn27 jdk_67_method_42_code (1 : Nat) (Option.some (Jvm.ClassFile.FieldType.object "java/lang/String"))) := gw 214 rfl
theorem ow215 : OW (.classLink "java/lang/StringBuilder" (18 : Nat) "java/lang/String") := gw 215 rfl
theorem ow216 : OW (.methodLink "java/lang/StringBuilder" (137 : Nat) mn26) := gw 216 rfl
theorem ow217 : OW (.instanceMethod mn26) := gw 217 rfl
theorem ow218 : OW (.code mn26 jdk_42_method_53_code (2 : Nat) (Option.none : Option Jvm.ClassFile.FieldType)) := gw 218 rfl
theorem ow219 : OW (.methodLink "java/lang/String" (489 : Nat) mn25) := gw 219 rfl
theorem ow220 : OW (.instanceMethod mn25) := gw 220 rfl
theorem ow221 : OW (.code mn25 jdk_42_method_150_code (5 : Nat) (Option.none : Option Jvm.ClassFile.FieldType)) := gw 221 rfl
theorem ow222 : OW (.methodLink "java/lang/String" (552 : Nat) mn21) := gw 222 rfl
theorem ow223 : OW (.declares mn21) := gw 223 rfl
theorem ow224 : OW (.instanceMethod mn21) := gw 224 rfl
theorem ow225 : OW (.selects "java/lang/StringBuilder" mn21 mn21) := gw 225 rfl
theorem ow226 : OW (.code mn21 jdk_68_method_64_code (1 : Nat) (Option.some (Jvm.ClassFile.FieldType.array Jvm.ClassFile.FieldType.byte))) := gw 226 rfl
theorem ow227 : OW (.methodLink "java/lang/String" (549 : Nat) mn22) := gw 227 rfl
theorem ow228 : OW (.declares mn22) := gw 228 rfl
theorem ow229 : OW (.instanceMethod mn22) := gw 229 rfl
theorem ow230 : OW (.selects "java/lang/StringBuilder" mn22 mn23) := gw 230 rfl
theorem ow231 : OW (.instanceMethod mn23) := gw 231 rfl
theorem ow232 : OW (.code mn23 jdk_67_method_93_code (1 : Nat) (Option.some Jvm.ClassFile.FieldType.int)) := gw 232 rfl
theorem ow233 : OW (.methodLink "java/lang/StringBuilder" (343 : Nat) mn22) := gw 233 rfl
theorem ow234 : OW (.code mn22 jdk_68_method_6_code (1 : Nat) (Option.some Jvm.ClassFile.FieldType.int)) := gw 234 rfl
theorem ow235 : OW (.methodLink "java/lang/String" (1047 : Nat) mn18) := gw 235 rfl
theorem ow236 : OW (.methodLink "java/lang/String" (54 : Nat) mn24) := gw 236 rfl
theorem ow237 : OW (.static mn24) := gw 237 rfl
theorem ow238 : OW (.code mn24 jdk_65_method_132_code (3 : Nat) (Option.some (Jvm.ClassFile.FieldType.array Jvm.ClassFile.FieldType.byte))) := gw 238 rfl
theorem ow239 : OW (.methodLink "java/util/Arrays" (310 : Nat) mn55) := gw 239 rfl
theorem ow240 : OW (.sameMethod "[B" "java/lang/Object" "clone" "()Ljava/lang/Object;") := gw 240 rfl
theorem ow242 : OW (.instanceMethod mn56) := gw 242 rfl
theorem ow243 : OW (.selects "[B" mn55 mn56) := gw 243 rfl
theorem ow244 : OW (.native mn56) := gw 244 rfl
theorem ow245 : OW (.castable "[B" "java/lang/Cloneable") := gw 245 rfl
theorem ow246 : OW (.classLink "java/util/Arrays" (311 : Nat) "[B") := gw 246 rfl
theorem ow248 : OW (.stringLink "com/example/rabotnik/rabotnik/coordinator/PrometheusTextFamilyPinLaw" (60 : Nat) "# HELP ") := gw 248 rfl
theorem ow249 : OW (.methodLink "com/example/rabotnik/rabotnik/coordinator/PrometheusTextFamilyPinLaw" (62 : Nat) mn43) := gw 249 rfl
theorem ow250 : OW (.static mn43) := gw 250 rfl
theorem ow251 : OW (.code mn43 method_6_code (3 : Nat) (Option.some Jvm.ClassFile.FieldType.boolean)) := gw 251 rfl
theorem ow252 : OW (.methodLink "com/example/rabotnik/rabotnik/coordinator/PrometheusTextFamilyPinLaw" (86 : Nat) mn42) := gw 252 rfl
theorem ow253 : OW (.static mn42) := gw 253 rfl
theorem ow254 : OW (.code mn42 method_5_code (4 : Nat) (Option.some Jvm.ClassFile.FieldType.boolean)) := gw 254 rfl
theorem ow255 : OW (.methodLink "com/example/rabotnik/rabotnik/coordinator/PrometheusTextFamilyPinLaw" (79 : Nat) mn1) := gw 255 rfl
theorem ow256 : OW (.methodLink "com/example/rabotnik/rabotnik/coordinator/PrometheusTextFamilyPinLaw" (83 : Nat) mn6) := gw 256 rfl
theorem ow257 : OW (.declares mn6) := gw 257 rfl
theorem ow258 : OW (.instanceMethod mn6) := gw 258 rfl
theorem ow259 : OW (.selects "java/lang/String" mn6 mn6) := gw 259 rfl
theorem ow260 : OW (.code mn6 jdk_42_method_56_code (2 : Nat) (Option.some Jvm.ClassFile.FieldType.char)) := gw 260 rfl
theorem ow261 : OW (.methodLink "java/lang/String" (492 : Nat) mn5) := gw 261 rfl
theorem ow262 : OW (.declares mn5) := gw 262 rfl
theorem ow263 : OW (.instanceMethod mn5) := gw 263 rfl
theorem ow264 : OW (.selects "java/lang/String" mn5 mn5) := gw 264 rfl
theorem ow265 : OW (.code mn5 jdk_42_method_154_code (1 : Nat) (Option.some Jvm.ClassFile.FieldType.boolean)) := gw 265 rfl
theorem ow266 : OW (.methodLink "java/lang/String" (495 : Nat) mn4) := gw 266 rfl
theorem ow267 : OW (.static mn4) := gw 267 rfl
theorem ow268 : OW (.code mn4 jdk_43_method_2_code (2 : Nat) (Option.some Jvm.ClassFile.FieldType.char)) := gw 268 rfl
theorem ow269 : OW (.methodLink "java/lang/StringLatin1" (9 : Nat) mn3) := gw 269 rfl
theorem ow270 : OW (.static mn3) := gw 270 rfl
theorem ow271 : OW (.code mn3 jdk_42_method_155_code (2 : Nat) (Option.none : Option Jvm.ClassFile.FieldType)) := gw 271 rfl
theorem ow272 : OW (.fieldLink "java/lang/String" (1053 : Nat) "jdk/internal/util/Preconditions" "SIOOBE_FORMATTER" "Ljava/util/function/BiFunction;") := gw 272 rfl
theorem ow273 : OW (.initialized "jdk/internal/util/Preconditions") := gw 273 rfl
theorem ow274 : OW (.methodLink "java/lang/String" (1059 : Nat) mn2) := gw 274 rfl
theorem ow275 : OW (.static mn2) := gw 275 rfl
theorem ow276 : OW (.code mn2 jdk_41_method_11_code (3 : Nat) (Option.some Jvm.ClassFile.FieldType.int)) := gw 276 rfl
theorem ow277 : OW (.methodLink "com/example/rabotnik/rabotnik/coordinator/PrometheusTextFamilyPinLaw" (66 : Nat) mn41) := gw 277 rfl
theorem ow278 : OW (.static mn41) := gw 278 rfl
theorem ow279 : OW (.code mn41 method_4_code (3 : Nat) (Option.some Jvm.ClassFile.FieldType.boolean)) := gw 279 rfl
theorem ow280 : OW (.stringLink "com/example/rabotnik/rabotnik/coordinator/PrometheusTextFamilyPinLaw" (77 : Nat) "# TYPE ") := gw 280 rfl
theorem ow281 : OW (.methodLink "com/example/rabotnik/rabotnik/coordinator/PrometheusTextFamilyPinLaw" (21 : Nat) mn10) := gw 281 rfl
theorem ow282 : OW (.static mn10) := gw 282 rfl
theorem ow283 : OW (.code mn10 jdk_42_method_139_code (1 : Nat) (Option.some (Jvm.ClassFile.FieldType.object "java/lang/String"))) := gw 283 rfl
theorem ow284 : OW (.methodLink "java/lang/String" (1015 : Nat) mn8) := gw 284 rfl
theorem ow285 : OW (.classLink "java/lang/String" (10 : Nat) "java/lang/String") := gw 285 rfl
theorem ow286 : OW (.methodLink "java/lang/String" (1018 : Nat) mn9) := gw 286 rfl
theorem ow287 : OW (.static mn9) := gw 287 rfl
theorem ow288 : OW (.code mn9 jdk_43_method_46_code (1 : Nat) (Option.some (Jvm.ClassFile.FieldType.array Jvm.ClassFile.FieldType.byte))) := gw 288 rfl
theorem ow289 : OW (.methodLink "java/lang/String" (209 : Nat) mn7) := gw 289 rfl
theorem ow290 : OW (.instanceMethod mn7) := gw 290 rfl
theorem ow291 : OW (.code mn7 jdk_42_method_151_code (3 : Nat) (Option.none : Option Jvm.ClassFile.FieldType)) := gw 291 rfl
theorem ow292 : OW (.fieldLink "com/example/rabotnik/rabotnik/coordinator/PrometheusTextFamilyPinLaw" (31 : Nat) "com/example/rabotnik/rabotnik/coordinator/PrometheusText$Type" "GAUGE" "Lcom/example/rabotnik/rabotnik/coordinator/PrometheusText$Type;") := gw 292 rfl
theorem ow293 : OW (.laysStatic "com/example/rabotnik/rabotnik/coordinator/PrometheusText$Type" "GAUGE" "Lcom/example/rabotnik/rabotnik/coordinator/PrometheusText$Type;") := gw 293 rfl
theorem ow294 : OW (.stringLink "com/example/rabotnik/rabotnik/coordinator/PrometheusTextFamilyPinLaw" (39 : Nat) "gauge") := gw 294 rfl
theorem ow295 : OW (.methodLink "com/example/rabotnik/rabotnik/coordinator/PrometheusText" (134 : Nat) mn6) := gw 295 rfl
theorem ow296 : OW (.stringLink "com/example/rabotnik/rabotnik/coordinator/PrometheusText" (142 : Nat) "\\n") := gw 296 rfl
theorem ow297 : OW (.methodLink "com/example/rabotnik/rabotnik/coordinator/PrometheusTextFamilyPinLaw" (70 : Nat) mn44) := gw 297 rfl
theorem ow298 : OW (.static mn44) := gw 298 rfl
theorem ow299 : OW (.code mn44 method_8_code (3 : Nat) (Option.some Jvm.ClassFile.FieldType.boolean)) := gw 299 rfl
theorem ow300 : OW (.methodLink "com/example/rabotnik/rabotnik/coordinator/PrometheusTextFamilyPinLaw" (73 : Nat) mn45) := gw 300 rfl
theorem ow301 : OW (.static mn45) := gw 301 rfl
theorem ow302 : OW (.code mn45 method_7_code (1 : Nat) (Option.some Jvm.ClassFile.FieldType.int)) := gw 302 rfl
theorem ow303 : OW (.fieldLink "com/example/rabotnik/rabotnik/coordinator/PrometheusTextFamilyPinLaw" (34 : Nat) "com/example/rabotnik/rabotnik/coordinator/PrometheusText$Type" "HISTOGRAM" "Lcom/example/rabotnik/rabotnik/coordinator/PrometheusText$Type;") := gw 303 rfl
theorem ow304 : OW (.laysStatic "com/example/rabotnik/rabotnik/coordinator/PrometheusText$Type" "HISTOGRAM" "Lcom/example/rabotnik/rabotnik/coordinator/PrometheusText$Type;") := gw 304 rfl
theorem ow305 : OW (.stringLink "com/example/rabotnik/rabotnik/coordinator/PrometheusTextFamilyPinLaw" (41 : Nat) "histogram") := gw 305 rfl
theorem ow306 : OW (.methodLink "java/util/Arrays" (339 : Nat) mn35) := gw 306 rfl
theorem ow307 : OW (.static mn35) := gw 307 rfl
theorem ow308 : OW (.code mn35 jdk_65_method_133_code (5 : Nat) (Option.some (Jvm.ClassFile.FieldType.array Jvm.ClassFile.FieldType.byte))) := gw 308 rfl
theorem ow309 : OW (.methodLink "java/util/Arrays" (343 : Nat) mn34) := gw 309 rfl
theorem ow310 : OW (.static mn34) := gw 310 rfl
theorem ow311 : OW (.code mn34 jdk_65_method_131_code (2 : Nat) (Option.none : Option Jvm.ClassFile.FieldType)) := gw 311 rfl
theorem ow312 : OW (.stringLink "com/example/rabotnik/rabotnik/coordinator/PrometheusText" (138 : Nat) "\\\\") := gw 312 rfl
abbrev cB0 := jdk_42_method_152_code
abbrev cB1 := jdk_42_method_54_code
abbrev cB2 := jdk_41_method_11_code
abbrev cB3 := jdk_42_method_155_code
abbrev cB4 := jdk_43_method_2_code
abbrev cB5 := jdk_42_method_154_code
abbrev cB6 := jdk_42_method_56_code
abbrev cB7 := jdk_42_method_151_code
abbrev cB8 := jdk_43_method_3_code
abbrev cB9 := jdk_43_method_46_code
abbrev cB10 := jdk_42_method_139_code
abbrev cB11 := jdk_68_method_2_code
abbrev cB12 := jdk_68_method_9_code
abbrev cB13 := jdk_68_method_71_code
abbrev cB14 := jdk_42_method_147_code
abbrev cB15 := jdk_68_method_73_code
abbrev cB16 := jdk_68_method_22_code
abbrev cB17 := jdk_67_method_7_code
abbrev cB18 := jdk_68_method_68_code
abbrev cB19 := jdk_68_method_31_code
abbrev cB20 := jdk_67_method_14_code
abbrev cB21 := jdk_68_method_64_code
abbrev cB22 := jdk_68_method_6_code
abbrev cB23 := jdk_67_method_93_code
abbrev cB24 := jdk_65_method_132_code
abbrev cB25 := jdk_42_method_150_code
abbrev cB26 := jdk_42_method_53_code
abbrev cB27 := jdk_67_method_42_code
abbrev cB28 := jdk_29_method_65_code
abbrev cB29 := jdk_29_method_69_code
abbrev cB30 := jdk_48_method_27_code
abbrev cB31 := jdk_68_method_10_code
abbrev cB32 := jdk_65_method_121_code
abbrev cB33 := jdk_67_method_1_code
abbrev cB34 := jdk_65_method_131_code
abbrev cB35 := jdk_65_method_133_code
abbrev cB36 := jdk_35_method_15_code
abbrev cB37 := jdk_35_method_14_code
abbrev cB38 := jdk_68_method_33_code
abbrev cB39 := jdk_67_method_16_code
abbrev cB40 := method_3_code
abbrev cB41 := method_4_code
abbrev cB42 := method_5_code
abbrev cB43 := method_6_code
abbrev cB44 := method_8_code
abbrev cB45 := method_7_code
abbrev cB46 := prog_37_method_1_code
abbrev cB47 := prog_37_method_9_code
abbrev cB48 := prog_37_method_2_code
abbrev cB49 := prog_37_method_7_code
abbrev cB50 := prog_37_method_3_code
abbrev cB51 := prog_37_method_6_code
theorem o965 : De code 0 1 1 (.iload_n 0) := ⟨at_0, rfl⟩
theorem o966 : De code 1 3 4 (.sipush 255) := ⟨at_1, rfl⟩
theorem o967 : De code 4 1 5 .iand := ⟨at_4, rfl⟩
theorem o968 : De code 5 1 6 .i2c := ⟨at_5, rfl⟩
theorem o969 : De code 6 2 8 (.istore 5) := ⟨at_6, rfl⟩
theorem o970 : De code 8 1 9 (.iload_n 0) := ⟨at_8, rfl⟩
theorem o971 : De code 9 2 11 (.bipush 8) := ⟨at_9, rfl⟩
theorem o972 : De code 11 1 12 .iushr := ⟨at_11, rfl⟩
theorem o973 : De code 12 3 15 (.sipush 255) := ⟨at_12, rfl⟩
theorem o974 : De code 15 1 16 .iand := ⟨at_15, rfl⟩
theorem o975 : De code 16 1 17 .i2c := ⟨at_16, rfl⟩
theorem o976 : De code 17 2 19 (.istore 6) := ⟨at_17, rfl⟩
theorem o977 : De code 19 3 22 (.new 7) := ⟨at_19, rfl⟩
theorem o978 : De code 22 1 23 .dup := ⟨at_22, rfl⟩
theorem o979 : De code 23 1 24 (.iconst 2) := ⟨at_23, rfl⟩
theorem o980 : De code 24 2 26 (.newarray .char) := ⟨at_24, rfl⟩
theorem o981 : De code 26 1 27 .dup := ⟨at_26, rfl⟩
theorem o982 : De code 27 1 28 (.iconst 0) := ⟨at_27, rfl⟩
theorem o983 : De code 28 2 30 (.iload 5) := ⟨at_28, rfl⟩
theorem o984 : De code 30 1 31 .castore := ⟨at_30, rfl⟩
theorem o985 : De code 31 1 32 .dup := ⟨at_31, rfl⟩
theorem o986 : De code 32 1 33 (.iconst 1) := ⟨at_32, rfl⟩
theorem o987 : De code 33 2 35 (.iload 6) := ⟨at_33, rfl⟩
theorem o988 : De code 35 1 36 .castore := ⟨at_35, rfl⟩
theorem o989 : De code 36 3 39 (.invokespecial 9) := ⟨at_36, rfl⟩
theorem o990 : De code 39 2 41 (.astore 7) := ⟨at_39, rfl⟩
theorem o991 : De code 41 1 42 (.iload_n 1) := ⟨at_41, rfl⟩
theorem o992 : De code 42 2 44 (.ldc 12) := ⟨at_42, rfl⟩
theorem o993 : De code 44 1 45 .iand := ⟨at_44, rfl⟩
theorem o994 : De code 45 1 46 (.iconst 3) := ⟨at_45, rfl⟩
theorem o995 : De code 46 1 47 .irem := ⟨at_46, rfl⟩
theorem o996 : De code 47 2 49 (.istore 8) := ⟨at_47, rfl⟩
theorem o997 : De code 49 1 50 (.iload_n 2) := ⟨at_49, rfl⟩
theorem o998 : De code 50 3 53 (.invokestatic 13) := ⟨at_50, rfl⟩
theorem o999 : De code 53 2 55 (.istore 9) := ⟨at_53, rfl⟩
theorem o1000 : De code 55 1 56 (.iload_n 3) := ⟨at_55, rfl⟩
theorem o1001 : De code 56 3 59 (.invokestatic 13) := ⟨at_56, rfl⟩
theorem o1002 : De code 59 2 61 (.istore 10) := ⟨at_59, rfl⟩
theorem o1003 : De code 61 2 63 (.iload 8) := ⟨at_61, rfl⟩
theorem o1004 : De code 63 3 66 (.ifCond .ne 8) := ⟨at_63, rfl⟩
theorem o1005 : De code 66 2 68 (.ldc 19) := ⟨at_66, rfl⟩
theorem o1007 : De code 71 2 73 (.iload 8) := ⟨at_71, rfl⟩
theorem o1008 : De code 73 1 74 (.iconst 1) := ⟨at_73, rfl⟩
theorem o1009 : De code 74 3 77 (.if_icmp .ne 11) := ⟨at_74, rfl⟩
theorem o1010 : De code 77 2 79 (.iload 9) := ⟨at_77, rfl⟩
theorem o1011 : De code 79 3 82 (.invokestatic 21) := ⟨at_79, rfl⟩
theorem o1012 : De code 85 3 88 (.new 7) := ⟨at_85, rfl⟩
theorem o1013 : De code 88 1 89 .dup := ⟨at_88, rfl⟩
theorem o1014 : De code 89 1 90 (.iconst 2) := ⟨at_89, rfl⟩
theorem o1015 : De code 90 2 92 (.newarray .char) := ⟨at_90, rfl⟩
theorem o1016 : De code 92 1 93 .dup := ⟨at_92, rfl⟩
theorem o1017 : De code 93 1 94 (.iconst 0) := ⟨at_93, rfl⟩
theorem o1018 : De code 94 2 96 (.iload 9) := ⟨at_94, rfl⟩
theorem o1019 : De code 96 1 97 .castore := ⟨at_96, rfl⟩
theorem o1020 : De code 97 1 98 .dup := ⟨at_97, rfl⟩
theorem o1021 : De code 98 1 99 (.iconst 1) := ⟨at_98, rfl⟩
theorem o1022 : De code 99 2 101 (.iload 10) := ⟨at_99, rfl⟩
theorem o1023 : De code 101 1 102 .castore := ⟨at_101, rfl⟩
theorem o1024 : De code 102 3 105 (.invokespecial 9) := ⟨at_102, rfl⟩
theorem o1006 : De code 105 2 107 (.astore 11) := ⟨at_105, rfl⟩
theorem o941 : De code 107 2 109 (.iload 4) := ⟨at_107, rfl⟩
theorem o942 : De code 109 2 111 (.ldc 12) := ⟨at_109, rfl⟩
theorem o943 : De code 111 1 112 .iand := ⟨at_111, rfl⟩
theorem o944 : De code 112 1 113 (.iconst 3) := ⟨at_112, rfl⟩
theorem o945 : De code 113 1 114 .irem := ⟨at_113, rfl⟩
theorem o946 : De code 114 2 116 (.istore 12) := ⟨at_114, rfl⟩
theorem o947 : De code 116 2 118 (.iload 12) := ⟨at_116, rfl⟩
theorem o948 : De code 118 3 121 (.ifCond .ne 9) := ⟨at_118, rfl⟩
theorem o949 : De code 121 3 124 (.getstatic 25) := ⟨at_121, rfl⟩
theorem o955 : De code 127 2 129 (.iload 12) := ⟨at_127, rfl⟩
theorem o956 : De code 129 1 130 (.iconst 1) := ⟨at_129, rfl⟩
theorem o957 : De code 130 3 133 (.if_icmp .ne 9) := ⟨at_130, rfl⟩
theorem o958 : De code 133 3 136 (.getstatic 31) := ⟨at_133, rfl⟩
theorem o963 : De code 139 3 142 (.getstatic 34) := ⟨at_139, rfl⟩
theorem o950 : De code 142 2 144 (.astore 13) := ⟨at_142, rfl⟩
theorem o951 : De code 144 2 146 (.iload 12) := ⟨at_144, rfl⟩
theorem o952 : De code 146 3 149 (.ifCond .ne 8) := ⟨at_146, rfl⟩
theorem o953 : De code 149 2 151 (.ldc 37) := ⟨at_149, rfl⟩
theorem o959 : De code 154 2 156 (.iload 12) := ⟨at_154, rfl⟩
theorem o960 : De code 156 1 157 (.iconst 1) := ⟨at_156, rfl⟩
theorem o961 : De code 157 3 160 (.if_icmp .ne 8) := ⟨at_157, rfl⟩
theorem o962 : De code 160 2 162 (.ldc 39) := ⟨at_160, rfl⟩
theorem o964 : De code 165 2 167 (.ldc 41) := ⟨at_165, rfl⟩
theorem o954 : De code 167 2 169 (.astore 14) := ⟨at_167, rfl⟩
theorem o923 : De code 169 1 170 (.iconst 0) := ⟨at_169, rfl⟩
theorem o924 : De code 170 3 173 (.anewarray 7) := ⟨at_170, rfl⟩
theorem o925 : De code 173 2 175 (.astore 15) := ⟨at_173, rfl⟩
theorem o926 : De code 175 3 178 (.new 43) := ⟨at_175, rfl⟩
theorem o927 : De code 178 1 179 .dup := ⟨at_178, rfl⟩
theorem o928 : De code 179 3 182 (.invokespecial 45) := ⟨at_179, rfl⟩
theorem o929 : De code 182 2 184 (.astore 16) := ⟨at_182, rfl⟩
theorem o930 : De code 184 2 186 (.aload 16) := ⟨at_184, rfl⟩
theorem o931 : De code 186 2 188 (.aload 7) := ⟨at_186, rfl⟩
theorem o932 : De code 188 2 190 (.aload 13) := ⟨at_188, rfl⟩
theorem o933 : De code 190 2 192 (.aload 11) := ⟨at_190, rfl⟩
theorem o934 : De code 192 3 195 (.invokevirtual 46) := ⟨at_192, rfl⟩
theorem o935 : De code 195 2 197 (.aload 16) := ⟨at_195, rfl⟩
theorem o936 : De code 197 3 200 (.ldc2_w 50) := ⟨at_197, rfl⟩
theorem o937 : De code 200 2 202 (.aload 15) := ⟨at_200, rfl⟩
theorem o938 : De code 202 3 205 (.invokevirtual 52) := ⟨at_202, rfl⟩
theorem o939 : De code 205 2 207 (.aload 16) := ⟨at_205, rfl⟩
theorem o940 : De code 207 3 210 (.invokevirtual 56) := ⟨at_207, rfl⟩
theorem o857 : De code 210 2 212 (.astore 17) := ⟨at_210, rfl⟩
theorem o858 : De code 212 2 214 (.aload 17) := ⟨at_212, rfl⟩
theorem o859 : De code 214 1 215 (.iconst 0) := ⟨at_214, rfl⟩
theorem o860 : De code 215 2 217 (.ldc 60) := ⟨at_215, rfl⟩
theorem o861 : De code 217 3 220 (.invokestatic 62) := ⟨at_217, rfl⟩
theorem o862 : De code 220 2 222 (.istore 18) := ⟨at_220, rfl⟩
theorem o863 : De code 222 2 224 (.bipush 7) := ⟨at_222, rfl⟩
theorem o864 : De code 224 2 226 (.istore 19) := ⟨at_224, rfl⟩
theorem o865 : De code 226 2 228 (.iload 18) := ⟨at_226, rfl⟩
theorem o866 : De code 228 3 231 (.ifCond .eq 47) := ⟨at_228, rfl⟩
theorem o867 : De code 231 2 233 (.aload 17) := ⟨at_231, rfl⟩
theorem o868 : De code 233 2 235 (.iload 19) := ⟨at_233, rfl⟩
theorem o869 : De code 235 2 237 (.iload 5) := ⟨at_235, rfl⟩
theorem o870 : De code 237 3 240 (.invokestatic 66) := ⟨at_237, rfl⟩
theorem o871 : De code 240 3 243 (.ifCond .eq 35) := ⟨at_240, rfl⟩
theorem o872 : De code 243 2 245 (.aload 17) := ⟨at_243, rfl⟩
theorem o873 : De code 245 2 247 (.iload 19) := ⟨at_245, rfl⟩
theorem o874 : De code 247 1 248 (.iconst 1) := ⟨at_247, rfl⟩
theorem o875 : De code 248 1 249 .iadd := ⟨at_248, rfl⟩
theorem o876 : De code 249 2 251 (.iload 6) := ⟨at_249, rfl⟩
theorem o877 : De code 251 3 254 (.invokestatic 66) := ⟨at_251, rfl⟩
theorem o878 : De code 254 3 257 (.ifCond .eq 21) := ⟨at_254, rfl⟩
theorem o879 : De code 257 2 259 (.aload 17) := ⟨at_257, rfl⟩
theorem o880 : De code 259 2 261 (.iload 19) := ⟨at_259, rfl⟩
theorem o881 : De code 261 1 262 (.iconst 2) := ⟨at_261, rfl⟩
theorem o882 : De code 262 1 263 .iadd := ⟨at_262, rfl⟩
theorem o883 : De code 263 2 265 (.bipush 32) := ⟨at_263, rfl⟩
theorem o884 : De code 265 3 268 (.invokestatic 66) := ⟨at_265, rfl⟩
theorem o885 : De code 268 3 271 (.ifCond .eq 7) := ⟨at_268, rfl⟩
theorem o886 : De code 271 1 272 (.iconst 1) := ⟨at_271, rfl⟩
theorem o887 : De code 276 2 278 (.istore 18) := ⟨at_276, rfl⟩
theorem o888 : De code 278 3 281 (.iinc 19 3) := ⟨at_278, rfl⟩
theorem o889 : De code 281 2 283 (.iload 8) := ⟨at_281, rfl⟩
theorem o890 : De code 283 1 284 (.iconst 1) := ⟨at_283, rfl⟩
theorem o893 : De code 284 3 287 (.if_icmp .lt 37) := ⟨at_284, rfl⟩
theorem o894 : De code 287 2 289 (.iload 18) := ⟨at_287, rfl⟩
theorem o895 : De code 289 3 292 (.ifCond .eq 19) := ⟨at_289, rfl⟩
theorem o896 : De code 292 2 294 (.aload 17) := ⟨at_292, rfl⟩
theorem o897 : De code 294 2 296 (.iload 19) := ⟨at_294, rfl⟩
theorem o898 : De code 296 2 298 (.iload 9) := ⟨at_296, rfl⟩
theorem o899 : De code 298 3 301 (.invokestatic 70) := ⟨at_298, rfl⟩
theorem o900 : De code 301 3 304 (.ifCond .eq 7) := ⟨at_301, rfl⟩
theorem o901 : De code 304 1 305 (.iconst 1) := ⟨at_304, rfl⟩
theorem o902 : De code 309 2 311 (.istore 18) := ⟨at_309, rfl⟩
theorem o903 : De code 311 2 313 (.iload 19) := ⟨at_311, rfl⟩
theorem o904 : De code 313 2 315 (.iload 9) := ⟨at_313, rfl⟩
theorem o905 : De code 315 3 318 (.invokestatic 73) := ⟨at_315, rfl⟩
theorem o906 : De code 318 1 319 .iadd := ⟨at_318, rfl⟩
theorem o907 : De code 319 2 321 (.istore 19) := ⟨at_319, rfl⟩
theorem o891 : De code 321 2 323 (.iload 8) := ⟨at_321, rfl⟩
theorem o892 : De code 323 1 324 (.iconst 2) := ⟨at_323, rfl⟩
theorem o908 : De code 324 3 327 (.if_icmp .ne 37) := ⟨at_324, rfl⟩
theorem o909 : De code 327 2 329 (.iload 18) := ⟨at_327, rfl⟩
theorem o910 : De code 329 3 332 (.ifCond .eq 19) := ⟨at_329, rfl⟩
theorem o911 : De code 332 2 334 (.aload 17) := ⟨at_332, rfl⟩
theorem o912 : De code 334 2 336 (.iload 19) := ⟨at_334, rfl⟩
theorem o913 : De code 336 2 338 (.iload 10) := ⟨at_336, rfl⟩
theorem o914 : De code 338 3 341 (.invokestatic 70) := ⟨at_338, rfl⟩
theorem o915 : De code 341 3 344 (.ifCond .eq 7) := ⟨at_341, rfl⟩
theorem o916 : De code 344 1 345 (.iconst 1) := ⟨at_344, rfl⟩
theorem o917 : De code 349 2 351 (.istore 18) := ⟨at_349, rfl⟩
theorem o918 : De code 351 2 353 (.iload 19) := ⟨at_351, rfl⟩
theorem o919 : De code 353 2 355 (.iload 10) := ⟨at_353, rfl⟩
theorem o920 : De code 355 3 358 (.invokestatic 73) := ⟨at_355, rfl⟩
theorem o921 : De code 358 1 359 .iadd := ⟨at_358, rfl⟩
theorem o922 : De code 359 2 361 (.istore 19) := ⟨at_359, rfl⟩
theorem o743 : De code 361 2 363 (.iload 18) := ⟨at_361, rfl⟩
theorem o744 : De code 363 3 366 (.ifCond .eq 19) := ⟨at_363, rfl⟩
theorem o745 : De code 366 2 368 (.aload 17) := ⟨at_366, rfl⟩
theorem o746 : De code 368 2 370 (.iload 19) := ⟨at_368, rfl⟩
theorem o747 : De code 370 2 372 (.bipush 10) := ⟨at_370, rfl⟩
theorem o748 : De code 372 3 375 (.invokestatic 66) := ⟨at_372, rfl⟩
theorem o749 : De code 375 3 378 (.ifCond .eq 7) := ⟨at_375, rfl⟩
theorem o750 : De code 378 1 379 (.iconst 1) := ⟨at_378, rfl⟩
theorem o751 : De code 383 2 385 (.istore 18) := ⟨at_383, rfl⟩
theorem o752 : De code 385 3 388 (.iinc 19 1) := ⟨at_385, rfl⟩
theorem o753 : De code 388 2 390 (.iload 18) := ⟨at_388, rfl⟩
theorem o754 : De code 390 3 393 (.ifCond .eq 19) := ⟨at_390, rfl⟩
theorem o755 : De code 393 2 395 (.aload 17) := ⟨at_393, rfl⟩
theorem o756 : De code 395 2 397 (.iload 19) := ⟨at_395, rfl⟩
theorem o757 : De code 397 2 399 (.ldc 77) := ⟨at_397, rfl⟩
theorem o758 : De code 399 3 402 (.invokestatic 62) := ⟨at_399, rfl⟩
theorem o759 : De code 402 3 405 (.ifCond .eq 7) := ⟨at_402, rfl⟩
theorem o760 : De code 405 1 406 (.iconst 1) := ⟨at_405, rfl⟩
theorem o761 : De code 410 2 412 (.istore 18) := ⟨at_410, rfl⟩
theorem o762 : De code 412 3 415 (.iinc 19 7) := ⟨at_412, rfl⟩
theorem o763 : De code 415 2 417 (.iload 18) := ⟨at_415, rfl⟩
theorem o764 : De code 417 3 420 (.ifCond .eq 47) := ⟨at_417, rfl⟩
theorem o765 : De code 420 2 422 (.aload 17) := ⟨at_420, rfl⟩
theorem o766 : De code 422 2 424 (.iload 19) := ⟨at_422, rfl⟩
theorem o767 : De code 424 2 426 (.iload 5) := ⟨at_424, rfl⟩
theorem o768 : De code 426 3 429 (.invokestatic 66) := ⟨at_426, rfl⟩
theorem o769 : De code 429 3 432 (.ifCond .eq 35) := ⟨at_429, rfl⟩
theorem o770 : De code 432 2 434 (.aload 17) := ⟨at_432, rfl⟩
theorem o771 : De code 434 2 436 (.iload 19) := ⟨at_434, rfl⟩
theorem o772 : De code 436 1 437 (.iconst 1) := ⟨at_436, rfl⟩
theorem o773 : De code 437 1 438 .iadd := ⟨at_437, rfl⟩
theorem o774 : De code 438 2 440 (.iload 6) := ⟨at_438, rfl⟩
theorem o775 : De code 440 3 443 (.invokestatic 66) := ⟨at_440, rfl⟩
theorem o776 : De code 443 3 446 (.ifCond .eq 21) := ⟨at_443, rfl⟩
theorem o777 : De code 446 2 448 (.aload 17) := ⟨at_446, rfl⟩
theorem o778 : De code 448 2 450 (.iload 19) := ⟨at_448, rfl⟩
theorem o779 : De code 450 1 451 (.iconst 2) := ⟨at_450, rfl⟩
theorem o780 : De code 451 1 452 .iadd := ⟨at_451, rfl⟩
theorem o781 : De code 452 2 454 (.bipush 32) := ⟨at_452, rfl⟩
theorem o782 : De code 454 3 457 (.invokestatic 66) := ⟨at_454, rfl⟩
theorem o783 : De code 457 3 460 (.ifCond .eq 7) := ⟨at_457, rfl⟩
theorem o784 : De code 460 1 461 (.iconst 1) := ⟨at_460, rfl⟩
theorem o785 : De code 465 2 467 (.istore 18) := ⟨at_465, rfl⟩
theorem o786 : De code 467 3 470 (.iinc 19 3) := ⟨at_467, rfl⟩
theorem o787 : De code 470 2 472 (.iload 18) := ⟨at_470, rfl⟩
theorem o788 : De code 472 3 475 (.ifCond .eq 19) := ⟨at_472, rfl⟩
theorem o789 : De code 475 2 477 (.aload 17) := ⟨at_475, rfl⟩
theorem o790 : De code 477 2 479 (.iload 19) := ⟨at_477, rfl⟩
theorem o791 : De code 479 2 481 (.aload 14) := ⟨at_479, rfl⟩
theorem o792 : De code 481 3 484 (.invokestatic 62) := ⟨at_481, rfl⟩
theorem o793 : De code 484 3 487 (.ifCond .eq 7) := ⟨at_484, rfl⟩
theorem o794 : De code 487 1 488 (.iconst 1) := ⟨at_487, rfl⟩
theorem o795 : De code 492 2 494 (.istore 18) := ⟨at_492, rfl⟩
theorem o796 : De code 494 2 496 (.iload 19) := ⟨at_494, rfl⟩
theorem o797 : De code 496 2 498 (.aload 14) := ⟨at_496, rfl⟩
theorem o798 : De code 498 3 501 (.invokevirtual 79) := ⟨at_498, rfl⟩
theorem o799 : De code 501 1 502 .iadd := ⟨at_501, rfl⟩
theorem o800 : De code 502 2 504 (.istore 19) := ⟨at_502, rfl⟩
theorem o801 : De code 504 2 506 (.iload 18) := ⟨at_504, rfl⟩
theorem o802 : De code 506 3 509 (.ifCond .eq 19) := ⟨at_506, rfl⟩
theorem o803 : De code 509 2 511 (.aload 17) := ⟨at_509, rfl⟩
theorem o804 : De code 511 2 513 (.iload 19) := ⟨at_511, rfl⟩
theorem o805 : De code 513 2 515 (.bipush 10) := ⟨at_513, rfl⟩
theorem o806 : De code 515 3 518 (.invokestatic 66) := ⟨at_515, rfl⟩
theorem o807 : De code 518 3 521 (.ifCond .eq 7) := ⟨at_518, rfl⟩
theorem o808 : De code 521 1 522 (.iconst 1) := ⟨at_521, rfl⟩
theorem o809 : De code 526 2 528 (.istore 18) := ⟨at_526, rfl⟩
theorem o810 : De code 528 3 531 (.iinc 19 1) := ⟨at_528, rfl⟩
theorem o811 : De code 531 2 533 (.iload 18) := ⟨at_531, rfl⟩
theorem o812 : De code 533 3 536 (.ifCond .eq 75) := ⟨at_533, rfl⟩
theorem o813 : De code 536 2 538 (.aload 17) := ⟨at_536, rfl⟩
theorem o814 : De code 538 2 540 (.iload 19) := ⟨at_538, rfl⟩
theorem o815 : De code 540 2 542 (.iload 5) := ⟨at_540, rfl⟩
theorem o816 : De code 542 3 545 (.invokestatic 66) := ⟨at_542, rfl⟩
theorem o817 : De code 545 3 548 (.ifCond .eq 63) := ⟨at_545, rfl⟩
theorem o818 : De code 548 2 550 (.aload 17) := ⟨at_548, rfl⟩
theorem o819 : De code 550 2 552 (.iload 19) := ⟨at_550, rfl⟩
theorem o820 : De code 552 1 553 (.iconst 1) := ⟨at_552, rfl⟩
theorem o821 : De code 553 1 554 .iadd := ⟨at_553, rfl⟩
theorem o822 : De code 554 2 556 (.iload 6) := ⟨at_554, rfl⟩
theorem o823 : De code 556 3 559 (.invokestatic 66) := ⟨at_556, rfl⟩
theorem o824 : De code 559 3 562 (.ifCond .eq 49) := ⟨at_559, rfl⟩
theorem o825 : De code 562 2 564 (.aload 17) := ⟨at_562, rfl⟩
theorem o826 : De code 564 2 566 (.iload 19) := ⟨at_564, rfl⟩
theorem o827 : De code 566 1 567 (.iconst 2) := ⟨at_566, rfl⟩
theorem o828 : De code 567 1 568 .iadd := ⟨at_567, rfl⟩
theorem o829 : De code 568 2 570 (.bipush 32) := ⟨at_568, rfl⟩
theorem o830 : De code 570 3 573 (.invokestatic 66) := ⟨at_570, rfl⟩
theorem o831 : De code 573 3 576 (.ifCond .eq 35) := ⟨at_573, rfl⟩
theorem o832 : De code 576 2 578 (.aload 17) := ⟨at_576, rfl⟩
theorem o833 : De code 578 2 580 (.iload 19) := ⟨at_578, rfl⟩
theorem o834 : De code 580 1 581 (.iconst 3) := ⟨at_580, rfl⟩
theorem o835 : De code 581 1 582 .iadd := ⟨at_581, rfl⟩
theorem o836 : De code 582 2 584 (.bipush 55) := ⟨at_582, rfl⟩
theorem o837 : De code 584 3 587 (.invokestatic 66) := ⟨at_584, rfl⟩
theorem o838 : De code 587 3 590 (.ifCond .eq 21) := ⟨at_587, rfl⟩
theorem o839 : De code 590 2 592 (.aload 17) := ⟨at_590, rfl⟩
theorem o840 : De code 592 2 594 (.iload 19) := ⟨at_592, rfl⟩
theorem o841 : De code 594 1 595 (.iconst 4) := ⟨at_594, rfl⟩
theorem o842 : De code 595 1 596 .iadd := ⟨at_595, rfl⟩
theorem o843 : De code 596 2 598 (.bipush 10) := ⟨at_596, rfl⟩
theorem o844 : De code 598 3 601 (.invokestatic 66) := ⟨at_598, rfl⟩
theorem o845 : De code 601 3 604 (.ifCond .eq 7) := ⟨at_601, rfl⟩
theorem o846 : De code 604 1 605 (.iconst 1) := ⟨at_604, rfl⟩
theorem o847 : De code 609 2 611 (.istore 18) := ⟨at_609, rfl⟩
theorem o848 : De code 611 3 614 (.iinc 19 5) := ⟨at_611, rfl⟩
theorem o849 : De code 614 2 616 (.iload 18) := ⟨at_614, rfl⟩
theorem o850 : De code 616 3 619 (.ifCond .eq 17) := ⟨at_616, rfl⟩
theorem o851 : De code 619 2 621 (.aload 17) := ⟨at_619, rfl⟩
theorem o852 : De code 621 3 624 (.invokevirtual 79) := ⟨at_621, rfl⟩
theorem o853 : De code 624 2 626 (.iload 19) := ⟨at_624, rfl⟩
theorem o854 : De code 626 3 629 (.if_icmp .ne 7) := ⟨at_626, rfl⟩
theorem o855 : De code 629 1 630 (.iconst 1) := ⟨at_629, rfl⟩
theorem o856 : De code 634 1 635 .ireturn := ⟨at_634, rfl⟩
theorem o258 : De cB28 0 1 1 (.iload_n 0) := by decide +kernel
theorem o259 : De cB28 1 1 2 (.iload_n 1) := by decide +kernel
theorem o260 : De cB28 2 3 5 (.if_icmp .lt 7) := by decide +kernel
theorem o263 : De cB28 5 1 6 (.iload_n 0) := by decide +kernel
theorem o261 : De cB28 9 1 10 (.iload_n 1) := by decide +kernel
theorem o262 : De cB28 10 1 11 .ireturn := by decide +kernel
theorem o264 : De cB29 0 1 1 (.iload_n 0) := by decide +kernel
theorem o265 : De cB29 1 1 2 (.iload_n 1) := by decide +kernel
theorem o266 : De cB29 2 3 5 (.if_icmp .gt 7) := by decide +kernel
theorem o269 : De cB29 5 1 6 (.iload_n 0) := by decide +kernel
theorem o267 : De cB29 9 1 10 (.iload_n 1) := by decide +kernel
theorem o268 : De cB29 10 1 11 .ireturn := by decide +kernel
theorem o405 : De cB37 0 1 1 (.iload_n 2) := by decide +kernel
theorem o406 : De cB37 1 2 3 (.istore 7) := by decide +kernel
theorem o407 : De cB37 3 1 4 (.lload_n 0) := by decide +kernel
theorem o408 : De cB37 4 1 5 (.lconst 0) := by decide +kernel
theorem o409 : De cB37 5 1 6 .lcmp := by decide +kernel
theorem o410 : De cB37 13 1 14 (.iconst 0) := by decide +kernel
theorem o411 : De cB37 14 2 16 (.istore 8) := by decide +kernel
theorem o412 : De cB37 16 2 18 (.iload 8) := by decide +kernel
theorem o413 : De cB37 18 3 21 (.ifCond .ne 6) := by decide +kernel
theorem o414 : De cB37 21 1 22 (.lload_n 0) := by decide +kernel
theorem o415 : De cB37 22 1 23 .lneg := by decide +kernel
theorem o416 : De cB37 23 1 24 (.lstore_n 0) := by decide +kernel
theorem o417 : De cB37 24 1 25 (.lload_n 0) := by decide +kernel
theorem o418 : De cB37 25 3 28 (.ldc2_w 129) := by decide +kernel
theorem o419 : De cB37 28 1 29 .lcmp := by decide +kernel
theorem o420 : De cB37 82 1 83 (.lload_n 0) := by decide +kernel
theorem o421 : De cB37 83 1 84 .l2i := by decide +kernel
theorem o422 : De cB37 84 2 86 (.istore 10) := by decide +kernel
theorem o423 : De cB37 86 2 88 (.iload 10) := by decide +kernel
theorem o424 : De cB37 88 2 90 (.bipush (-100)) := by decide +kernel
theorem o425 : De cB37 143 1 144 (.aload_n 3) := by decide +kernel
theorem o426 : De cB37 144 3 147 (.iinc 7 (-1)) := by decide +kernel
theorem o427 : De cB37 147 2 149 (.iload 7) := by decide +kernel
theorem o428 : De cB37 149 3 152 (.getstatic 133) := by decide +kernel
theorem o429 : De cB37 152 2 154 (.iload 10) := by decide +kernel
theorem o430 : De cB37 154 1 155 .ineg := by decide +kernel
theorem o431 : De cB37 155 1 156 .baload := by decide +kernel
theorem o432 : De cB37 156 1 157 .bastore := by decide +kernel
theorem o433 : De cB37 157 2 159 (.iload 10) := by decide +kernel
theorem o434 : De cB37 159 2 161 (.bipush (-9)) := by decide +kernel
theorem o435 : De cB37 178 2 180 (.iload 8) := by decide +kernel
theorem o436 : De cB37 192 2 194 (.iload 7) := by decide +kernel
theorem o437 : De cB37 194 1 195 .ireturn := by decide +kernel
theorem o379 : De cB36 0 1 1 (.iconst 1) := by decide +kernel
theorem o380 : De cB36 1 1 2 (.istore_n 2) := by decide +kernel
theorem o381 : De cB36 2 1 3 (.lload_n 0) := by decide +kernel
theorem o382 : De cB36 3 1 4 (.lconst 0) := by decide +kernel
theorem o383 : De cB36 4 1 5 .lcmp := by decide +kernel
theorem o384 : De cB36 5 3 8 (.ifCond .lt 8) := by decide +kernel
theorem o385 : De cB36 8 1 9 (.iconst 0) := by decide +kernel
theorem o386 : De cB36 9 1 10 (.istore_n 2) := by decide +kernel
theorem o387 : De cB36 10 1 11 (.lload_n 0) := by decide +kernel
theorem o388 : De cB36 11 1 12 .lneg := by decide +kernel
theorem o389 : De cB36 12 1 13 (.lstore_n 0) := by decide +kernel
theorem o390 : De cB36 13 3 16 (.ldc2_w 140) := by decide +kernel
theorem o391 : De cB36 16 1 17 (.lstore_n 3) := by decide +kernel
theorem o392 : De cB36 17 1 18 (.iconst 1) := by decide +kernel
theorem o393 : De cB36 18 2 20 (.istore 5) := by decide +kernel
theorem o394 : De cB36 20 2 22 (.iload 5) := by decide +kernel
theorem o395 : De cB36 22 2 24 (.bipush 19) := by decide +kernel
theorem o396 : De cB36 24 3 27 (.if_icmp .ge 26) := by decide +kernel
theorem o397 : De cB36 27 1 28 (.lload_n 0) := by decide +kernel
theorem o398 : De cB36 28 1 29 (.lload_n 3) := by decide +kernel
theorem o399 : De cB36 29 1 30 .lcmp := by decide +kernel
theorem o400 : De cB36 30 3 33 (.ifCond .le 8) := by decide +kernel
theorem o401 : De cB36 33 2 35 (.iload 5) := by decide +kernel
theorem o402 : De cB36 35 1 36 (.iload_n 2) := by decide +kernel
theorem o403 : De cB36 36 1 37 .iadd := by decide +kernel
theorem o404 : De cB36 37 1 38 .ireturn := by decide +kernel
theorem o12 : De cB2 0 1 1 (.iload_n 0) := by decide +kernel
theorem o13 : De cB2 1 3 4 (.ifCond .lt 8) := by decide +kernel
theorem o14 : De cB2 4 1 5 (.iload_n 0) := by decide +kernel
theorem o15 : De cB2 5 1 6 (.iload_n 1) := by decide +kernel
theorem o16 : De cB2 16 1 17 (.iload_n 0) := by decide +kernel
theorem o17 : De cB2 17 1 18 .ireturn := by decide +kernel
theorem o72 : De cB10 0 3 3 (.getstatic 38) := by decide +kernel
theorem o73 : De cB10 3 3 6 (.ifCond .eq 23) := by decide +kernel
theorem o74 : De cB10 6 1 7 (.iload_n 0) := by decide +kernel
theorem o75 : De cB10 7 3 10 (.invokestatic 1015) := by decide +kernel
theorem o76 : De cB10 10 3 13 (.ifCond .eq 16) := by decide +kernel
theorem o77 : De cB10 13 3 16 (.new 10) := by decide +kernel
theorem o78 : De cB10 16 1 17 .dup := by decide +kernel
theorem o79 : De cB10 17 1 18 (.iload_n 0) := by decide +kernel
theorem o80 : De cB10 18 3 21 (.invokestatic 1018) := by decide +kernel
theorem o81 : De cB10 21 1 22 (.iconst 0) := by decide +kernel
theorem o82 : De cB10 22 3 25 (.invokespecial 209) := by decide +kernel
theorem o83 : De cB10 25 1 26 .areturn := by decide +kernel
theorem o114 : De cB14 0 1 1 (.aload_n 0) := by decide +kernel
theorem o115 : De cB14 1 3 4 (.invokevirtual 335) := by decide +kernel
theorem o116 : De cB14 4 1 5 (.iload_n 3) := by decide +kernel
theorem o117 : De cB14 5 3 8 (.if_icmp .ne 23) := by decide +kernel
theorem o118 : De cB14 8 1 9 (.aload_n 0) := by decide +kernel
theorem o119 : De cB14 9 3 12 (.getfield 9) := by decide +kernel
theorem o120 : De cB14 12 1 13 (.iconst 0) := by decide +kernel
theorem o121 : De cB14 13 1 14 (.aload_n 1) := by decide +kernel
theorem o122 : De cB14 14 1 15 (.iload_n 2) := by decide +kernel
theorem o123 : De cB14 15 1 16 (.iload_n 3) := by decide +kernel
theorem o124 : De cB14 16 1 17 .ishl := by decide +kernel
theorem o125 : De cB14 17 1 18 (.aload_n 0) := by decide +kernel
theorem o126 : De cB14 18 3 21 (.getfield 9) := by decide +kernel
theorem o127 : De cB14 21 1 22 .arraylength := by decide +kernel
theorem o128 : De cB14 22 3 25 (.invokestatic 212) := by decide +kernel
theorem o129 : De cB14 43 1 44 .return_ := by decide +kernel
theorem o227 : De cB25 0 1 1 (.aload_n 0) := by decide +kernel
theorem o228 : De cB25 1 3 4 (.invokespecial 1) := by decide +kernel
theorem o229 : De cB25 4 1 5 (.aload_n 1) := by decide +kernel
theorem o230 : De cB25 5 3 8 (.invokevirtual 552) := by decide +kernel
theorem o231 : De cB25 8 1 9 (.astore_n 3) := by decide +kernel
theorem o232 : De cB25 9 1 10 (.aload_n 1) := by decide +kernel
theorem o233 : De cB25 10 3 13 (.invokevirtual 549) := by decide +kernel
theorem o234 : De cB25 13 2 15 (.istore 4) := by decide +kernel
theorem o235 : De cB25 15 1 16 (.aload_n 1) := by decide +kernel
theorem o236 : De cB25 16 3 19 (.invokevirtual 1047) := by decide +kernel
theorem o237 : De cB25 19 3 22 (.ifCond .eq 22) := by decide +kernel
theorem o238 : De cB25 22 1 23 (.aload_n 0) := by decide +kernel
theorem o239 : De cB25 23 1 24 (.iconst 0) := by decide +kernel
theorem o240 : De cB25 24 3 27 (.putfield 15) := by decide +kernel
theorem o241 : De cB25 27 1 28 (.aload_n 0) := by decide +kernel
theorem o242 : De cB25 28 1 29 (.aload_n 3) := by decide +kernel
theorem o243 : De cB25 29 1 30 (.iconst 0) := by decide +kernel
theorem o244 : De cB25 30 2 32 (.iload 4) := by decide +kernel
theorem o245 : De cB25 32 3 35 (.invokestatic 54) := by decide +kernel
theorem o246 : De cB25 35 3 38 (.putfield 9) := by decide +kernel
theorem o247 : De cB25 97 1 98 .return_ := by decide +kernel
theorem o50 : De cB7 0 1 1 (.aload_n 0) := by decide +kernel
theorem o51 : De cB7 1 3 4 (.invokespecial 1) := by decide +kernel
theorem o52 : De cB7 4 1 5 (.aload_n 0) := by decide +kernel
theorem o53 : De cB7 5 1 6 (.aload_n 1) := by decide +kernel
theorem o54 : De cB7 6 3 9 (.putfield 9) := by decide +kernel
theorem o55 : De cB7 9 1 10 (.aload_n 0) := by decide +kernel
theorem o56 : De cB7 10 1 11 (.iload_n 2) := by decide +kernel
theorem o57 : De cB7 11 3 14 (.putfield 15) := by decide +kernel
theorem o58 : De cB7 14 1 15 .return_ := by decide +kernel
theorem o0 : De cB0 0 3 3 (.getstatic 38) := by decide +kernel
theorem o1 : De cB0 3 3 6 (.ifCond .eq 10) := by decide +kernel
theorem o2 : De cB0 6 1 7 (.aload_n 0) := by decide +kernel
theorem o3 : De cB0 7 3 10 (.getfield 15) := by decide +kernel
theorem o4 : De cB0 14 1 15 .ireturn := by decide +kernel
theorem o35 : De cB5 0 3 3 (.getstatic 38) := by decide +kernel
theorem o36 : De cB5 3 3 6 (.ifCond .eq 14) := by decide +kernel
theorem o37 : De cB5 6 1 7 (.aload_n 0) := by decide +kernel
theorem o38 : De cB5 7 3 10 (.getfield 15) := by decide +kernel
theorem o39 : De cB5 10 3 13 (.ifCond .ne 7) := by decide +kernel
theorem o40 : De cB5 13 1 14 (.iconst 1) := by decide +kernel
theorem o41 : De cB5 18 1 19 .ireturn := by decide +kernel
theorem o18 : De cB3 0 1 1 (.iload_n 0) := by decide +kernel
theorem o19 : De cB3 1 1 2 (.iload_n 1) := by decide +kernel
theorem o20 : De cB3 2 3 5 (.getstatic 1053) := by decide +kernel
theorem o21 : De cB3 5 3 8 (.invokestatic 1059) := by decide +kernel
theorem o22 : De cB3 8 1 9 .pop := by decide +kernel
theorem o23 : De cB3 9 1 10 .return_ := by decide +kernel
theorem o248 : De cB26 0 1 1 (.aload_n 0) := by decide +kernel
theorem o249 : De cB26 1 1 2 (.aload_n 1) := by decide +kernel
theorem o250 : De cB26 2 1 3 .aconst_null := by decide +kernel
theorem o251 : De cB26 3 3 6 (.invokespecial 489) := by decide +kernel
theorem o252 : De cB26 6 1 7 .return_ := by decide +kernel
theorem o5 : De cB1 0 1 1 (.aload_n 0) := by decide +kernel
theorem o6 : De cB1 1 3 4 (.getfield 9) := by decide +kernel
theorem o7 : De cB1 4 1 5 .arraylength := by decide +kernel
theorem o8 : De cB1 5 1 6 (.aload_n 0) := by decide +kernel
theorem o9 : De cB1 6 3 9 (.invokevirtual 335) := by decide +kernel
theorem o10 : De cB1 9 1 10 .ishr := by decide +kernel
theorem o11 : De cB1 10 1 11 .ireturn := by decide +kernel
theorem o42 : De cB6 0 1 1 (.aload_n 0) := by decide +kernel
theorem o43 : De cB6 1 3 4 (.invokevirtual 492) := by decide +kernel
theorem o44 : De cB6 4 3 7 (.ifCond .eq 12) := by decide +kernel
theorem o45 : De cB6 7 1 8 (.aload_n 0) := by decide +kernel
theorem o46 : De cB6 8 3 11 (.getfield 9) := by decide +kernel
theorem o47 : De cB6 11 1 12 (.iload_n 1) := by decide +kernel
theorem o48 : De cB6 12 3 15 (.invokestatic 495) := by decide +kernel
theorem o49 : De cB6 15 1 16 .ireturn := by decide +kernel
theorem o24 : De cB4 0 1 1 (.iload_n 1) := by decide +kernel
theorem o25 : De cB4 1 1 2 (.aload_n 0) := by decide +kernel
theorem o26 : De cB4 2 1 3 .arraylength := by decide +kernel
theorem o27 : De cB4 3 3 6 (.invokestatic 9) := by decide +kernel
theorem o28 : De cB4 6 1 7 (.aload_n 0) := by decide +kernel
theorem o29 : De cB4 7 1 8 (.iload_n 1) := by decide +kernel
theorem o30 : De cB4 8 1 9 .baload := by decide +kernel
theorem o31 : De cB4 9 3 12 (.sipush 255) := by decide +kernel
theorem o32 : De cB4 12 1 13 .iand := by decide +kernel
theorem o33 : De cB4 13 1 14 .i2c := by decide +kernel
theorem o34 : De cB4 14 1 15 .ireturn := by decide +kernel
theorem o59 : De cB8 0 1 1 (.iload_n 0) := by decide +kernel
theorem o60 : De cB8 1 3 4 (.sipush 255) := by decide +kernel
theorem o61 : De cB8 4 3 7 (.if_icmp .gt 7) := by decide +kernel
theorem o62 : De cB8 7 1 8 (.iconst 1) := by decide +kernel
theorem o63 : De cB8 12 1 13 .ireturn := by decide +kernel
theorem o64 : De cB9 0 1 1 (.iconst 1) := by decide +kernel
theorem o65 : De cB9 1 2 3 (.newarray .byte) := by decide +kernel
theorem o66 : De cB9 3 1 4 .dup := by decide +kernel
theorem o67 : De cB9 4 1 5 (.iconst 0) := by decide +kernel
theorem o68 : De cB9 5 1 6 (.iload_n 0) := by decide +kernel
theorem o69 : De cB9 6 1 7 .i2b := by decide +kernel
theorem o70 : De cB9 7 1 8 .bastore := by decide +kernel
theorem o71 : De cB9 8 1 9 .areturn := by decide +kernel
theorem o270 : De cB30 0 1 1 (.iload_n 0) := by decide +kernel
theorem o271 : De cB30 1 1 2 (.iload_n 1) := by decide +kernel
theorem o272 : De cB30 2 1 3 (.iload_n 2) := by decide +kernel
theorem o273 : De cB30 3 3 6 (.invokestatic 194) := by decide +kernel
theorem o274 : De cB30 6 1 7 .iadd := by decide +kernel
theorem o275 : De cB30 7 1 8 (.istore_n 3) := by decide +kernel
theorem o276 : De cB30 8 1 9 (.iconst 0) := by decide +kernel
theorem o277 : De cB30 9 1 10 (.iload_n 3) := by decide +kernel
theorem o278 : De cB30 10 3 13 (.if_icmp .ge 11) := by decide +kernel
theorem o279 : De cB30 13 1 14 (.iload_n 3) := by decide +kernel
theorem o280 : De cB30 14 2 16 (.ldc 200) := by decide +kernel
theorem o281 : De cB30 16 3 19 (.if_icmp .gt 5) := by decide +kernel
theorem o282 : De cB30 19 1 20 (.iload_n 3) := by decide +kernel
theorem o283 : De cB30 20 1 21 .ireturn := by decide +kernel
theorem o314 : De cB32 0 1 1 (.iload_n 1) := by decide +kernel
theorem o315 : De cB32 1 1 2 (.aload_n 0) := by decide +kernel
theorem o316 : De cB32 2 1 3 .arraylength := by decide +kernel
theorem o317 : De cB32 14 1 15 (.iload_n 1) := by decide +kernel
theorem o318 : De cB32 15 2 17 (.newarray .byte) := by decide +kernel
theorem o319 : De cB32 17 1 18 (.astore_n 2) := by decide +kernel
theorem o320 : De cB32 18 1 19 (.aload_n 0) := by decide +kernel
theorem o321 : De cB32 19 1 20 (.iconst 0) := by decide +kernel
theorem o322 : De cB32 20 1 21 (.aload_n 2) := by decide +kernel
theorem o323 : De cB32 21 1 22 (.iconst 0) := by decide +kernel
theorem o324 : De cB32 22 1 23 (.aload_n 0) := by decide +kernel
theorem o325 : De cB32 23 1 24 .arraylength := by decide +kernel
theorem o326 : De cB32 24 1 25 (.iload_n 1) := by decide +kernel
theorem o327 : De cB32 25 3 28 (.invokestatic 304) := by decide +kernel
theorem o328 : De cB32 28 3 31 (.invokestatic 150) := by decide +kernel
theorem o329 : De cB32 31 1 32 (.aload_n 2) := by decide +kernel
theorem o330 : De cB32 32 1 33 .areturn := by decide +kernel
theorem o347 : De cB34 0 1 1 (.iload_n 1) := by decide +kernel
theorem o348 : De cB34 1 1 2 (.iload_n 0) := by decide +kernel
theorem o349 : De cB34 37 1 38 .return_ := by decide +kernel
theorem o218 : De cB24 0 1 1 (.iload_n 1) := by decide +kernel
theorem o219 : De cB24 1 3 4 (.ifCond .ne 9) := by decide +kernel
theorem o220 : De cB24 4 1 5 (.iload_n 2) := by decide +kernel
theorem o221 : De cB24 5 1 6 (.aload_n 0) := by decide +kernel
theorem o222 : De cB24 6 1 7 .arraylength := by decide +kernel
theorem o373 : De cB24 7 3 10 (.if_icmp .eq 10) := by decide +kernel
theorem o374 : De cB24 10 1 11 (.aload_n 0) := by decide +kernel
theorem o375 : De cB24 11 1 12 (.iload_n 1) := by decide +kernel
theorem o376 : De cB24 12 1 13 (.iload_n 2) := by decide +kernel
theorem o377 : De cB24 13 3 16 (.invokestatic 339) := by decide +kernel
theorem o378 : De cB24 16 1 17 .areturn := by decide +kernel
theorem o223 : De cB24 17 1 18 (.aload_n 0) := by decide +kernel
theorem o224 : De cB24 18 3 21 (.invokevirtual 310) := by decide +kernel
theorem o225 : De cB24 21 3 24 (.checkcast 311) := by decide +kernel
theorem o226 : De cB24 24 1 25 .areturn := by decide +kernel
theorem o350 : De cB35 0 1 1 (.iload_n 1) := by decide +kernel
theorem o351 : De cB35 1 1 2 (.iload_n 2) := by decide +kernel
theorem o352 : De cB35 2 3 5 (.invokestatic 343) := by decide +kernel
theorem o353 : De cB35 5 1 6 (.iload_n 2) := by decide +kernel
theorem o354 : De cB35 6 1 7 (.iload_n 1) := by decide +kernel
theorem o355 : De cB35 7 1 8 .isub := by decide +kernel
theorem o356 : De cB35 8 1 9 (.istore_n 3) := by decide +kernel
theorem o357 : De cB35 9 1 10 (.iload_n 3) := by decide +kernel
theorem o358 : De cB35 10 2 12 (.newarray .byte) := by decide +kernel
theorem o359 : De cB35 12 2 14 (.astore 4) := by decide +kernel
theorem o360 : De cB35 14 1 15 (.aload_n 0) := by decide +kernel
theorem o361 : De cB35 15 1 16 (.iload_n 1) := by decide +kernel
theorem o362 : De cB35 16 2 18 (.aload 4) := by decide +kernel
theorem o363 : De cB35 18 1 19 (.iconst 0) := by decide +kernel
theorem o364 : De cB35 19 1 20 (.aload_n 0) := by decide +kernel
theorem o365 : De cB35 20 1 21 .arraylength := by decide +kernel
theorem o366 : De cB35 21 1 22 (.iload_n 1) := by decide +kernel
theorem o367 : De cB35 22 1 23 .isub := by decide +kernel
theorem o368 : De cB35 23 1 24 (.iload_n 3) := by decide +kernel
theorem o369 : De cB35 24 3 27 (.invokestatic 304) := by decide +kernel
theorem o370 : De cB35 27 3 30 (.invokestatic 150) := by decide +kernel
theorem o371 : De cB35 30 2 32 (.aload 4) := by decide +kernel
theorem o372 : De cB35 32 1 33 .areturn := by decide +kernel
theorem o203 : De cB20 0 1 1 (.aload_n 0) := by decide +kernel
theorem o204 : De cB20 1 1 2 (.iload_n 1) := by decide +kernel
theorem o205 : De cB20 2 3 5 (.invokespecial 50) := by decide +kernel
theorem o206 : De cB20 5 1 6 .pop := by decide +kernel
theorem o207 : De cB20 6 1 7 (.aload_n 0) := by decide +kernel
theorem o208 : De cB20 7 1 8 .areturn := by decide +kernel
theorem o463 : De cB39 0 1 1 (.aload_n 0) := by decide +kernel
theorem o464 : De cB39 1 1 2 (.lload_n 1) := by decide +kernel
theorem o465 : De cB39 2 3 5 (.invokespecial 56) := by decide +kernel
theorem o466 : De cB39 5 1 6 .pop := by decide +kernel
theorem o467 : De cB39 6 1 7 (.aload_n 0) := by decide +kernel
theorem o468 : De cB39 7 1 8 .areturn := by decide +kernel
theorem o343 : De cB33 0 1 1 (.aload_n 0) := by decide +kernel
theorem o344 : De cB33 1 2 3 (.bipush 16) := by decide +kernel
theorem o345 : De cB33 3 3 6 (.invokespecial 1) := by decide +kernel
theorem o346 : De cB33 6 1 7 .return_ := by decide +kernel
theorem o253 : De cB27 0 3 3 (.new 18) := by decide +kernel
theorem o254 : De cB27 3 1 4 .dup := by decide +kernel
theorem o255 : De cB27 4 1 5 (.aload_n 0) := by decide +kernel
theorem o256 : De cB27 5 3 8 (.invokespecial 137) := by decide +kernel
theorem o257 : De cB27 8 1 9 .areturn := by decide +kernel
theorem o164 : De cB17 0 1 1 (.aload_n 0) := by decide +kernel
theorem o165 : De cB17 1 1 2 (.aload_n 1) := by decide +kernel
theorem o166 : De cB17 2 3 5 (.invokespecial 29) := by decide +kernel
theorem o167 : De cB17 5 1 6 .pop := by decide +kernel
theorem o168 : De cB17 6 1 7 (.aload_n 0) := by decide +kernel
theorem o169 : De cB17 7 1 8 .areturn := by decide +kernel
theorem o215 : De cB23 0 1 1 (.aload_n 0) := by decide +kernel
theorem o216 : De cB23 1 3 4 (.invokespecial 343) := by decide +kernel
theorem o217 : De cB23 4 1 5 .ireturn := by decide +kernel
theorem o284 : De cB31 0 1 1 (.aload_n 0) := by decide +kernel
theorem o285 : De cB31 1 3 4 (.getfield 15) := by decide +kernel
theorem o286 : De cB31 4 1 5 .arraylength := by decide +kernel
theorem o287 : De cB31 5 1 6 (.istore_n 2) := by decide +kernel
theorem o288 : De cB31 6 1 7 (.iload_n 1) := by decide +kernel
theorem o289 : De cB31 7 1 8 (.aload_n 0) := by decide +kernel
theorem o290 : De cB31 8 3 11 (.getfield 22) := by decide +kernel
theorem o291 : De cB31 11 1 12 .ishl := by decide +kernel
theorem o292 : De cB31 12 1 13 (.istore_n 3) := by decide +kernel
theorem o293 : De cB31 13 1 14 (.iload_n 3) := by decide +kernel
theorem o294 : De cB31 14 1 15 (.iload_n 2) := by decide +kernel
theorem o295 : De cB31 15 1 16 .isub := by decide +kernel
theorem o296 : De cB31 16 2 18 (.istore 4) := by decide +kernel
theorem o297 : De cB31 18 1 19 (.iload_n 2) := by decide +kernel
theorem o298 : De cB31 19 2 21 (.iload 4) := by decide +kernel
theorem o299 : De cB31 21 1 22 (.iload_n 2) := by decide +kernel
theorem o300 : De cB31 22 1 23 (.iconst 2) := by decide +kernel
theorem o301 : De cB31 23 1 24 (.aload_n 0) := by decide +kernel
theorem o302 : De cB31 24 3 27 (.getfield 22) := by decide +kernel
theorem o303 : De cB31 27 1 28 .ishl := by decide +kernel
theorem o304 : De cB31 28 1 29 .iadd := by decide +kernel
theorem o305 : De cB31 29 3 32 (.invokestatic 114) := by decide +kernel
theorem o306 : De cB31 32 2 34 (.istore 5) := by decide +kernel
theorem o307 : De cB31 34 2 36 (.iload 5) := by decide +kernel
theorem o308 : De cB31 36 2 38 (.ldc 39) := by decide +kernel
theorem o309 : De cB31 51 2 53 (.iload 5) := by decide +kernel
theorem o310 : De cB31 53 1 54 (.aload_n 0) := by decide +kernel
theorem o311 : De cB31 54 3 57 (.getfield 22) := by decide +kernel
theorem o312 : De cB31 57 1 58 .ishr := by decide +kernel
theorem o313 : De cB31 58 1 59 .ireturn := by decide +kernel
theorem o141 : De cB16 0 1 1 (.aload_n 1) := by decide +kernel
theorem o142 : De cB16 9 1 10 (.aload_n 1) := by decide +kernel
theorem o143 : De cB16 10 3 13 (.invokevirtual 32) := by decide +kernel
theorem o144 : De cB16 13 1 14 (.istore_n 2) := by decide +kernel
theorem o145 : De cB16 14 1 15 (.aload_n 0) := by decide +kernel
theorem o146 : De cB16 15 1 16 (.aload_n 0) := by decide +kernel
theorem o147 : De cB16 16 3 19 (.getfield 79) := by decide +kernel
theorem o148 : De cB16 19 1 20 (.iload_n 2) := by decide +kernel
theorem o149 : De cB16 20 1 21 .iadd := by decide +kernel
theorem o150 : De cB16 21 3 24 (.invokevirtual 100) := by decide +kernel
theorem o151 : De cB16 24 1 25 (.aload_n 0) := by decide +kernel
theorem o152 : De cB16 25 1 26 (.aload_n 0) := by decide +kernel
theorem o153 : De cB16 26 3 29 (.getfield 79) := by decide +kernel
theorem o154 : De cB16 29 1 30 (.aload_n 1) := by decide +kernel
theorem o155 : De cB16 30 3 33 (.invokevirtual 208) := by decide +kernel
theorem o156 : De cB16 33 1 34 (.aload_n 0) := by decide +kernel
theorem o157 : De cB16 34 1 35 .dup := by decide +kernel
theorem o158 : De cB16 35 3 38 (.getfield 79) := by decide +kernel
theorem o159 : De cB16 38 1 39 (.iload_n 2) := by decide +kernel
theorem o160 : De cB16 39 1 40 .iadd := by decide +kernel
theorem o161 : De cB16 40 3 43 (.putfield 79) := by decide +kernel
theorem o162 : De cB16 43 1 44 (.aload_n 0) := by decide +kernel
theorem o163 : De cB16 44 1 45 .areturn := by decide +kernel
theorem o84 : De cB11 0 1 1 (.aload_n 0) := by decide +kernel
theorem o85 : De cB11 1 3 4 (.invokespecial 3) := by decide +kernel
theorem o86 : De cB11 4 3 7 (.getstatic 18) := by decide +kernel
theorem o87 : De cB11 7 3 10 (.ifCond .eq 18) := by decide +kernel
theorem o88 : De cB11 10 1 11 (.aload_n 0) := by decide +kernel
theorem o89 : De cB11 11 1 12 (.iload_n 1) := by decide +kernel
theorem o90 : De cB11 12 2 14 (.newarray .byte) := by decide +kernel
theorem o91 : De cB11 14 3 17 (.putfield 15) := by decide +kernel
theorem o92 : De cB11 17 1 18 (.aload_n 0) := by decide +kernel
theorem o93 : De cB11 18 1 19 (.iconst 0) := by decide +kernel
theorem o94 : De cB11 19 3 22 (.putfield 22) := by decide +kernel
theorem o95 : De cB11 38 1 39 .return_ := by decide +kernel
theorem o177 : De cB19 0 1 1 (.aload_n 0) := by decide +kernel
theorem o178 : De cB19 1 1 2 (.aload_n 0) := by decide +kernel
theorem o179 : De cB19 2 3 5 (.getfield 79) := by decide +kernel
theorem o180 : De cB19 5 1 6 (.iconst 1) := by decide +kernel
theorem o181 : De cB19 6 1 7 .iadd := by decide +kernel
theorem o182 : De cB19 7 3 10 (.invokevirtual 100) := by decide +kernel
theorem o183 : De cB19 10 1 11 (.aload_n 0) := by decide +kernel
theorem o184 : De cB19 11 3 14 (.invokevirtual 83) := by decide +kernel
theorem o185 : De cB19 14 3 17 (.ifCond .eq 31) := by decide +kernel
theorem o186 : De cB19 17 1 18 (.iload_n 1) := by decide +kernel
theorem o187 : De cB19 18 3 21 (.invokestatic 191) := by decide +kernel
theorem o188 : De cB19 21 3 24 (.ifCond .eq 24) := by decide +kernel
theorem o189 : De cB19 24 1 25 (.aload_n 0) := by decide +kernel
theorem o190 : De cB19 25 3 28 (.getfield 15) := by decide +kernel
theorem o191 : De cB19 28 1 29 (.aload_n 0) := by decide +kernel
theorem o192 : De cB19 29 1 30 .dup := by decide +kernel
theorem o193 : De cB19 30 3 33 (.getfield 79) := by decide +kernel
theorem o194 : De cB19 33 1 34 .dup_x1 := by decide +kernel
theorem o195 : De cB19 34 1 35 (.iconst 1) := by decide +kernel
theorem o196 : De cB19 35 1 36 .iadd := by decide +kernel
theorem o197 : De cB19 36 3 39 (.putfield 79) := by decide +kernel
theorem o198 : De cB19 39 1 40 (.iload_n 1) := by decide +kernel
theorem o199 : De cB19 40 1 41 .i2b := by decide +kernel
theorem o200 : De cB19 41 1 42 .bastore := by decide +kernel
theorem o201 : De cB19 75 1 76 (.aload_n 0) := by decide +kernel
theorem o202 : De cB19 76 1 77 .areturn := by decide +kernel
theorem o438 : De cB38 0 1 1 (.aload_n 0) := by decide +kernel
theorem o439 : De cB38 1 3 4 (.getfield 79) := by decide +kernel
theorem o440 : De cB38 4 1 5 (.istore_n 3) := by decide +kernel
theorem o441 : De cB38 5 1 6 (.iload_n 3) := by decide +kernel
theorem o442 : De cB38 6 1 7 (.lload_n 1) := by decide +kernel
theorem o443 : De cB38 7 3 10 (.invokestatic 254) := by decide +kernel
theorem o444 : De cB38 10 1 11 .iadd := by decide +kernel
theorem o445 : De cB38 11 2 13 (.istore 4) := by decide +kernel
theorem o446 : De cB38 13 1 14 (.aload_n 0) := by decide +kernel
theorem o447 : De cB38 14 2 16 (.iload 4) := by decide +kernel
theorem o448 : De cB38 16 3 19 (.invokevirtual 100) := by decide +kernel
theorem o449 : De cB38 19 1 20 (.aload_n 0) := by decide +kernel
theorem o450 : De cB38 20 3 23 (.invokevirtual 83) := by decide +kernel
theorem o451 : De cB38 23 3 26 (.ifCond .eq 17) := by decide +kernel
theorem o452 : De cB38 26 1 27 (.lload_n 1) := by decide +kernel
theorem o453 : De cB38 27 2 29 (.iload 4) := by decide +kernel
theorem o454 : De cB38 29 1 30 (.aload_n 0) := by decide +kernel
theorem o455 : De cB38 30 3 33 (.getfield 15) := by decide +kernel
theorem o456 : De cB38 33 3 36 (.invokestatic 259) := by decide +kernel
theorem o457 : De cB38 36 1 37 .pop := by decide +kernel
theorem o458 : De cB38 52 1 53 (.aload_n 0) := by decide +kernel
theorem o459 : De cB38 53 2 55 (.iload 4) := by decide +kernel
theorem o460 : De cB38 55 3 58 (.putfield 79) := by decide +kernel
theorem o461 : De cB38 58 1 59 (.aload_n 0) := by decide +kernel
theorem o462 : De cB38 59 1 60 .areturn := by decide +kernel
theorem o209 : De cB21 0 1 1 (.aload_n 0) := by decide +kernel
theorem o210 : De cB21 1 3 4 (.getfield 15) := by decide +kernel
theorem o211 : De cB21 4 1 5 .areturn := by decide +kernel
theorem o170 : De cB18 0 3 3 (.getstatic 18) := by decide +kernel
theorem o171 : De cB18 3 3 6 (.ifCond .eq 14) := by decide +kernel
theorem o172 : De cB18 6 1 7 (.aload_n 0) := by decide +kernel
theorem o173 : De cB18 7 3 10 (.getfield 22) := by decide +kernel
theorem o174 : De cB18 10 3 13 (.ifCond .ne 7) := by decide +kernel
theorem o175 : De cB18 13 1 14 (.iconst 1) := by decide +kernel
theorem o176 : De cB18 18 1 19 .ireturn := by decide +kernel
theorem o212 : De cB22 0 1 1 (.aload_n 0) := by decide +kernel
theorem o213 : De cB22 1 3 4 (.getfield 79) := by decide +kernel
theorem o214 : De cB22 4 1 5 .ireturn := by decide +kernel
theorem o107 : De cB13 0 3 3 (.getstatic 18) := by decide +kernel
theorem o108 : De cB13 3 3 6 (.ifCond .eq 18) := by decide +kernel
theorem o109 : De cB13 6 1 7 (.aload_n 0) := by decide +kernel
theorem o110 : De cB13 7 3 10 (.getfield 22) := by decide +kernel
theorem o111 : De cB13 10 1 11 (.aload_n 1) := by decide +kernel
theorem o112 : De cB13 11 3 14 (.invokevirtual 40) := by decide +kernel
theorem o113 : De cB13 21 1 22 .return_ := by decide +kernel
theorem o130 : De cB15 0 1 1 (.aload_n 0) := by decide +kernel
theorem o131 : De cB15 1 1 2 (.aload_n 2) := by decide +kernel
theorem o132 : De cB15 2 3 5 (.invokevirtual 397) := by decide +kernel
theorem o133 : De cB15 5 1 6 (.aload_n 2) := by decide +kernel
theorem o134 : De cB15 6 1 7 (.aload_n 0) := by decide +kernel
theorem o135 : De cB15 7 3 10 (.getfield 15) := by decide +kernel
theorem o136 : De cB15 10 1 11 (.iload_n 1) := by decide +kernel
theorem o137 : De cB15 11 1 12 (.aload_n 0) := by decide +kernel
theorem o138 : De cB15 12 3 15 (.getfield 22) := by decide +kernel
theorem o139 : De cB15 15 3 18 (.invokevirtual 399) := by decide +kernel
theorem o140 : De cB15 18 1 19 .return_ := by decide +kernel
theorem o96 : De cB12 0 1 1 (.aload_n 0) := by decide +kernel
theorem o97 : De cB12 1 3 4 (.getfield 15) := by decide +kernel
theorem o98 : De cB12 4 1 5 .arraylength := by decide +kernel
theorem o99 : De cB12 5 1 6 (.aload_n 0) := by decide +kernel
theorem o100 : De cB12 6 3 9 (.getfield 22) := by decide +kernel
theorem o101 : De cB12 9 1 10 .ishr := by decide +kernel
theorem o102 : De cB12 10 1 11 (.istore_n 2) := by decide +kernel
theorem o103 : De cB12 11 1 12 (.iload_n 1) := by decide +kernel
theorem o104 : De cB12 12 1 13 (.iload_n 2) := by decide +kernel
theorem o105 : De cB12 13 1 14 .isub := by decide +kernel
theorem o331 : De cB12 14 3 17 (.ifCond .le 24) := by decide +kernel
theorem o332 : De cB12 17 1 18 (.aload_n 0) := by decide +kernel
theorem o333 : De cB12 18 1 19 (.aload_n 0) := by decide +kernel
theorem o334 : De cB12 19 3 22 (.getfield 15) := by decide +kernel
theorem o335 : De cB12 22 1 23 (.aload_n 0) := by decide +kernel
theorem o336 : De cB12 23 1 24 (.iload_n 1) := by decide +kernel
theorem o337 : De cB12 24 3 27 (.invokevirtual 104) := by decide +kernel
theorem o338 : De cB12 27 1 28 (.aload_n 0) := by decide +kernel
theorem o339 : De cB12 28 3 31 (.getfield 22) := by decide +kernel
theorem o340 : De cB12 31 1 32 .ishl := by decide +kernel
theorem o341 : De cB12 32 3 35 (.invokestatic 108) := by decide +kernel
theorem o342 : De cB12 35 3 38 (.putfield 15) := by decide +kernel
theorem o106 : De cB12 38 1 39 .return_ := by decide +kernel
theorem o469 : De cB40 0 1 1 (.iload_n 0) := by decide +kernel
theorem o470 : De cB40 1 1 2 (.iconst 3) := by decide +kernel
theorem o471 : De cB40 2 1 3 .iand := by decide +kernel
theorem o472 : De cB40 3 1 4 (.istore_n 1) := by decide +kernel
theorem o473 : De cB40 4 1 5 (.iload_n 1) := by decide +kernel
theorem o474 : De cB40 5 3 8 (.ifCond .ne 6) := by decide +kernel
theorem o475 : De cB40 8 2 10 (.bipush 92) := by decide +kernel
theorem o476 : De cB40 10 1 11 .ireturn := by decide +kernel
theorem o477 : De cB40 11 1 12 (.iload_n 1) := by decide +kernel
theorem o478 : De cB40 12 1 13 (.iconst 1) := by decide +kernel
theorem o479 : De cB40 13 3 16 (.if_icmp .ne 6) := by decide +kernel
theorem o480 : De cB40 16 2 18 (.bipush 34) := by decide +kernel
theorem o481 : De cB40 18 1 19 .ireturn := by decide +kernel
theorem o482 : De cB40 19 1 20 (.iload_n 1) := by decide +kernel
theorem o483 : De cB40 20 1 21 (.iconst 2) := by decide +kernel
theorem o484 : De cB40 21 3 24 (.if_icmp .ne 6) := by decide +kernel
theorem o485 : De cB40 24 2 26 (.bipush 10) := by decide +kernel
theorem o486 : De cB40 26 1 27 .ireturn := by decide +kernel
theorem o487 : De cB40 27 1 28 (.iload_n 0) := by decide +kernel
theorem o488 : De cB40 28 1 29 (.iconst 2) := by decide +kernel
theorem o489 : De cB40 29 1 30 .iushr := by decide +kernel
theorem o490 : De cB40 30 3 33 (.sipush 255) := by decide +kernel
theorem o491 : De cB40 33 1 34 .iand := by decide +kernel
theorem o492 : De cB40 34 1 35 .i2c := by decide +kernel
theorem o493 : De cB40 35 1 36 .ireturn := by decide +kernel
theorem o494 : De cB41 0 1 1 (.iload_n 1) := by decide +kernel
theorem o495 : De cB41 1 3 4 (.ifCond .lt 24) := by decide +kernel
theorem o496 : De cB41 4 1 5 (.iload_n 1) := by decide +kernel
theorem o497 : De cB41 5 1 6 (.aload_n 0) := by decide +kernel
theorem o498 : De cB41 6 3 9 (.invokevirtual 79) := by decide +kernel
theorem o499 : De cB41 9 3 12 (.if_icmp .ge 16) := by decide +kernel
theorem o500 : De cB41 12 1 13 (.aload_n 0) := by decide +kernel
theorem o501 : De cB41 13 1 14 (.iload_n 1) := by decide +kernel
theorem o502 : De cB41 14 3 17 (.invokevirtual 83) := by decide +kernel
theorem o503 : De cB41 17 1 18 (.iload_n 2) := by decide +kernel
theorem o504 : De cB41 18 3 21 (.if_icmp .ne 7) := by decide +kernel
theorem o505 : De cB41 21 1 22 (.iconst 1) := by decide +kernel
theorem o506 : De cB41 26 1 27 .ireturn := by decide +kernel
theorem o507 : De cB42 0 1 1 (.iload_n 3) := by decide +kernel
theorem o508 : De cB42 1 1 2 (.aload_n 2) := by decide +kernel
theorem o509 : De cB42 2 3 5 (.invokevirtual 79) := by decide +kernel
theorem o510 : De cB42 5 3 8 (.if_icmp .ge 18) := by decide +kernel
theorem o513 : De cB42 8 1 9 (.aload_n 0) := by decide +kernel
theorem o514 : De cB42 9 1 10 (.iload_n 1) := by decide +kernel
theorem o515 : De cB42 10 1 11 (.iload_n 3) := by decide +kernel
theorem o516 : De cB42 11 1 12 .iadd := by decide +kernel
theorem o517 : De cB42 12 1 13 (.aload_n 2) := by decide +kernel
theorem o518 : De cB42 13 1 14 (.iload_n 3) := by decide +kernel
theorem o519 : De cB42 14 3 17 (.invokevirtual 83) := by decide +kernel
theorem o520 : De cB42 17 3 20 (.invokestatic 66) := by decide +kernel
theorem o521 : De cB42 20 3 23 (.ifCond .eq 7) := by decide +kernel
theorem o511 : De cB42 23 1 24 (.iconst 1) := by decide +kernel
theorem o512 : De cB42 28 1 29 .ireturn := by decide +kernel
theorem o522 : De cB43 0 1 1 (.aload_n 0) := by decide +kernel
theorem o523 : De cB43 1 1 2 (.iload_n 1) := by decide +kernel
theorem o524 : De cB43 2 1 3 (.aload_n 2) := by decide +kernel
theorem o525 : De cB43 3 1 4 (.iconst 0) := by decide +kernel
theorem o526 : De cB43 4 3 7 (.invokestatic 86) := by decide +kernel
theorem o527 : De cB43 7 3 10 (.ifCond .eq 90) := by decide +kernel
theorem o528 : De cB43 10 1 11 (.aload_n 0) := by decide +kernel
theorem o529 : De cB43 11 1 12 (.iload_n 1) := by decide +kernel
theorem o530 : De cB43 12 1 13 (.aload_n 2) := by decide +kernel
theorem o531 : De cB43 13 1 14 (.iconst 1) := by decide +kernel
theorem o532 : De cB43 14 3 17 (.invokestatic 86) := by decide +kernel
theorem o533 : De cB43 17 3 20 (.ifCond .eq 80) := by decide +kernel
theorem o534 : De cB43 20 1 21 (.aload_n 0) := by decide +kernel
theorem o535 : De cB43 21 1 22 (.iload_n 1) := by decide +kernel
theorem o536 : De cB43 22 1 23 (.aload_n 2) := by decide +kernel
theorem o537 : De cB43 23 1 24 (.iconst 2) := by decide +kernel
theorem o538 : De cB43 24 3 27 (.invokestatic 86) := by decide +kernel
theorem o539 : De cB43 27 3 30 (.ifCond .eq 70) := by decide +kernel
theorem o540 : De cB43 30 1 31 (.aload_n 0) := by decide +kernel
theorem o541 : De cB43 31 1 32 (.iload_n 1) := by decide +kernel
theorem o542 : De cB43 32 1 33 (.aload_n 2) := by decide +kernel
theorem o543 : De cB43 33 1 34 (.iconst 3) := by decide +kernel
theorem o544 : De cB43 34 3 37 (.invokestatic 86) := by decide +kernel
theorem o545 : De cB43 37 3 40 (.ifCond .eq 60) := by decide +kernel
theorem o546 : De cB43 40 1 41 (.aload_n 0) := by decide +kernel
theorem o547 : De cB43 41 1 42 (.iload_n 1) := by decide +kernel
theorem o548 : De cB43 42 1 43 (.aload_n 2) := by decide +kernel
theorem o549 : De cB43 43 1 44 (.iconst 4) := by decide +kernel
theorem o550 : De cB43 44 3 47 (.invokestatic 86) := by decide +kernel
theorem o551 : De cB43 47 3 50 (.ifCond .eq 50) := by decide +kernel
theorem o552 : De cB43 50 1 51 (.aload_n 0) := by decide +kernel
theorem o553 : De cB43 51 1 52 (.iload_n 1) := by decide +kernel
theorem o554 : De cB43 52 1 53 (.aload_n 2) := by decide +kernel
theorem o555 : De cB43 53 1 54 (.iconst 5) := by decide +kernel
theorem o556 : De cB43 54 3 57 (.invokestatic 86) := by decide +kernel
theorem o557 : De cB43 57 3 60 (.ifCond .eq 40) := by decide +kernel
theorem o558 : De cB43 60 1 61 (.aload_n 0) := by decide +kernel
theorem o559 : De cB43 61 1 62 (.iload_n 1) := by decide +kernel
theorem o560 : De cB43 62 1 63 (.aload_n 2) := by decide +kernel
theorem o561 : De cB43 63 2 65 (.bipush 6) := by decide +kernel
theorem o562 : De cB43 65 3 68 (.invokestatic 86) := by decide +kernel
theorem o563 : De cB43 68 3 71 (.ifCond .eq 29) := by decide +kernel
theorem o564 : De cB43 71 1 72 (.aload_n 0) := by decide +kernel
theorem o565 : De cB43 72 1 73 (.iload_n 1) := by decide +kernel
theorem o566 : De cB43 73 1 74 (.aload_n 2) := by decide +kernel
theorem o567 : De cB43 74 2 76 (.bipush 7) := by decide +kernel
theorem o568 : De cB43 76 3 79 (.invokestatic 86) := by decide +kernel
theorem o569 : De cB43 79 3 82 (.ifCond .eq 18) := by decide +kernel
theorem o570 : De cB43 82 1 83 (.aload_n 0) := by decide +kernel
theorem o571 : De cB43 83 1 84 (.iload_n 1) := by decide +kernel
theorem o572 : De cB43 84 1 85 (.aload_n 2) := by decide +kernel
theorem o573 : De cB43 85 2 87 (.bipush 8) := by decide +kernel
theorem o574 : De cB43 87 3 90 (.invokestatic 86) := by decide +kernel
theorem o575 : De cB43 90 3 93 (.ifCond .eq 7) := by decide +kernel
theorem o576 : De cB43 93 1 94 (.iconst 1) := by decide +kernel
theorem o577 : De cB43 98 1 99 .ireturn := by decide +kernel
theorem o617 : De cB45 0 1 1 (.iload_n 0) := by decide +kernel
theorem o618 : De cB45 1 2 3 (.bipush 92) := by decide +kernel
theorem o619 : De cB45 3 3 6 (.if_icmp .eq 9) := by decide +kernel
theorem o622 : De cB45 6 1 7 (.iload_n 0) := by decide +kernel
theorem o623 : De cB45 7 2 9 (.bipush 10) := by decide +kernel
theorem o624 : De cB45 9 3 12 (.if_icmp .ne 7) := by decide +kernel
theorem o620 : De cB45 12 1 13 (.iconst 2) := by decide +kernel
theorem o625 : De cB45 16 1 17 (.iconst 1) := by decide +kernel
theorem o621 : De cB45 17 1 18 .ireturn := by decide +kernel
theorem o578 : De cB44 0 1 1 (.iload_n 2) := by decide +kernel
theorem o579 : De cB44 1 2 3 (.bipush 92) := by decide +kernel
theorem o580 : De cB44 3 3 6 (.if_icmp .ne 31) := by decide +kernel
theorem o581 : De cB44 6 1 7 (.aload_n 0) := by decide +kernel
theorem o582 : De cB44 7 1 8 (.iload_n 1) := by decide +kernel
theorem o583 : De cB44 8 2 10 (.bipush 92) := by decide +kernel
theorem o584 : De cB44 10 3 13 (.invokestatic 66) := by decide +kernel
theorem o585 : De cB44 13 3 16 (.ifCond .eq 19) := by decide +kernel
theorem o586 : De cB44 16 1 17 (.aload_n 0) := by decide +kernel
theorem o587 : De cB44 17 1 18 (.iload_n 1) := by decide +kernel
theorem o588 : De cB44 18 1 19 (.iconst 1) := by decide +kernel
theorem o589 : De cB44 19 1 20 .iadd := by decide +kernel
theorem o590 : De cB44 20 2 22 (.bipush 92) := by decide +kernel
theorem o591 : De cB44 22 3 25 (.invokestatic 66) := by decide +kernel
theorem o592 : De cB44 25 3 28 (.ifCond .eq 7) := by decide +kernel
theorem o593 : De cB44 28 1 29 (.iconst 1) := by decide +kernel
theorem o594 : De cB44 33 1 34 .ireturn := by decide +kernel
theorem o595 : De cB44 34 1 35 (.iload_n 2) := by decide +kernel
theorem o596 : De cB44 35 2 37 (.bipush 10) := by decide +kernel
theorem o597 : De cB44 37 3 40 (.if_icmp .ne 31) := by decide +kernel
theorem o598 : De cB44 40 1 41 (.aload_n 0) := by decide +kernel
theorem o599 : De cB44 41 1 42 (.iload_n 1) := by decide +kernel
theorem o600 : De cB44 42 2 44 (.bipush 92) := by decide +kernel
theorem o601 : De cB44 44 3 47 (.invokestatic 66) := by decide +kernel
theorem o602 : De cB44 47 3 50 (.ifCond .eq 19) := by decide +kernel
theorem o603 : De cB44 50 1 51 (.aload_n 0) := by decide +kernel
theorem o604 : De cB44 51 1 52 (.iload_n 1) := by decide +kernel
theorem o605 : De cB44 52 1 53 (.iconst 1) := by decide +kernel
theorem o606 : De cB44 53 1 54 .iadd := by decide +kernel
theorem o607 : De cB44 54 2 56 (.bipush 110) := by decide +kernel
theorem o608 : De cB44 56 3 59 (.invokestatic 66) := by decide +kernel
theorem o609 : De cB44 59 3 62 (.ifCond .eq 7) := by decide +kernel
theorem o610 : De cB44 62 1 63 (.iconst 1) := by decide +kernel
theorem o611 : De cB44 67 1 68 .ireturn := by decide +kernel
theorem o612 : De cB44 68 1 69 (.aload_n 0) := by decide +kernel
theorem o613 : De cB44 69 1 70 (.iload_n 1) := by decide +kernel
theorem o614 : De cB44 70 1 71 (.iload_n 2) := by decide +kernel
theorem o615 : De cB44 71 3 74 (.invokestatic 66) := by decide +kernel
theorem o616 : De cB44 74 1 75 .ireturn := by decide +kernel
theorem o626 : De cB46 0 1 1 (.aload_n 0) := by decide +kernel
theorem o627 : De cB46 1 3 4 (.invokespecial 1) := by decide +kernel
theorem o628 : De cB46 4 1 5 (.aload_n 0) := by decide +kernel
theorem o629 : De cB46 5 3 8 (.new 7) := by decide +kernel
theorem o630 : De cB46 8 1 9 .dup := by decide +kernel
theorem o631 : De cB46 9 3 12 (.invokespecial 9) := by decide +kernel
theorem o632 : De cB46 12 3 15 (.putfield 10) := by decide +kernel
theorem o633 : De cB46 15 1 16 .return_ := by decide +kernel
theorem o671 : De cB48 0 1 1 (.aload_n 0) := by decide +kernel
theorem o672 : De cB48 1 1 2 (.aload_n 1) := by decide +kernel
theorem o673 : De cB48 2 3 5 (.putfield 16) := by decide +kernel
theorem o674 : De cB48 5 1 6 (.aload_n 0) := by decide +kernel
theorem o675 : De cB48 6 3 9 (.getfield 10) := by decide +kernel
theorem o676 : De cB48 9 2 11 (.ldc 20) := by decide +kernel
theorem o677 : De cB48 11 3 14 (.invokevirtual 22) := by decide +kernel
theorem o678 : De cB48 14 1 15 (.aload_n 1) := by decide +kernel
theorem o679 : De cB48 15 3 18 (.invokevirtual 22) := by decide +kernel
theorem o680 : De cB48 18 2 20 (.bipush 32) := by decide +kernel
theorem o681 : De cB48 20 3 23 (.invokevirtual 26) := by decide +kernel
theorem o682 : De cB48 23 1 24 .pop := by decide +kernel
theorem o683 : De cB48 24 1 25 (.aload_n 0) := by decide +kernel
theorem o684 : De cB48 25 1 26 (.aload_n 3) := by decide +kernel
theorem o685 : De cB48 26 1 27 (.iconst 0) := by decide +kernel
theorem o686 : De cB48 27 3 30 (.invokevirtual 29) := by decide +kernel
theorem o687 : De cB48 30 1 31 (.aload_n 0) := by decide +kernel
theorem o688 : De cB48 31 3 34 (.getfield 10) := by decide +kernel
theorem o689 : De cB48 34 2 36 (.bipush 10) := by decide +kernel
theorem o690 : De cB48 36 3 39 (.invokevirtual 26) := by decide +kernel
theorem o691 : De cB48 39 1 40 .pop := by decide +kernel
theorem o692 : De cB48 40 1 41 (.aload_n 0) := by decide +kernel
theorem o693 : De cB48 41 3 44 (.getfield 10) := by decide +kernel
theorem o694 : De cB48 44 2 46 (.ldc 33) := by decide +kernel
theorem o695 : De cB48 46 3 49 (.invokevirtual 22) := by decide +kernel
theorem o696 : De cB48 49 1 50 (.aload_n 1) := by decide +kernel
theorem o697 : De cB48 50 3 53 (.invokevirtual 22) := by decide +kernel
theorem o698 : De cB48 53 2 55 (.bipush 32) := by decide +kernel
theorem o699 : De cB48 55 3 58 (.invokevirtual 26) := by decide +kernel
theorem o700 : De cB48 58 1 59 (.aload_n 2) := by decide +kernel
theorem o701 : De cB48 59 3 62 (.getfield 35) := by decide +kernel
theorem o702 : De cB48 62 3 65 (.invokevirtual 22) := by decide +kernel
theorem o703 : De cB48 65 2 67 (.bipush 10) := by decide +kernel
theorem o704 : De cB48 67 3 70 (.invokevirtual 26) := by decide +kernel
theorem o705 : De cB48 70 1 71 .pop := by decide +kernel
theorem o706 : De cB48 71 1 72 .return_ := by decide +kernel
theorem o727 : De cB50 0 1 1 (.aload_n 0) := by decide +kernel
theorem o728 : De cB50 1 2 3 (.ldc 40) := by decide +kernel
theorem o729 : De cB50 3 1 4 (.aload_n 3) := by decide +kernel
theorem o730 : De cB50 4 3 7 (.invokevirtual 42) := by decide +kernel
theorem o731 : De cB50 7 1 8 (.aload_n 0) := by decide +kernel
theorem o732 : De cB50 8 3 11 (.getfield 10) := by decide +kernel
theorem o733 : De cB50 11 1 12 (.lload_n 1) := by decide +kernel
theorem o734 : De cB50 12 3 15 (.invokevirtual 46) := by decide +kernel
theorem o735 : De cB50 15 2 17 (.bipush 10) := by decide +kernel
theorem o736 : De cB50 17 3 20 (.invokevirtual 26) := by decide +kernel
theorem o737 : De cB50 20 1 21 .pop := by decide +kernel
theorem o738 : De cB50 21 1 22 .return_ := by decide +kernel
theorem o739 : De cB51 0 1 1 (.aload_n 0) := by decide +kernel
theorem o740 : De cB51 1 3 4 (.getfield 10) := by decide +kernel
theorem o741 : De cB51 4 3 7 (.invokevirtual 93) := by decide +kernel
theorem o742 : De cB51 7 1 8 .areturn := by decide +kernel
theorem o707 : De cB49 0 1 1 (.aload_n 2) := by decide +kernel
theorem o708 : De cB49 1 1 2 .arraylength := by decide +kernel
theorem o709 : De cB49 2 1 3 (.iconst 2) := by decide +kernel
theorem o710 : De cB49 3 1 4 .irem := by decide +kernel
theorem o711 : De cB49 26 1 27 (.aload_n 0) := by decide +kernel
theorem o712 : De cB49 27 3 30 (.getfield 10) := by decide +kernel
theorem o713 : De cB49 30 1 31 (.aload_n 0) := by decide +kernel
theorem o714 : De cB49 31 3 34 (.getfield 16) := by decide +kernel
theorem o715 : De cB49 34 3 37 (.invokevirtual 22) := by decide +kernel
theorem o716 : De cB49 37 1 38 (.aload_n 1) := by decide +kernel
theorem o717 : De cB49 38 3 41 (.invokevirtual 22) := by decide +kernel
theorem o718 : De cB49 41 1 42 .pop := by decide +kernel
theorem o719 : De cB49 42 1 43 (.aload_n 2) := by decide +kernel
theorem o720 : De cB49 43 1 44 .arraylength := by decide +kernel
theorem o721 : De cB49 131 1 132 (.aload_n 0) := by decide +kernel
theorem o722 : De cB49 132 3 135 (.getfield 10) := by decide +kernel
theorem o723 : De cB49 135 2 137 (.bipush 32) := by decide +kernel
theorem o724 : De cB49 137 3 140 (.invokevirtual 26) := by decide +kernel
theorem o725 : De cB49 140 1 141 .pop := by decide +kernel
theorem o726 : De cB49 141 1 142 .return_ := by decide +kernel
theorem o669 : De cB47 0 1 1 (.iconst 0) := by decide +kernel
theorem o670 : De cB47 1 1 2 (.istore_n 3) := by decide +kernel
theorem o634 : De cB47 2 1 3 (.iload_n 3) := by decide +kernel
theorem o635 : De cB47 3 1 4 (.aload_n 1) := by decide +kernel
theorem o636 : De cB47 4 3 7 (.invokevirtual 131) := by decide +kernel
theorem o638 : De cB47 7 3 10 (.if_icmp .ge 90) := by decide +kernel
theorem o639 : De cB47 10 1 11 (.aload_n 1) := by decide +kernel
theorem o640 : De cB47 11 1 12 (.iload_n 3) := by decide +kernel
theorem o641 : De cB47 12 3 15 (.invokevirtual 134) := by decide +kernel
theorem o642 : De cB47 15 2 17 (.istore 4) := by decide +kernel
theorem o643 : De cB47 17 2 19 (.iload 4) := by decide +kernel
theorem o644 : De cB47 19 2 21 (.bipush 92) := by decide +kernel
theorem o645 : De cB47 21 3 24 (.if_icmp .ne 16) := by decide +kernel
theorem o646 : De cB47 24 1 25 (.aload_n 0) := by decide +kernel
theorem o647 : De cB47 25 3 28 (.getfield 10) := by decide +kernel
theorem o648 : De cB47 28 2 30 (.ldc 138) := by decide +kernel
theorem o649 : De cB47 30 3 33 (.invokevirtual 22) := by decide +kernel
theorem o650 : De cB47 33 1 34 .pop := by decide +kernel
theorem o652 : De cB47 37 2 39 (.iload 4) := by decide +kernel
theorem o653 : De cB47 39 2 41 (.bipush 34) := by decide +kernel
theorem o654 : De cB47 41 3 44 (.if_icmp .ne 20) := by decide +kernel
theorem o655 : De cB47 44 1 45 (.iload_n 2) := by decide +kernel
theorem o656 : De cB47 61 2 63 (.iload 4) := by decide +kernel
theorem o657 : De cB47 63 2 65 (.bipush 10) := by decide +kernel
theorem o658 : De cB47 65 3 68 (.if_icmp .ne 16) := by decide +kernel
theorem o659 : De cB47 68 1 69 (.aload_n 0) := by decide +kernel
theorem o660 : De cB47 69 3 72 (.getfield 10) := by decide +kernel
theorem o661 : De cB47 72 2 74 (.ldc 142) := by decide +kernel
theorem o662 : De cB47 74 3 77 (.invokevirtual 22) := by decide +kernel
theorem o663 : De cB47 77 1 78 .pop := by decide +kernel
theorem o664 : De cB47 81 1 82 (.aload_n 0) := by decide +kernel
theorem o665 : De cB47 82 3 85 (.getfield 10) := by decide +kernel
theorem o666 : De cB47 85 2 87 (.iload 4) := by decide +kernel
theorem o667 : De cB47 87 3 90 (.invokevirtual 26) := by decide +kernel
theorem o668 : De cB47 90 1 91 .pop := by decide +kernel
theorem o651 : De cB47 91 3 94 (.iinc 3 1) := by decide +kernel
theorem o637 : De cB47 97 1 98 .return_ := by decide +kernel
theorem j71 : Dj code 63 71 (.ifCond .ne 8) 8 := ⟨at_63, by decide, by decide⟩
theorem j70 : Dj code 68 105 (.goto 37) 37 := ⟨at_68, by decide, by decide⟩
theorem j73 : Dj code 74 85 (.if_icmp .ne 11) 11 := ⟨at_74, by decide, by decide⟩
theorem j72 : Dj code 82 105 (.goto 23) 23 := ⟨at_82, by decide, by decide⟩
theorem j64 : Dj code 118 127 (.ifCond .ne 9) 9 := ⟨at_118, by decide, by decide⟩
theorem j62 : Dj code 124 142 (.goto 18) 18 := ⟨at_124, by decide, by decide⟩
theorem j68 : Dj code 130 139 (.if_icmp .ne 9) 9 := ⟨at_130, by decide, by decide⟩
theorem j65 : Dj code 136 142 (.goto 6) 6 := ⟨at_136, by decide, by decide⟩
theorem j66 : Dj code 146 154 (.ifCond .ne 8) 8 := ⟨at_146, by decide, by decide⟩
theorem j63 : Dj code 151 167 (.goto 16) 16 := ⟨at_151, by decide, by decide⟩
theorem j69 : Dj code 157 165 (.if_icmp .ne 8) 8 := ⟨at_157, by decide, by decide⟩
theorem j67 : Dj code 162 167 (.goto 5) 5 := ⟨at_162, by decide, by decide⟩
theorem j57 : Dj code 272 276 (.goto 4) 4 := ⟨at_272, by decide, by decide⟩
theorem j58 : Dj code 284 321 (.if_icmp .lt 37) 37 := ⟨at_284, by decide, by decide⟩
theorem j60 : Dj code 305 309 (.goto 4) 4 := ⟨at_305, by decide, by decide⟩
theorem j59 : Dj code 324 361 (.if_icmp .ne 37) 37 := ⟨at_324, by decide, by decide⟩
theorem j61 : Dj code 345 349 (.goto 4) 4 := ⟨at_345, by decide, by decide⟩
theorem j50 : Dj code 379 383 (.goto 4) 4 := ⟨at_379, by decide, by decide⟩
theorem j51 : Dj code 406 410 (.goto 4) 4 := ⟨at_406, by decide, by decide⟩
theorem j52 : Dj code 461 465 (.goto 4) 4 := ⟨at_461, by decide, by decide⟩
theorem j53 : Dj code 488 492 (.goto 4) 4 := ⟨at_488, by decide, by decide⟩
theorem j54 : Dj code 522 526 (.goto 4) 4 := ⟨at_522, by decide, by decide⟩
theorem j55 : Dj code 605 609 (.goto 4) 4 := ⟨at_605, by decide, by decide⟩
theorem j56 : Dj code 630 634 (.goto 4) 4 := ⟨at_630, by decide, by decide⟩
theorem j13 : Dj cB28 2 9 (.if_icmp .lt 7) 7 := by decide +kernel
theorem j14 : Dj cB28 6 10 (.goto 4) 4 := by decide +kernel
theorem j15 : Dj cB29 2 9 (.if_icmp .gt 7) 7 := by decide +kernel
theorem j16 : Dj cB29 6 10 (.goto 4) 4 := by decide +kernel
theorem j20 : Dj cB37 6 13 (.ifCond .ge 7) 7 := by decide +kernel
theorem j21 : Dj cB37 29 82 (.ifCond .gt 53) 53 := by decide +kernel
theorem j22 : Dj cB37 90 143 (.if_icmp .gt 53) 53 := by decide +kernel
theorem j23 : Dj cB37 161 178 (.if_icmp .ge 17) 17 := by decide +kernel
theorem j24 : Dj cB37 180 192 (.ifCond .eq 12) 12 := by decide +kernel
theorem j1 : Dj cB2 6 16 (.if_icmp .lt 10) 10 := by decide +kernel
theorem j7 : Dj cB14 25 43 (.goto 18) 18 := by decide +kernel
theorem j12 : Dj cB25 38 97 (.goto 59) 59 := by decide +kernel
theorem j0 : Dj cB0 10 14 (.goto 4) 4 := by decide +kernel
theorem j2 : Dj cB5 14 18 (.goto 4) 4 := by decide +kernel
theorem j3 : Dj cB8 8 12 (.goto 4) 4 := by decide +kernel
theorem j18 : Dj cB32 3 14 (.if_icmp .ne 11) 11 := by decide +kernel
theorem j19 : Dj cB34 2 37 (.if_icmp .ge 35) 35 := by decide +kernel
theorem j11 : Dj cB24 7 17 (.if_icmp .eq 10) 10 := by decide +kernel
theorem j17 : Dj cB31 38 51 (.if_icmp .ne 13) 13 := by decide +kernel
theorem j8 : Dj cB16 1 9 (.ifnonnull 8) 8 := by decide +kernel
theorem j4 : Dj cB11 22 38 (.goto 16) 16 := by decide +kernel
theorem j10 : Dj cB19 42 75 (.goto 33) 33 := by decide +kernel
theorem j25 : Dj cB38 37 52 (.goto 15) 15 := by decide +kernel
theorem j9 : Dj cB18 14 18 (.goto 4) 4 := by decide +kernel
theorem j6 : Dj cB13 14 21 (.if_icmp .eq 7) 7 := by decide +kernel
theorem j5 : Dj cB12 14 38 (.ifCond .le 24) 24 := by decide +kernel
theorem j26 : Dj cB40 5 11 (.ifCond .ne 6) 6 := by decide +kernel
theorem j27 : Dj cB40 13 19 (.if_icmp .ne 6) 6 := by decide +kernel
theorem j28 : Dj cB40 21 27 (.if_icmp .ne 6) 6 := by decide +kernel
theorem j29 : Dj cB41 22 26 (.goto 4) 4 := by decide +kernel
theorem j30 : Dj cB42 5 23 (.if_icmp .ge 18) 18 := by decide +kernel
theorem j31 : Dj cB42 24 28 (.goto 4) 4 := by decide +kernel
theorem j32 : Dj cB43 94 98 (.goto 4) 4 := by decide +kernel
theorem j37 : Dj cB45 3 12 (.if_icmp .eq 9) 9 := by decide +kernel
theorem j39 : Dj cB45 9 16 (.if_icmp .ne 7) 7 := by decide +kernel
theorem j38 : Dj cB45 13 17 (.goto 4) 4 := by decide +kernel
theorem j33 : Dj cB44 3 34 (.if_icmp .ne 31) 31 := by decide +kernel
theorem j34 : Dj cB44 29 33 (.goto 4) 4 := by decide +kernel
theorem j35 : Dj cB44 37 68 (.if_icmp .ne 31) 31 := by decide +kernel
theorem j36 : Dj cB44 63 67 (.goto 4) 4 := by decide +kernel
theorem j48 : Dj cB49 4 26 (.ifCond .eq 22) 22 := by decide +kernel
theorem j49 : Dj cB49 44 131 (.ifCond .le 87) 87 := by decide +kernel
theorem j40 : Dj cB47 7 97 (.if_icmp .ge 90) 90 := by decide +kernel
theorem j41 : Dj cB47 21 37 (.if_icmp .ne 16) 16 := by decide +kernel
theorem j42 : Dj cB47 34 91 (.goto 57) 57 := by decide +kernel
theorem j44 : Dj cB47 41 61 (.if_icmp .ne 20) 20 := by decide +kernel
theorem j45 : Dj cB47 45 61 (.ifCond .eq 16) 16 := by decide +kernel
theorem j46 : Dj cB47 65 81 (.if_icmp .ne 16) 16 := by decide +kernel
theorem j47 : Dj cB47 78 91 (.goto 13) 13 := by decide +kernel
theorem j43 : Dj cB47 94 2 (.goto (-92)) (-92) := by decide +kernel
theorem opd_0 : parseMethodDescriptor "()B" = some ⟨[], some .byte⟩ := by decide +kernel
theorem opd_1 : parseMethodDescriptor "(IILjava/util/function/BiFunction;)I" = some ⟨[.int, .int, (.object "java/util/function/BiFunction")], some .int⟩ := by decide +kernel
theorem opd_2 : parseMethodDescriptor "(II)V" = some ⟨[.int, .int], none⟩ := by decide +kernel
theorem opd_3 : parseMethodDescriptor "()Z" = some ⟨[], some .boolean⟩ := by decide +kernel
theorem opd_4 : parseMethodDescriptor "([BI)C" = some ⟨[(.array .byte), .int], some .char⟩ := by decide +kernel
theorem opd_5 : parseMethodDescriptor "(C)Z" = some ⟨[.char], some .boolean⟩ := by decide +kernel
theorem opd_6 : parseMethodDescriptor "(C)[B" = some ⟨[.char], some (.array .byte)⟩ := by decide +kernel
theorem opd_7 : parseMethodDescriptor "([BB)V" = some ⟨[(.array .byte), .byte], none⟩ := by decide +kernel
theorem opd_8 : parseMethodDescriptor "(Ljava/lang/String;)V" = some ⟨[(.object "java/lang/String")], none⟩ := by decide +kernel
theorem opd_9 : parseMethodDescriptor "([BIB)V" = some ⟨[(.array .byte), .int, .byte], none⟩ := by decide +kernel
theorem opd_10 : parseMethodDescriptor "()I" = some ⟨[], some .int⟩ := by decide +kernel
theorem opd_11 : parseMethodDescriptor "(I)V" = some ⟨[.int], none⟩ := by decide +kernel
theorem opd_12 : parseMethodDescriptor "(ILjava/lang/String;)V" = some ⟨[.int, (.object "java/lang/String")], none⟩ := by decide +kernel
theorem opd_13 : parseMethodDescriptor "(Ljava/lang/String;)Ljava/lang/AbstractStringBuilder;" = some ⟨[(.object "java/lang/String")], some (.object "java/lang/AbstractStringBuilder")⟩ := by decide +kernel
theorem opd_14 : parseMethodDescriptor "(C)Ljava/lang/AbstractStringBuilder;" = some ⟨[.char], some (.object "java/lang/AbstractStringBuilder")⟩ := by decide +kernel
theorem opd_15 : parseMethodDescriptor "()[B" = some ⟨[], some (.array .byte)⟩ := by decide +kernel
theorem opd_16 : parseMethodDescriptor "([BII)[B" = some ⟨[(.array .byte), .int, .int], some (.array .byte)⟩ := by decide +kernel
theorem opd_17 : parseMethodDescriptor "(Ljava/lang/AbstractStringBuilder;Ljava/lang/Void;)V" = some ⟨[(.object "java/lang/AbstractStringBuilder"), (.object "java/lang/Void")], none⟩ := by decide +kernel
theorem opd_18 : parseMethodDescriptor "(Ljava/lang/StringBuilder;)V" = some ⟨[(.object "java/lang/StringBuilder")], none⟩ := by decide +kernel
theorem opd_19 : parseMethodDescriptor "(II)I" = some ⟨[.int, .int], some .int⟩ := by decide +kernel
theorem opd_20 : parseMethodDescriptor "(III)I" = some ⟨[.int, .int, .int], some .int⟩ := by decide +kernel
theorem opd_21 : parseMethodDescriptor "(I)I" = some ⟨[.int], some .int⟩ := by decide +kernel
theorem opd_22 : parseMethodDescriptor "([BI)[B" = some ⟨[(.array .byte), .int], some (.array .byte)⟩ := by decide +kernel
theorem opd_23 : parseMethodDescriptor "(J)I" = some ⟨[.long], some .int⟩ := by decide +kernel
theorem opd_24 : parseMethodDescriptor "(JI[B)I" = some ⟨[.long, .int, (.array .byte)], some .int⟩ := by decide +kernel
theorem opd_25 : parseMethodDescriptor "(J)Ljava/lang/AbstractStringBuilder;" = some ⟨[.long], some (.object "java/lang/AbstractStringBuilder")⟩ := by decide +kernel
theorem opd_26 : parseMethodDescriptor "(I)C" = some ⟨[.int], some .char⟩ := by decide +kernel
theorem opd_27 : parseMethodDescriptor "(Ljava/lang/String;IC)Z" = some ⟨[(.object "java/lang/String"), .int, .char], some .boolean⟩ := by decide +kernel
theorem opd_28 : parseMethodDescriptor "(Ljava/lang/String;ILjava/lang/String;I)Z" = some ⟨[(.object "java/lang/String"), .int, (.object "java/lang/String"), .int], some .boolean⟩ := by decide +kernel
theorem opd_29 : parseMethodDescriptor "()V" = some ⟨[], none⟩ := by decide +kernel
theorem opd_30 : parseMethodDescriptor "(Ljava/lang/String;)Ljava/lang/StringBuilder;" = some ⟨[(.object "java/lang/String")], some (.object "java/lang/StringBuilder")⟩ := by decide +kernel
theorem opd_31 : parseMethodDescriptor "(C)Ljava/lang/StringBuilder;" = some ⟨[.char], some (.object "java/lang/StringBuilder")⟩ := by decide +kernel
theorem opd_32 : parseMethodDescriptor "(Ljava/lang/String;Z)V" = some ⟨[(.object "java/lang/String"), .boolean], none⟩ := by decide +kernel
theorem opd_33 : parseMethodDescriptor "(Ljava/lang/String;[Ljava/lang/String;)V" = some ⟨[(.object "java/lang/String"), (.array (.object "java/lang/String"))], none⟩ := by decide +kernel
theorem opd_34 : parseMethodDescriptor "(J)Ljava/lang/StringBuilder;" = some ⟨[.long], some (.object "java/lang/StringBuilder")⟩ := by decide +kernel
theorem opd_35 : parseMethodDescriptor "()Ljava/lang/String;" = some ⟨[], some (.object "java/lang/String")⟩ := by decide +kernel
theorem opd_36 : parseMethodDescriptor "(Ljava/lang/String;ILjava/lang/String;)Z" = some ⟨[(.object "java/lang/String"), .int, (.object "java/lang/String")], some .boolean⟩ := by decide +kernel
theorem opd_37 : parseMethodDescriptor "(C)I" = some ⟨[.char], some .int⟩ := by decide +kernel
theorem opd_38 : parseMethodDescriptor "(Ljava/lang/String;Lcom/example/rabotnik/rabotnik/coordinator/PrometheusText$Type;Ljava/lang/String;)V" = some ⟨[(.object "java/lang/String"), (.object "com/example/rabotnik/rabotnik/coordinator/PrometheusText$Type"), (.object "java/lang/String")], none⟩ := by decide +kernel
theorem opd_39 : parseMethodDescriptor "(J[Ljava/lang/String;)V" = some ⟨[.long, (.array (.object "java/lang/String"))], none⟩ := by decide +kernel
theorem opd_40 : parseMethodDescriptor "([C)V" = some ⟨[(.array .char)], none⟩ := by decide +kernel
theorem opd_41 : parseMethodDescriptor "(C)Ljava/lang/String;" = some ⟨[.char], some (.object "java/lang/String")⟩ := by decide +kernel
theorem opn_0 : plainName "java/lang/String" = true := by first | (simp [plainName, overriddenIn]; done) | decide +kernel
theorem opn_1 : plainName "jdk/internal/util/Preconditions" = true := by first | (simp [plainName, overriddenIn]; done) | decide +kernel
theorem opn_2 : plainName "java/lang/StringLatin1" = true := by first | (simp [plainName, overriddenIn]; done) | decide +kernel
theorem opn_3 : plainName "java/lang/AbstractStringBuilder" = true := by first | (simp [plainName, overriddenIn]; done) | decide +kernel
theorem opn_4 : plainName "java/lang/StringBuilder" = true := by first | (simp [plainName, overriddenIn]; done) | decide +kernel
theorem opn_5 : plainName "java/util/Arrays" = true := by first | (simp [plainName, overriddenIn]; done) | decide +kernel
theorem opn_6 : plainName "jdk/internal/util/ArraysSupport" = true := by first | (simp [plainName, overriddenIn]; done) | decide +kernel
theorem opn_7 : plainName "java/lang/Long" = true := by first | (simp [plainName, overriddenIn]; done) | decide +kernel
theorem opn_8 : plainName "com/example/rabotnik/rabotnik/coordinator/PrometheusTextFamilyPinLaw" = true := by first | (simp [plainName, overriddenIn]; done) | decide +kernel
theorem opn_9 : plainName "com/example/rabotnik/rabotnik/coordinator/PrometheusText" = true := by first | (simp [plainName, overriddenIn]; done) | decide +kernel
theorem oef_escd (m : MethodId) (x0 : Addr) (x1 : Addr) (x2 : Int32) : entryFrame m #[(.ref x0), (.ref x1), (.int x2)] 5 = mkF m 0 #[.val (.ref x0), .val (.ref x1), .val (.int x2), .unset, .unset] [] := by first | (simp [entryFrame, mkF, argsToLocals, Value.category, maxLocals]; done) | rfl
theorem oef_fam0 (m : MethodId) (x0 : Addr) (x1 : Addr) (x2 : Addr) (x3 : Addr) : entryFrame m #[(.ref x0), (.ref x1), (.ref x2), (.ref x3)] 4 = mkF m 0 #[.val (.ref x0), .val (.ref x1), .val (.ref x2), .val (.ref x3)] [] := by first | (simp [entryFrame, mkF, argsToLocals, Value.category, maxLocals]; done) | rfl
theorem oef_fam1 (m : MethodId) (x0 : Addr) (x1 : Addr) (x2 : Addr) (x3 : Addr) : entryFrame m #[(.ref x0), (.ref x1), (.ref x2), (.ref x3)] 4 = mkF m 0 #[.val (.ref x0), .val (.ref x1), .val (.ref x2), .val (.ref x3)] [] := by first | (simp [entryFrame, mkF, argsToLocals, Value.category, maxLocals]; done) | rfl
theorem oef_sample0 (m : MethodId) (x0 : Addr) (x1 : Int64) (x2 : Addr) : entryFrame m #[(.ref x0), (.long x1), (.ref x2)] 4 = mkF m 0 #[.val (.ref x0), .val (.long x1), .second, .val (.ref x2)] [] := by first | (simp [entryFrame, mkF, argsToLocals, Value.category, maxLocals]; done) | rfl
theorem oef_sampleB (m : MethodId) (x0 : Addr) (x1 : Int64) (x2 : Addr) : entryFrame m #[(.ref x0), (.long x1), (.ref x2)] 4 = mkF m 0 #[.val (.ref x0), .val (.long x1), .second, .val (.ref x2)] [] := by first | (simp [entryFrame, mkF, argsToLocals, Value.category, maxLocals]; done) | rfl
theorem oef_sampleC (m : MethodId) (x0 : Addr) (x1 : Int64) (x2 : Addr) : entryFrame m #[(.ref x0), (.long x1), (.ref x2)] 4 = mkF m 0 #[.val (.ref x0), .val (.long x1), .second, .val (.ref x2)] [] := by first | (simp [entryFrame, mkF, argsToLocals, Value.category, maxLocals]; done) | rfl
theorem oef_sampleJ (m : MethodId) (x0 : Addr) (x1 : Int64) (x2 : Addr) : entryFrame m #[(.ref x0), (.long x1), (.ref x2)] 4 = mkF m 0 #[.val (.ref x0), .val (.long x1), .second, .val (.ref x2)] [] := by first | (simp [entryFrame, mkF, argsToLocals, Value.category, maxLocals]; done) | rfl
theorem oef_sampleN (m : MethodId) (x0 : Addr) (x1 : Int64) (x2 : Addr) : entryFrame m #[(.ref x0), (.long x1), (.ref x2)] 4 = mkF m 0 #[.val (.ref x0), .val (.long x1), .second, .val (.ref x2)] [] := by first | (simp [entryFrame, mkF, argsToLocals, Value.category, maxLocals]; done) | rfl
theorem oef_law (m : MethodId) (x0 : Int32) (x1 : Int32) (x2 : Int32) (x3 : Int32) (x4 : Int32) : entryFrame m #[(.int x0), (.int x1), (.int x2), (.int x3), (.int x4)] maxLocals = mkF m 0 #[.val (.int x0), .val (.int x1), .val (.int x2), .val (.int x3), .val (.int x4), .unset, .unset, .unset, .unset, .unset, .unset, .unset, .unset, .unset, .unset, .unset, .unset, .unset, .unset, .unset] [] := by first | (simp [entryFrame, mkF, argsToLocals, Value.category, maxLocals]; done) | rfl
abbrev EL : List (String × Nat) := consts_1
theorem hEW {a0 : Array Value} {Z : State} (hw : HW a0 Z) : EW Z a0 EL := (EW.cons (ow77 hw) (by decide) (EW.cons (ow148 hw) (by decide) (EW.cons (ow180 hw) (by decide) (EW.cons (ow312 hw) (by decide) (EW.cons (ow296 hw) (by decide) (EW.cons (ow35 hw) (by decide) (EW.cons (ow41 hw) (by decide) (EW.cons (ow294 hw) (by decide) (EW.cons (ow305 hw) (by decide) (EW.cons (ow248 hw) (by decide) (EW.cons (ow280 hw) (by decide) EW.nil)))))))))))
theorem ostr {a0 : Array Value} {Z : State} (hw : HW a0 Z) : ∀ a ∈ Bundle.stringAtoms, a.before a0 Z = true := fun a ha => hw a ((by decide +kernel : ∀ a ∈ Bundle.stringAtoms, a ∈ tables_1) a ha)
set_option maxRecDepth 65536
set_option maxHeartbeats 40000000
theorem hEWs {a0 : Array Value} {Z : State} (hw : HW a0 Z) : EWs Z a0 EL := (EWs.cons (ow77 hw) (by decide) (by decide) (EWs.cons (ow148 hw) (by decide) (by decide) (EWs.cons (ow180 hw) (by decide) (by decide) (EWs.cons (ow312 hw) (by decide) (by decide) (EWs.cons (ow296 hw) (by decide) (by decide) (EWs.cons (ow35 hw) (by decide) (by decide) (EWs.cons (ow41 hw) (by decide) (by decide) (EWs.cons (ow294 hw) (by decide) (by decide) (EWs.cons (ow305 hw) (by decide) (by decide) (EWs.cons (ow248 hw) (by decide) (by decide) (EWs.cons (ow280 hw) (by decide) (by decide) EWs.nil)))))))))))
def Q_scoder (Z : State) (x : Addr) (G1 : Int32) (h0 : Heap) (n0 : Nat) : QT := fun rv hE LE => rv = some (.int 0) ∧ Fr n0 LE ∧ hE = h0
theorem rm_scoder (l : Launch) (Z : State) (a0 : Array Value) (hw : HW a0 Z) (ws : List Jvm.Cond) (x : Addr) (G1 : Int32) (h0 : Heap) (n0 : Nat) (Z0 : n0 ≤ h0.size) (S0 : Exa Z h0 x ss0) (S1 : Fld Z h0 x ss0 ss2 "B" (.int 0)) (O2 : Sta Z Z.heap ss0 ss7 "Z" (.int G1)) (P5 : ¬ (G1 = (0 : Int32))) (X00 : Old Z n0 h0) :
    MF l Z mn0 (Jvm.Cond.code mn0 cB0 1 (Option.some Jvm.ClassFile.FieldType.byte)) ws Ro0 #[(.ref x)] h0 (Q_scoder Z x G1 h0 n0) := by
  refine MF.of ss0 rfl #[rv x] (plainFor_of_name opn_0) (fun _ => rfl) ?_
  intro p e s m below meth c _ hZ hh B hml hret hlk hown hnm Y e0
  have N0 := Fr.nil n0
  refine zgs Y B hZ hown (ow14 hw) e0 (O2.ext X00.2) o0 fun _ Y e30 => ?_
  refine zN Y B o1 ((if0 _ _).trans (feq P5).1) ?_
  refine zalN Y B o2 rfl ?_
  refine zgf Y B hZ hown (ow26 hw) Via.refl e30 S1 o3 fun _ Y e31 => ?_
  refine zgo Y B j0 ?_
  exact zrN Y B (t := .byte) hret (by simp) hlk o4 e31 ⟨rfl, N0, rfl⟩ rfl rfl
def Q_slen (Z : State) (x t : Addr) (kt : ClassId) (ds : List Int32) (G1 : Int32) (h0 : Heap) (n0 : Nat) : QT := fun rv hE LE => rv = some (.int (Int32.ofNat ds.length)) ∧ Fr n0 LE ∧ hE = h0
theorem rm_slen (l : Launch) (Z : State) (a0 : Array Value) (hw : HW a0 Z) (ws : List Jvm.Cond) (x t : Addr) (kt : ClassId) (ds : List Int32) (G1 : Int32) (h0 : Heap) (n0 : Nat) (Z0 : n0 ≤ h0.size) (S0 : Exa Z h0 x ss0) (S1 : Fld Z h0 x ss0 ss2 "B" (.int 0)) (S2 : Fld Z h0 x ss0 ss3 "[B" (.ref t)) (S3 : Arv Z h0 t kt .byte (Int32.ofNat ds.length) (B8 ds) (.int 0)) (O2 : Sta Z Z.heap ss0 ss7 "Z" (.int G1)) (P5 : ¬ (G1 = (0 : Int32))) (X00 : Old Z n0 h0) :
    MF l Z mn1 (Jvm.Cond.code mn1 cB1 1 (Option.some Jvm.ClassFile.FieldType.int)) ws Ro1 #[(.ref x)] h0 (Q_slen Z x t kt ds G1 h0 n0) := by
  refine MF.of ss0 rfl #[rv x] (plainFor_of_name opn_0) (fun _ => rfl) ?_
  intro p e s m below meth c _ hZ hh B hml hret hlk hown hnm Y e0
  have N0 := Fr.nil n0
  refine zalN Y B o5 rfl ?_
  refine zgf Y B hZ hown (ow28 hw) Via.refl e0 S2 o6 fun _ Y e30 => ?_
  refine zln Y B hZ e30 S3 o7 ?_
  refine zalN Y B o8 rfl ?_
  refine zcv Y B hZ hown (ow93 hw) (ow94 hw) (notFace_of_selects (args := #[]) (mvT hZ (ow96 hw))) (ow96 hw) (ow95 hw) (ow2 hw) (ow97 hw) (by decide) S0 (rm_scoder l Z a0 hw [] x G1 h0 n0 (Nat.le_trans Z0 (Nat.le_refl _)) S0 S1 O2 P5 X00) e30 hml opd_0 rfl o9 rfl rfl rfl rfl rfl fun _ T32 _ Y hQ => ?_
  obtain ⟨rfl, N32q, e32⟩ := hQ
  have N32 := Fr.app N0 N32q
  refine zishr Y B o10 rfl ?_
  rw [shr0 (Int32.ofNat ds.length)]
  exact zrI Y B hret hlk o11 e32 ⟨rfl, N32, rfl⟩ rfl rfl
def Q_prechk0 (Z : State) (i j : Nat) (h0 : Heap) (n0 : Nat) : QT := fun rv hE LE => rv = some (.int (Int32.ofNat i)) ∧ Fr n0 LE ∧ hE = h0
theorem rm_prechk0 (l : Launch) (Z : State) (a0 : Array Value) (hw : HW a0 Z) (ws : List Jvm.Cond) (i j : Nat) (h0 : Heap) (n0 : Nat) (Z0 : n0 ≤ h0.size) (HI : i < j) (HB : j < 2 ^ 31) :
    MF l Z mn2 (Jvm.Cond.code mn2 cB2 3 (Option.some Jvm.ClassFile.FieldType.int)) ws Ro0 #[(.int (Int32.ofNat i)), (.int (Int32.ofNat j)), .null] h0 (Q_prechk0 Z i j h0 n0) := by
  refine MF.of ss10 rfl #[iv (Int32.ofNat i), iv (Int32.ofNat j), .val .null] (plainFor_of_name opn_1) (fun _ => rfl) ?_
  intro p e s m below meth c _ hZ hh B hml hret hlk hown hnm Y e0
  have N0 := Fr.nil n0
  refine zilN Y B o12 rfl ?_
  refine zN Y B o13 ((if0 _ _).trans (flt (show ¬ ((Int32.ofNat i) < (0 : Int32)) from (on_pos (by omega)))).1) ?_
  refine zilN Y B o14 rfl <| zilN Y B o15 rfl ?_
  refine zCY Y B j1 (tlt (show (Int32.ofNat i) < (Int32.ofNat j) from (on_lt HI HB))).1 ?_
  refine zilN Y B o16 rfl ?_
  exact zrI Y B hret hlk o17 e0 ⟨rfl, N0, rfl⟩ rfl rfl
def Q_prechk1 (Z : State) (i j : Nat) (g3 : Addr) (h0 : Heap) (n0 : Nat) : QT := fun rv hE LE => rv = some (.int (Int32.ofNat i)) ∧ Fr n0 LE ∧ hE = h0
theorem rm_prechk1 (l : Launch) (Z : State) (a0 : Array Value) (hw : HW a0 Z) (ws : List Jvm.Cond) (i j : Nat) (g3 : Addr) (h0 : Heap) (n0 : Nat) (Z0 : n0 ≤ h0.size) (HI : i < j) (HB : j < 2 ^ 31) :
    MF l Z mn2 (Jvm.Cond.code mn2 cB2 3 (Option.some Jvm.ClassFile.FieldType.int)) ws Ro0 #[(.int (Int32.ofNat i)), (.int (Int32.ofNat j)), (.ref g3)] h0 (Q_prechk1 Z i j g3 h0 n0) := by
  refine MF.of ss10 rfl #[iv (Int32.ofNat i), iv (Int32.ofNat j), rv g3] (plainFor_of_name opn_1) (fun _ => rfl) ?_
  intro p e s m below meth c _ hZ hh B hml hret hlk hown hnm Y e0
  have N0 := Fr.nil n0
  refine zilN Y B o12 rfl ?_
  refine zN Y B o13 ((if0 _ _).trans (flt (show ¬ ((Int32.ofNat i) < (0 : Int32)) from (on_pos (by omega)))).1) ?_
  refine zilN Y B o14 rfl <| zilN Y B o15 rfl ?_
  refine zCY Y B j1 (tlt (show (Int32.ofNat i) < (Int32.ofNat j) from (on_lt HI HB))).1 ?_
  refine zilN Y B o16 rfl ?_
  exact zrI Y B hret hlk o17 e0 ⟨rfl, N0, rfl⟩ rfl rfl
def Q_schk (Z : State) (i j : Nat) (G3 : Value) (h0 : Heap) (n0 : Nat) : QT := fun rv hE LE => rv = none ∧ Fr n0 LE ∧ hE = h0
theorem rm_schk (l : Launch) (Z : State) (a0 : Array Value) (hw : HW a0 Z) (ws : List Jvm.Cond) (i j : Nat) (G3 : Value) (h0 : Heap) (n0 : Nat) (Z0 : n0 ≤ h0.size) (HI : i < j) (HB : j < 2 ^ 31) (O4 : Sta Z Z.heap ss10 ss12 ss13 G3) (rG3 : G3.isRef = true) (X00 : Old Z n0 h0) :
    MF l Z mn3 (Jvm.Cond.code mn3 cB3 2 (Option.none : Option Jvm.ClassFile.FieldType)) ws Ro2 #[(.int (Int32.ofNat i)), (.int (Int32.ofNat j))] h0 (Q_schk Z i j G3 h0 n0) := by
  refine MF.of ss0 rfl #[iv (Int32.ofNat i), iv (Int32.ofNat j)] (plainFor_of_name opn_0) (fun _ => rfl) ?_
  intro p e s m below meth c _ hZ hh B hml hret hlk hown hnm Y e0
  have N0 := Fr.nil n0
  refine zilN Y B o18 rfl <| zilN Y B o19 rfl ?_
  rcases ref_cases rG3 with rfl | ⟨g3, rfl⟩
  · show Go p e below _ _ (mkF m 2 #[iv (Int32.ofNat i), iv (Int32.ofNat j)] [(.int (Int32.ofNat j)), (.int (Int32.ofNat i))])
    refine zgs Y B hZ hown (ow272 hw) e0 (O4.ext X00.2) o20 fun _ Y e30 => ?_
    refine zcs Y B hZ hown (ow274 hw) (ow275 hw) (ow273 hw) (ow276 hw) (by decide) (rm_prechk0 l Z a0 hw [] i j h0 n0 (Nat.le_trans Z0 (Nat.le_refl _)) HI HB) e30 hml opd_1 rfl o21 rfl rfl rfl rfl rfl fun _ T31 _ Y hQ => ?_
    obtain ⟨rfl, N31q, e31⟩ := hQ
    have N31 := Fr.app N0 N31q
    refine zpop Y B o22 rfl ?_
    exact zr0 Y B hret hlk o23 e31 ⟨rfl, N31, rfl⟩ rfl rfl
  · show Go p e below _ _ (mkF m 2 #[iv (Int32.ofNat i), iv (Int32.ofNat j)] [(.int (Int32.ofNat j)), (.int (Int32.ofNat i))])
    refine zgs Y B hZ hown (ow272 hw) e0 (O4.ext X00.2) o20 fun _ Y e32 => ?_
    refine zcs Y B hZ hown (ow274 hw) (ow275 hw) (ow273 hw) (ow276 hw) (by decide) (rm_prechk1 l Z a0 hw [] i j g3 h0 n0 (Nat.le_trans Z0 (Nat.le_refl _)) HI HB) e32 hml opd_1 rfl o21 rfl rfl rfl rfl rfl fun _ T33 _ Y hQ => ?_
    obtain ⟨rfl, N33q, e33⟩ := hQ
    have N33 := Fr.app N0 N33q
    refine zpop Y B o22 rfl ?_
    exact zr0 Y B hret hlk o23 e33 ⟨rfl, N33, rfl⟩ rfl rfl
def Q_l1char (Z : State) (t : Addr) (kt : ClassId) (ds : List Int32) (i : Nat) (G3 : Value) (h0 : Heap) (n0 : Nat) : QT := fun rv hE LE => rv = some (.int (ds.getD i 0)) ∧ Fr n0 LE ∧ hE = h0
theorem rm_l1char (l : Launch) (Z : State) (a0 : Array Value) (hw : HW a0 Z) (ws : List Jvm.Cond) (t : Addr) (kt : ClassId) (ds : List Int32) (i : Nat) (G3 : Value) (h0 : Heap) (n0 : Nat) (Z0 : n0 ≤ h0.size) (S3 : Arv Z h0 t kt .byte (Int32.ofNat ds.length) (B8 ds) (.int 0)) (HLO : ∀ c ∈ ds, ¬ c < 0 ∧ ¬ (255 : Int32) < c) (HI : i < ds.length) (HB : ds.length < 2 ^ 31) (O4 : Sta Z Z.heap ss10 ss12 ss13 G3) (rG3 : G3.isRef = true) (X00 : Old Z n0 h0) :
    MF l Z mn4 (Jvm.Cond.code mn4 cB4 2 (Option.some Jvm.ClassFile.FieldType.char)) ws Ro3 #[(.ref t), (.int (Int32.ofNat i))] h0 (Q_l1char Z t kt ds i G3 h0 n0) := by
  refine MF.of ss20 rfl #[rv t, iv (Int32.ofNat i)] (plainFor_of_name opn_2) (fun _ => rfl) ?_
  intro p e s m below meth c _ hZ hh B hml hret hlk hown hnm Y e0
  have N0 := Fr.nil n0
  refine zilN Y B o24 rfl <| zalN Y B o25 rfl ?_
  refine zln Y B hZ e0 S3 o26 ?_
  refine zcs Y B hZ hown (ow269 hw) (ow270 hw) (ow2 hw) (ow271 hw) (by decide) (rm_schk l Z a0 hw [] i ds.length G3 h0 n0 (Nat.le_trans Z0 (Nat.le_refl _)) HI HB O4 rG3 X00) e0 hml opd_2 rfl o27 rfl rfl rfl rfl rfl fun _ T31 _ Y hQ => ?_
  obtain ⟨rfl, N31q, e31⟩ := hQ
  have N31 := Fr.app N0 N31q
  refine zalN Y B o28 rfl <| zilN Y B o29 rfl ?_
  refine zlb Y B hZ e31 S3 (v := (.int ((ds.getD i 0).toInt8.toInt32))) ⟨on_pos (by omega), on_lt HI HB⟩ (b8_at (by omega)) o30 ?_
  refine zsp Y B o31 (v := 255) rfl <| ziand Y B o32 rfl <| zi2c Y B o33 rfl ?_
  exact zrN Y B (t := .char) hret (by simp) hlk o34 e31 ⟨(by rw [(lo_back (getD_lo HLO i)).1, (lo_back (getD_lo HLO i)).2]), N31, rfl⟩ rfl rfl
def Q_sl1 (Z : State) (x : Addr) (G1 : Int32) (h0 : Heap) (n0 : Nat) : QT := fun rv hE LE => rv = some (.int 1) ∧ Fr n0 LE ∧ hE = h0
theorem rm_sl1 (l : Launch) (Z : State) (a0 : Array Value) (hw : HW a0 Z) (ws : List Jvm.Cond) (x : Addr) (G1 : Int32) (h0 : Heap) (n0 : Nat) (Z0 : n0 ≤ h0.size) (S0 : Exa Z h0 x ss0) (S1 : Fld Z h0 x ss0 ss2 "B" (.int 0)) (O2 : Sta Z Z.heap ss0 ss7 "Z" (.int G1)) (P5 : ¬ (G1 = (0 : Int32))) (X00 : Old Z n0 h0) :
    MF l Z mn5 (Jvm.Cond.code mn5 cB5 1 (Option.some Jvm.ClassFile.FieldType.boolean)) ws Ro0 #[(.ref x)] h0 (Q_sl1 Z x G1 h0 n0) := by
  refine MF.of ss0 rfl #[rv x] (plainFor_of_name opn_0) (fun _ => rfl) ?_
  intro p e s m below meth c _ hZ hh B hml hret hlk hown hnm Y e0
  have N0 := Fr.nil n0
  refine zgs Y B hZ hown (ow14 hw) e0 (O2.ext X00.2) o35 fun _ Y e30 => ?_
  refine zN Y B o36 ((if0 _ _).trans (feq P5).1) ?_
  refine zalN Y B o37 rfl ?_
  refine zgf Y B hZ hown (ow26 hw) Via.refl e30 S1 o38 fun _ Y e31 => ?_
  refine zN Y B o39 (by decide) ?_
  refine zc1 Y B o40 <| zgo Y B j2 ?_
  exact zrN Y B (t := .boolean) hret (by simp) hlk o41 e31 ⟨rfl, N0, rfl⟩ rfl rfl
def Q_schar (Z : State) (x t : Addr) (kt : ClassId) (ds : List Int32) (i : Nat) (G1 : Int32) (G3 : Value) (h0 : Heap) (n0 : Nat) : QT := fun rv hE LE => rv = some (.int (ds.getD i 0)) ∧ Fr n0 LE ∧ hE = h0
theorem rm_schar (l : Launch) (Z : State) (a0 : Array Value) (hw : HW a0 Z) (ws : List Jvm.Cond) (x t : Addr) (kt : ClassId) (ds : List Int32) (i : Nat) (G1 : Int32) (G3 : Value) (h0 : Heap) (n0 : Nat) (Z0 : n0 ≤ h0.size) (S0 : Exa Z h0 x ss0) (S1 : Fld Z h0 x ss0 ss2 "B" (.int 0)) (S2 : Fld Z h0 x ss0 ss3 "[B" (.ref t)) (S3 : Arv Z h0 t kt .byte (Int32.ofNat ds.length) (B8 ds) (.int 0)) (HLO : ∀ c ∈ ds, ¬ c < 0 ∧ ¬ (255 : Int32) < c) (HI : i < ds.length) (HB : ds.length < 2 ^ 31) (O2 : Sta Z Z.heap ss0 ss7 "Z" (.int G1)) (P5 : ¬ (G1 = (0 : Int32))) (X00 : Old Z n0 h0) (O4 : Sta Z Z.heap ss10 ss12 ss13 G3) (rG3 : G3.isRef = true) :
    MF l Z mn6 (Jvm.Cond.code mn6 cB6 2 (Option.some Jvm.ClassFile.FieldType.char)) ws Ro4 #[(.ref x), (.int (Int32.ofNat i))] h0 (Q_schar Z x t kt ds i G1 G3 h0 n0) := by
  refine MF.of ss0 rfl #[rv x, iv (Int32.ofNat i)] (plainFor_of_name opn_0) (fun _ => rfl) ?_
  intro p e s m below meth c _ hZ hh B hml hret hlk hown hnm Y e0
  have N0 := Fr.nil n0
  refine zalN Y B o42 rfl ?_
  refine zcv Y B hZ hown (ow261 hw) (ow262 hw) (notFace_of_selects (args := #[]) (mvT hZ (ow264 hw))) (ow264 hw) (ow263 hw) (ow2 hw) (ow265 hw) (by decide) S0 (rm_sl1 l Z a0 hw [] x G1 h0 n0 (Nat.le_trans Z0 (Nat.le_refl _)) S0 S1 O2 P5 X00) e0 hml opd_3 rfl o43 rfl rfl rfl rfl rfl fun _ T30 _ Y hQ => ?_
  obtain ⟨rfl, N30q, e30⟩ := hQ
  have N30 := Fr.app N0 N30q
  refine zN Y B o44 (by decide) ?_
  refine zalN Y B o45 rfl ?_
  refine zgf Y B hZ hown (ow28 hw) Via.refl e30 S2 o46 fun _ Y e31 => ?_
  refine zilN Y B o47 rfl ?_
  refine zcs Y B hZ hown (ow266 hw) (ow267 hw) (ow141 hw) (ow268 hw) (by decide) (rm_l1char l Z a0 hw [] t kt ds i G3 h0 n0 (Nat.le_trans Z0 (Nat.le_refl _)) S3 HLO HI HB O4 rG3 X00) e31 hml opd_4 rfl o48 rfl rfl rfl rfl rfl fun _ T32 _ Y hQ => ?_
  obtain ⟨rfl, N32q, e32⟩ := hQ
  have N32 := Fr.app N30 N32q
  exact zrN Y B (t := .char) hret (by simp) hlk o49 e32 ⟨(by rw [(lo_back (getD_lo HLO i)).2]), N32, rfl⟩ rfl rfl
def Q_siniBB (Z : State) (x t : Addr) (h0 : Heap) (n0 : Nat) : QT := fun rv hE LE => rv = none ∧ Fr n0 LE ∧ Keep h0 hE [x] ∧ (Exa Z hE x ss0) ∧ (Fld Z hE x ss0 ss2 "B" (.int 0)) ∧ (Fld Z hE x ss0 ss3 "[B" (.ref t))
theorem rm_siniBB (l : Launch) (Z : State) (a0 : Array Value) (hw : HW a0 Z) (ws : List Jvm.Cond) (x t : Addr) (h0 : Heap) (n0 : Nat) (Z0 : n0 ≤ h0.size) (E1 : Exa Z h0 x ss0) (g_x : n0 ≤ x) (F1 : Fld Z h0 x ss0 ss3 "[B" .null) (F2 : Fld Z h0 x ss0 ss2 "B" (.int 0)) :
    MF l Z mn7 (Jvm.Cond.code mn7 cB7 3 (Option.none : Option Jvm.ClassFile.FieldType)) ws Ro5 #[(.ref x), (.ref t), (.int 0)] h0 (Q_siniBB Z x t h0 n0) := by
  refine MF.of ss0 rfl #[rv x, rv t, iv 0] (plainFor_of_name opn_0) (fun _ => rfl) ?_
  intro p e s m below meth c _ hZ hh B hml hret hlk hown hnm Y e0
  have N0 := Fr.nil n0
  have K0 := Keep.refl h0 [x]
  refine zalN Y B o50 rfl ?_
  refine Go.a3 (initO Y B.1 hZ hown (ow11 hw) (ow12 hw) (ow13 hw) e0 rfl (by rw [hml]; rfl) rfl (hb B.2 o51.1) (by decide) (W := 0) (by show 2 * 0 + _ ≤ _; exact Nat.le_of_eq rfl) (by decide)) fun _ Y e30 => ?_
  refine zalN Y B o52 rfl <| zalN Y B o53 rfl ?_
  refine Go.b3 (putF Y B.1 hZ hown (host := "") (Or.inl (ow28 hw)) Via.refl e30 F1 E1 (Or.inr ⟨(ow29 hw), rfl, hnm⟩) (ow1 hw) (ty := (.array .byte)) (by decide) rfl rfl rfl rfl (hb B.2 o54.1)) fun T31 h31 Y e31 W31 => ?_
  have N31 := Fr.snoc Y N0 g_x
  have K32 := K0.wr W31 (Or.inl (List.mem_of_getElem? (i := 0) rfl))
  refine zalN Y B o55 rfl <| zilN Y B o56 rfl ?_
  have F34 := (F2.other W31 (Or.inr (slot_ne (Or.inr (ow27 hw)) (Or.inr (ow29 hw)) (by decide) (t := .byte) (t' := (.array .byte)) (by decide) (by decide))))
  have F35 := (E1.wr W31)
  refine Go.b3 (putFN Y B.1 hZ hown (ow26 hw) Via.refl e31 F34 F35 (Or.inr ⟨(ow27 hw), rfl, hnm⟩) (ow1 hw) (ty := .byte) (v' := (.int (nar .byte (0 : Int32)))) (by decide) rfl (fits_nar_byte _) rfl rfl (hb B.2 o57.1)) fun T33 h33 Y e33 W33 => ?_
  have N33 := Fr.snoc Y N31 g_x
  have K36 := K32.wr W33 (Or.inl (List.mem_of_getElem? (i := 0) rfl))
  have F37 := (F35.wr W33)
  have F38 := ((F1.same W31).other W33 (Or.inr (slot_ne (Or.inr (ow29 hw)) (Or.inr (ow27 hw)) (by decide) (t := (.array .byte)) (t' := .byte) (by decide) (by decide))))
  exact zr0 Y B hret hlk o58 e33 ⟨rfl, N33, K36, F37, (F34.same W33), F38⟩ rfl rfl
def Q_canenc (Z : State) (u : Int32) (h0 : Heap) (n0 : Nat) : QT := fun rv hE LE => rv = some (.int 1) ∧ Fr n0 LE ∧ hE = h0
theorem rm_canenc (l : Launch) (Z : State) (a0 : Array Value) (hw : HW a0 Z) (ws : List Jvm.Cond) (u : Int32) (h0 : Heap) (n0 : Nat) (Z0 : n0 ≤ h0.size) (HC : ¬ (255 : Int32) < u) :
    MF l Z mn8 (Jvm.Cond.code mn8 cB8 1 (Option.some Jvm.ClassFile.FieldType.boolean)) ws Ro0 #[(.int u)] h0 (Q_canenc Z u h0 n0) := by
  refine MF.of ss20 rfl #[iv u] (plainFor_of_name opn_2) (fun _ => rfl) ?_
  intro p e s m below meth c _ hZ hh B hml hret hlk hown hnm Y e0
  have N0 := Fr.nil n0
  refine zilN Y B o59 rfl <| zsp Y B o60 (v := 255) rfl ?_
  refine zCN Y B o61 (flt HC).2.2.1 ?_
  refine zc1 Y B o62 <| zgo Y B j3 ?_
  exact zrN Y B (t := .boolean) hret (by simp) hlk o63 e0 ⟨rfl, N0, rfl⟩ rfl rfl
def Q_l1tob (Z : State) (u : Int32) (h0 : Heap) (n0 : Nat) : QT := fun rv hE LE => ∃ t : Addr, ∃ kt : ClassId, rv = some (.ref t) ∧ Fr n0 LE ∧ Keep h0 hE [] ∧ (h0.size ≤ t) ∧ (Arv Z hE t kt .byte (1 : Int32) (B8 [u]) (.int 0))
theorem rm_l1tob (l : Launch) (Z : State) (a0 : Array Value) (hw : HW a0 Z) (ws : List Jvm.Cond) (u : Int32) (h0 : Heap) (n0 : Nat) (Z0 : n0 ≤ h0.size)  :
    MF l Z mn9 (Jvm.Cond.code mn9 cB9 1 (Option.some (Jvm.ClassFile.FieldType.array Jvm.ClassFile.FieldType.byte))) ws Ro6 #[(.int u)] h0 (Q_l1tob Z u h0 n0) := by
  refine MF.of ss20 rfl #[iv u] (plainFor_of_name opn_2) (fun _ => rfl) ?_
  intro p e s m below meth c _ hZ hh B hml hret hlk hown hnm Y e0
  have N0 := Fr.nil n0
  have K0 := Keep.refl h0 []
  refine zc1 Y B o64 ?_
  refine znq Y B hZ (aty := .byte) (ow19 hw) e0 o65 (by decide) (cap := 1) (by decide) rfl rfl rfl (ad := "[B") (by decide +kernel) fun T30 h30 k30 b30 g30 Y e30 E30 A30 B30 => ?_
  have K31 := K0.ext E30
  have V30 : Arv Z h30 b30 k30 .byte (1 : Int32) [(.int 0)] (.int 0) := (Arv.new A30 (by decide)).pad (pad_rep [] (.int 0) 1)
  refine zdup Y B o66 rfl <| zc0 Y B o67 <| zilN Y B o68 rfl <| zi2b Y B o69 rfl ?_
  obtain ⟨c32, A32, q32, S32, M32, G32, J32⟩ := id V30
  refine Go.b1 (stB Y B.1 hZ e30 A32 (j := (0 : Int32)) (inb_of S32 ⟨by decide, by decide⟩) rfl rfl (hb B.2 o70.1)) fun T32 h32 Y e32 W32 => ?_
  have N32 := Fr.snoc Y N0 (Nat.le_trans (Nat.le_trans Z0 (Nat.le_refl _)) (Nat.le_of_eq g30.symm))
  have K33 := K31.wr W32 (Or.inr (Nat.le_trans (Nat.le_refl _) (Nat.le_of_eq g30.symm)))
  have V32 : Arv Z h32 b30 k30 .byte (1 : Int32) ([(.int (nar .byte (u.toInt8.toInt32)))]) (.int 0) := Arv.set A32 q32 S32 M32 G32 J32 (fits_nar_byte _) W32 0 rfl (Nat.le_of_ble_eq_true rfl)
  rw [nar_b8 u] at V32
  exact zrR Y B hret rfl rfl rfl hlk o71 e32 ⟨b30, k30, rfl, N32, K33, (Nat.le_trans (Nat.le_refl _) (Nat.le_of_eq g30.symm)), V32⟩ rfl rfl
def Q_svalof (Z : State) (u G1 : Int32) (h0 : Heap) (n0 : Nat) : QT := fun rv hE LE => ∃ x : Addr, ∃ t : Addr, ∃ kt : ClassId, rv = some (.ref x) ∧ Fr n0 LE ∧ Keep h0 hE [] ∧ (h0.size ≤ x) ∧ (h0.size ≤ t) ∧ (Exa Z hE x ss0) ∧ (Fld Z hE x ss0 ss2 "B" (.int 0)) ∧ (Fld Z hE x ss0 ss3 "[B" (.ref t)) ∧ (Arv Z hE t kt .byte (Int32.ofNat [u].length) (B8 [u]) (.int 0))
theorem rm_svalof (l : Launch) (Z : State) (a0 : Array Value) (hw : HW a0 Z) (ws : List Jvm.Cond) (u G1 : Int32) (h0 : Heap) (n0 : Nat) (Z0 : n0 ≤ h0.size) (HC : ¬ (255 : Int32) < u) (O2 : Sta Z Z.heap ss0 ss7 "Z" (.int G1)) (P5 : ¬ (G1 = (0 : Int32))) (X00 : Old Z n0 h0) :
    MF l Z mn10 (Jvm.Cond.code mn10 cB10 1 (Option.some (Jvm.ClassFile.FieldType.object ss0))) ws Ro7 #[(.int u)] h0 (Q_svalof Z u G1 h0 n0) := by
  refine MF.of ss0 rfl #[iv u] (plainFor_of_name opn_0) (fun _ => rfl) ?_
  intro p e s m below meth c _ hZ hh B hml hret hlk hown hnm Y e0
  have N0 := Fr.nil n0
  have K0 := Keep.refl h0 []
  refine zgs Y B hZ hown (ow14 hw) e0 (O2.ext X00.2) o72 fun _ Y e30 => ?_
  refine zN Y B o73 ((if0 _ _).trans (feq P5).1) ?_
  refine zilN Y B o74 rfl ?_
  refine zcs Y B hZ hown (ow284 hw) (ow140 hw) (ow141 hw) (ow142 hw) (by decide) (rm_canenc l Z a0 hw [] u h0 n0 (Nat.le_trans Z0 (Nat.le_refl _)) HC) e30 hml opd_5 rfl o75 rfl rfl rfl rfl rfl fun _ T31 _ Y hQ => ?_
  obtain ⟨rfl, N31q, e31⟩ := hQ
  have N31 := Fr.app N0 N31q
  refine zN Y B o76 (by decide) ?_
  refine zno Y B hZ hown (ow285 hw) (ow1 hw) (ow2 hw) e31 o77 rfl rfl fun T32 h32 b32 g32 Y e32 E32 A32 D32 U32 => ?_
  have K33 := K0.ext E32
  have O33 := X00.ext E32
  refine zdup Y B o78 rfl <| zilN Y B o79 rfl ?_
  refine zcs Y B hZ hown (ow286 hw) (ow287 hw) (ow141 hw) (ow288 hw) (by decide) (rm_l1tob l Z a0 hw [] u h32 n0 (Nat.le_trans Z0 K33.1) ) e32 hml opd_6 rfl o80 rfl rfl rfl rfl rfl fun _ T34 _ Y hQ => ?_
  obtain ⟨t_34, kt_34, rfl, N34q, K34q, P34_0, P34_1⟩ := hQ
  have N34 := Fr.app N31 N34q
  have K35 := K33.trans K34q all0
  have O35 := O33.keep K34q all0
  refine zc0 Y B o81 ?_
  have F37 := (A32.keep K34q)
  have F38 := ((D32 (Or.inr (ow29 hw)) (ty := (.array .byte)) (by decide)).keep K34q nin0)
  have F39 := ((D32 (Or.inr (ow27 hw)) (ty := .byte) (by decide)).keep K34q nin0)
  refine zci Y B hZ rfl hown (ow289 hw) (ow290 hw) (ow2 hw) (ow291 hw) (by decide) (rm_siniBB l Z a0 hw [] b32 t_34 T34.heap n0 (Nat.le_trans Z0 K35.1) F37 ((Nat.le_trans (Nat.le_trans Z0 (Nat.le_refl _)) (Nat.le_of_eq g32.symm))) F38 F39) rfl hml opd_7 rfl o82 rfl rfl rfl rfl rfl fun _ T36 _ Y hQ => ?_
  obtain ⟨rfl, N36q, K36q, P36_0, P36_1, P36_2⟩ := hQ
  have N36 := Fr.app N34 N36q
  have K40 := K35.trans K36q (allS (Or.inr (Nat.le_trans (Nat.le_refl _) (Nat.le_of_eq g32.symm))) all0)
  have O40 := O35.keep K36q (allS (Nat.le_trans (Nat.le_trans Z0 (Nat.le_refl _)) (Nat.le_of_eq g32.symm)) all0)
  have F41 := (P34_1.keep K36q (ninS (Ne.symm (Nat.ne_of_lt (Nat.lt_of_lt_of_le A32.lt P34_0))) nin0))
  exact zrR Y B hret rfl rfl rfl hlk o83 rfl ⟨b32, t_34, kt_34, rfl, N36, K40, (Nat.le_trans (Nat.le_refl _) (Nat.le_of_eq g32.symm)), (Nat.le_trans K33.1 P34_0), P36_0, P36_1, P36_2, F41⟩ rfl rfl
def Q_asbinit (Z : State) (b : Addr) (cap : Nat) (G1 : Int32) (h0 : Heap) (n0 : Nat) : QT := fun rv hE LE => ∃ v : Addr, ∃ kv : ClassId, rv = none ∧ Fr n0 LE ∧ Keep h0 hE [b] ∧ (h0.size ≤ v) ∧ (Exa Z hE b ss4) ∧ (Fld Z hE b ss1 ss2 "B" (.int 0)) ∧ (Fld Z hE b ss1 ss3 "[B" (.ref v)) ∧ (Fld Z hE b ss1 ss5 "I" (.int (Int32.ofNat ([] : List Int32).length))) ∧ (Arv Z hE v kv .byte (Int32.ofNat cap) (B8 ([] : List Int32)) (.int 0)) ∧ (Exa Z hE v "[B")
theorem rm_asbinit (l : Launch) (Z : State) (a0 : Array Value) (hw : HW a0 Z) (ws : List Jvm.Cond) (b : Addr) (cap : Nat) (G1 : Int32) (h0 : Heap) (n0 : Nat) (Z0 : n0 ≤ h0.size) (B0 : Exa Z h0 b ss4) (B1 : Fld Z h0 b ss1 ss2 "B" (.int 0)) (B2 : Fld Z h0 b ss1 ss3 "[B" .null) (B3 : Fld Z h0 b ss1 ss5 "I" (.int 0)) (g_b : n0 ≤ b) (HCAP : cap ≤ 34) (O2 : Sta Z Z.heap ss0 ss7 "Z" (.int G1)) (P5 : ¬ (G1 = (0 : Int32))) (X00 : Old Z n0 h0) :
    MF l Z mn11 (Jvm.Cond.code mn11 cB11 2 (Option.none : Option Jvm.ClassFile.FieldType)) ws Ro8 #[(.ref b), (.int (Int32.ofNat cap))] h0 (Q_asbinit Z b cap G1 h0 n0) := by
  refine MF.of ss1 rfl #[rv b, iv (Int32.ofNat cap)] (plainFor_of_name opn_3) (fun _ => rfl) ?_
  intro p e s m below meth c _ hZ hh B hml hret hlk hown hnm Y e0
  have N0 := Fr.nil n0
  have K0 := Keep.refl h0 [b]
  refine zalN Y B o84 rfl ?_
  refine Go.a3 (initO Y B.1 hZ hown (ow62 hw) (ow12 hw) (ow13 hw) e0 rfl (by rw [hml]; rfl) rfl (hb B.2 o85.1) (by decide) (W := 0) (by show 2 * 0 + _ ≤ _; exact Nat.le_of_eq rfl) (by decide)) fun _ Y e30 => ?_
  refine zgs Y B hZ hown (ow63 hw) e30 (O2.ext X00.2) o86 fun _ Y e31 => ?_
  refine zN Y B o87 ((if0 _ _).trans (feq P5).1) ?_
  refine zalN Y B o88 rfl <| zilN Y B o89 rfl ?_
  refine znq Y B hZ (aty := .byte) (ow19 hw) e31 o90 (on_pos (by omega)) (cap := 34) (by rw [on_nat (by omega)]; exact HCAP) rfl rfl rfl (ad := "[B") (by decide +kernel) fun T32 h32 k32 b32 g32 Y e32 E32 A32 B32 => ?_
  have K33 := K0.ext E32
  have O33 := X00.ext E32
  have F35 := (B2.ext E32)
  have F36 := (B0.ext E32)
  refine Go.b3 (putF Y B.1 hZ hown (host := "") (Or.inl (ow64 hw)) Via.refl e32 F35 F36 (Or.inl (ow65 hw)) (ow51 hw) (ty := (.array .byte)) (by decide) rfl rfl rfl rfl (hb B.2 o91.1)) fun T34 h34 Y e34 W34 => ?_
  have N34 := Fr.snoc Y N0 g_b
  have K37 := K33.wr W34 (Or.inl (List.mem_of_getElem? (i := 0) rfl))
  have O37 := O33.wr W34 g_b
  refine zalN Y B o92 rfl <| zc0 Y B o93 ?_
  have F39 := ((B1.ext E32).other W34 (Or.inr (slot_ne (Or.inl (ow67 hw)) (Or.inl (ow65 hw)) (by decide) (t := .byte) (t' := (.array .byte)) (by decide) (by decide))))
  have F40 := (F36.wr W34)
  refine Go.b3 (putFN Y B.1 hZ hown (ow66 hw) Via.refl e34 F39 F40 (Or.inl (ow67 hw)) (ow51 hw) (ty := .byte) (v' := (.int (nar .byte (0 : Int32)))) (by decide) rfl (fits_nar_byte _) rfl rfl (hb B.2 o94.1)) fun T38 h38 Y e38 W38 => ?_
  have N38 := Fr.snoc Y N34 g_b
  have K41 := K37.wr W38 (Or.inl (List.mem_of_getElem? (i := 0) rfl))
  have O41 := O37.wr W38 g_b
  refine zgo Y B j4 ?_
  have F42 := (F40.wr W38)
  have F43 := ((F35.same W34).other W38 (Or.inr (slot_ne (Or.inl (ow65 hw)) (Or.inl (ow67 hw)) (by decide) (t := (.array .byte)) (t' := .byte) (by decide) (by decide))))
  have F44 := (((B3.ext E32).other W34 (Or.inr (slot_ne (Or.inl (ow99 hw)) (Or.inl (ow65 hw)) (by decide) (t := .int) (t' := (.array .byte)) (by decide) (by decide)))).other W38 (Or.inr (slot_ne (Or.inl (ow99 hw)) (Or.inl (ow67 hw)) (by decide) (t := .int) (t' := .byte) (by decide) (by decide))))
  have F45 := (((Arv.new A32 (on_pos (by omega))).other W34 (Ne.symm (Nat.ne_of_lt (Nat.lt_of_lt_of_le B0.lt (Nat.le_of_eq g32.symm))))).other W38 (Ne.symm (Nat.ne_of_lt (Nat.lt_of_lt_of_le B0.lt (Nat.le_of_eq g32.symm)))))
  have F46 := ((B32.wr W34).wr W38)
  exact zr0 Y B hret hlk o95 e38 ⟨b32, k32, rfl, N38, K41, (Nat.le_trans (Nat.le_refl _) (Nat.le_of_eq g32.symm)), F42, (F39.same W38), F43, F44, F45, F46⟩ rfl rfl
def Q_ens0 (Z : State) (b v : Addr) (kv : ClassId) (cap : Nat) (cs : List Int32) (mc : Nat) (h0 : Heap) (n0 : Nat) : QT := fun rv hE LE => rv = none ∧ Fr n0 LE ∧ hE = h0
theorem rm_ens0 (l : Launch) (Z : State) (a0 : Array Value) (hw : HW a0 Z) (ws : List Jvm.Cond) (b v : Addr) (kv : ClassId) (cap : Nat) (cs : List Int32) (mc : Nat) (h0 : Heap) (n0 : Nat) (Z0 : n0 ≤ h0.size) (B0 : Exa Z h0 b ss4) (B1 : Fld Z h0 b ss1 ss2 "B" (.int 0)) (B2 : Fld Z h0 b ss1 ss3 "[B" (.ref v)) (B3 : Fld Z h0 b ss1 ss5 "I" (.int (Int32.ofNat cs.length))) (B4 : Arv Z h0 v kv .byte (Int32.ofNat cap) (B8 cs) (.int 0)) (B5 : Exa Z h0 v "[B") (HMC : mc ≤ cap) (HCB : cap < 2 ^ 31) :
    MF l Z mn12 (Jvm.Cond.code mn12 cB12 3 (Option.none : Option Jvm.ClassFile.FieldType)) ws Ro0 #[(.ref b), (.int (Int32.ofNat mc))] h0 (Q_ens0 Z b v kv cap cs mc h0 n0) := by
  refine MF.of ss1 rfl #[rv b, iv (Int32.ofNat mc), un] (plainFor_of_name opn_3) (fun _ => rfl) ?_
  intro p e s m below meth c _ hZ hh B hml hret hlk hown hnm Y e0
  have N0 := Fr.nil n0
  refine zalN Y B o96 rfl ?_
  refine zgf Y B hZ hown (ow64 hw) Via.refl e0 B2 o97 fun _ Y e30 => ?_
  refine zln Y B hZ e30 B4 o98 ?_
  refine zalN Y B o99 rfl ?_
  refine zgf Y B hZ hown (ow66 hw) Via.refl e30 B1 o100 fun _ Y e32 => ?_
  refine zishr Y B o101 rfl ?_
  rw [shr0 (Int32.ofNat cap)]
  refine zisN Y B o102 (s2 rfl) <| zilN Y B o103 rfl <| zilN Y B o104 rfl <| zisub Y B o105 rfl ?_
  rw [show ((Int32.ofNat mc) - (Int32.ofNat cap)) = (Int32.ofNat mc - Int32.ofNat cap) from rfl]
  refine zY Y B j5 ((if0 _ _).trans (flt (show ¬ ((0 : Int32) < (Int32.ofNat mc - Int32.ofNat cap)) from (on_subneg HMC HCB))).2.2.2) ?_
  exact zr0 Y B hret hlk o106 e32 ⟨rfl, N0, rfl⟩ rfl rfl
def Q_infl0 (Z : State) (b x : Addr) (G1 : Int32) (h0 : Heap) (n0 : Nat) : QT := fun rv hE LE => rv = none ∧ Fr n0 LE ∧ hE = h0
theorem rm_infl0 (l : Launch) (Z : State) (a0 : Array Value) (hw : HW a0 Z) (ws : List Jvm.Cond) (b x : Addr) (G1 : Int32) (h0 : Heap) (n0 : Nat) (Z0 : n0 ≤ h0.size) (B0 : Exa Z h0 b ss4) (B1 : Fld Z h0 b ss1 ss2 "B" (.int 0)) (S0 : Exa Z h0 x ss0) (S1 : Fld Z h0 x ss0 ss2 "B" (.int 0)) (O2 : Sta Z Z.heap ss0 ss7 "Z" (.int G1)) (P5 : ¬ (G1 = (0 : Int32))) (X00 : Old Z n0 h0) :
    MF l Z mn13 (Jvm.Cond.code mn13 cB13 2 (Option.none : Option Jvm.ClassFile.FieldType)) ws Ro1 #[(.ref b), (.ref x)] h0 (Q_infl0 Z b x G1 h0 n0) := by
  refine MF.of ss1 rfl #[rv b, rv x] (plainFor_of_name opn_3) (fun _ => rfl) ?_
  intro p e s m below meth c _ hZ hh B hml hret hlk hown hnm Y e0
  have N0 := Fr.nil n0
  refine zgs Y B hZ hown (ow63 hw) e0 (O2.ext X00.2) o107 fun _ Y e30 => ?_
  refine zN Y B o108 ((if0 _ _).trans (feq P5).1) ?_
  refine zalN Y B o109 rfl ?_
  refine zgf Y B hZ hown (ow66 hw) Via.refl e30 B1 o110 fun _ Y e31 => ?_
  refine zalN Y B o111 rfl ?_
  refine zcv Y B hZ hown (ow115 hw) (ow94 hw) (notFace_of_selects (args := #[]) (mvT hZ (ow96 hw))) (ow96 hw) (ow95 hw) (ow2 hw) (ow97 hw) (by decide) S0 (rm_scoder l Z a0 hw [] x G1 h0 n0 (Nat.le_trans Z0 (Nat.le_refl _)) S0 S1 O2 P5 X00) e31 hml opd_0 rfl o112 rfl rfl rfl rfl rfl fun _ T32 _ Y hQ => ?_
  obtain ⟨rfl, N32q, e32⟩ := hQ
  have N32 := Fr.app N0 N32q
  refine zCY Y B j6 (by decide) ?_
  exact zr0 Y B hret hlk o113 e32 ⟨rfl, N32, rfl⟩ rfl rfl
def Q_sgetb (Z : State) (x t : Addr) (kt : ClassId) (ds : List Int32) (v : Addr) (kv : ClassId) (cap : Nat) (cs : List Int32) (G1 : Int32) (h0 : Heap) (n0 : Nat) : QT := fun rv hE LE => rv = none ∧ Fr n0 LE ∧ Keep h0 hE [v] ∧ (Arv Z hE v kv .byte (Int32.ofNat cap) (B8 (cs ++ ds)) (.int 0))
theorem rm_sgetb (l : Launch) (Z : State) (a0 : Array Value) (hw : HW a0 Z) (ws : List Jvm.Cond) (x t : Addr) (kt : ClassId) (ds : List Int32) (v : Addr) (kv : ClassId) (cap : Nat) (cs : List Int32) (G1 : Int32) (h0 : Heap) (n0 : Nat) (Z0 : n0 ≤ h0.size) (S0 : Exa Z h0 x ss0) (S1 : Fld Z h0 x ss0 ss2 "B" (.int 0)) (S2 : Fld Z h0 x ss0 ss3 "[B" (.ref t)) (S3 : Arv Z h0 t kt .byte (Int32.ofNat ds.length) (B8 ds) (.int 0)) (B4 : Arv Z h0 v kv .byte (Int32.ofNat cap) (B8 cs) (.int 0)) (HR : cs.length + ds.length ≤ cap) (HCB : cap < 2 ^ 31) (g_v : n0 ≤ v) (O2 : Sta Z Z.heap ss0 ss7 "Z" (.int G1)) (P5 : ¬ (G1 = (0 : Int32))) (X00 : Old Z n0 h0) :
    MF l Z mn14 (Jvm.Cond.code mn14 cB14 4 (Option.none : Option Jvm.ClassFile.FieldType)) ws Ro9 #[(.ref x), (.ref v), (.int (Int32.ofNat cs.length)), (.int 0)] h0 (Q_sgetb Z x t kt ds v kv cap cs G1 h0 n0) := by
  refine MF.of ss0 rfl #[rv x, rv v, iv (Int32.ofNat cs.length), iv 0] (plainFor_of_name opn_0) (fun _ => rfl) ?_
  intro p e s m below meth c _ hZ hh B hml hret hlk hown hnm Y e0
  have N0 := Fr.nil n0
  have K0 := Keep.refl h0 [v]
  refine zalN Y B o114 rfl ?_
  refine zcv Y B hZ hown (ow93 hw) (ow94 hw) (notFace_of_selects (args := #[]) (mvT hZ (ow96 hw))) (ow96 hw) (ow95 hw) (ow2 hw) (ow97 hw) (by decide) S0 (rm_scoder l Z a0 hw [] x G1 h0 n0 (Nat.le_trans Z0 (Nat.le_refl _)) S0 S1 O2 P5 X00) e0 hml opd_0 rfl o115 rfl rfl rfl rfl rfl fun _ T30 _ Y hQ => ?_
  obtain ⟨rfl, N30q, e30⟩ := hQ
  have N30 := Fr.app N0 N30q
  refine zilN Y B o116 rfl <| zCN Y B o117 (by decide) ?_
  refine zalN Y B o118 rfl ?_
  refine zgf Y B hZ hown (ow28 hw) Via.refl e30 S2 o119 fun _ Y e31 => ?_
  refine zc0 Y B o120 <| zalN Y B o121 rfl <| zilN Y B o122 rfl <| zilN Y B o123 rfl <| zishl Y B o124 rfl ?_
  rw [shl0 (Int32.ofNat cs.length)]
  refine zalN Y B o125 rfl ?_
  refine zgf Y B hZ hown (ow28 hw) Via.refl e31 S2 o126 fun _ Y e32 => ?_
  refine zln Y B hZ e32 S3 o127 ?_
  obtain ⟨T34, h34, L34, Y, e34, N34, K34, A34, st34⟩ := own_cpy Y B.1 hZ hown (ow121 hw) (ow124 hw) (ow122 hw) (ow123 hw) e32 (cs := ds) (es := cs) (ca := ds.length) (cb := cap) (n := ds.length) S3 B4 rfl rfl (Nat.le_refl _) (Nat.le_refl _) HR (by omega) HCB N30 g_v (g := (mkF m 22 #[rv x, rv v, iv (Int32.ofNat cs.length), iv 0] [(.int (Int32.ofNat ds.length)), (.int (Int32.ofNat cs.length)), (.ref v), (.int 0), (.ref t)])) rfl (by rw [hml]; rfl) rfl (hb B.2 o128.1) (by decide) (W := 0) (by show 2 * 0 + _ ≤ _; exact Nat.le_of_eq rfl) (by decide)
  refine Go.by st34 ?_
  have K35 := K0.trans K34 (allS (Or.inl (List.mem_of_getElem? (i := 0) rfl)) all0)
  have O35 := X00.keep K34 (allS g_v all0)
  show Go p e below _ _ (mkF m 25 #[rv x, rv v, iv (Int32.ofNat cs.length), iv 0] [])
  refine zgo Y B j7 ?_
  exact zr0 Y B hret hlk o129 e34 ⟨rfl, N34, K35, A34⟩ rfl rfl
def Q_putstr (Z : State) (b v : Addr) (kv : ClassId) (cap : Nat) (cs : List Int32) (x t : Addr) (kt : ClassId) (ds : List Int32) (G1 : Int32) (h0 : Heap) (n0 : Nat) : QT := fun rv hE LE => rv = none ∧ Fr n0 LE ∧ Keep h0 hE [v] ∧ (Arv Z hE v kv .byte (Int32.ofNat cap) (B8 (cs ++ ds)) (.int 0))
theorem rm_putstr (l : Launch) (Z : State) (a0 : Array Value) (hw : HW a0 Z) (ws : List Jvm.Cond) (b v : Addr) (kv : ClassId) (cap : Nat) (cs : List Int32) (x t : Addr) (kt : ClassId) (ds : List Int32) (G1 : Int32) (h0 : Heap) (n0 : Nat) (Z0 : n0 ≤ h0.size) (B0 : Exa Z h0 b ss4) (B1 : Fld Z h0 b ss1 ss2 "B" (.int 0)) (B2 : Fld Z h0 b ss1 ss3 "[B" (.ref v)) (B3 : Fld Z h0 b ss1 ss5 "I" (.int (Int32.ofNat cs.length))) (B4 : Arv Z h0 v kv .byte (Int32.ofNat cap) (B8 cs) (.int 0)) (B5 : Exa Z h0 v "[B") (S0 : Exa Z h0 x ss0) (S1 : Fld Z h0 x ss0 ss2 "B" (.int 0)) (S2 : Fld Z h0 x ss0 ss3 "[B" (.ref t)) (S3 : Arv Z h0 t kt .byte (Int32.ofNat ds.length) (B8 ds) (.int 0)) (HR : cs.length + ds.length ≤ cap) (HCB : cap < 2 ^ 31) (g_v : n0 ≤ v) (O2 : Sta Z Z.heap ss0 ss7 "Z" (.int G1)) (P5 : ¬ (G1 = (0 : Int32))) (X00 : Old Z n0 h0) :
    MF l Z mn15 (Jvm.Cond.code mn15 cB15 3 (Option.none : Option Jvm.ClassFile.FieldType)) ws Ro10 #[(.ref b), (.int (Int32.ofNat cs.length)), (.ref x)] h0 (Q_putstr Z b v kv cap cs x t kt ds G1 h0 n0) := by
  refine MF.of ss1 rfl #[rv b, iv (Int32.ofNat cs.length), rv x] (plainFor_of_name opn_3) (fun _ => rfl) ?_
  intro p e s m below meth c _ hZ hh B hml hret hlk hown hnm Y e0
  have N0 := Fr.nil n0
  have K0 := Keep.refl h0 [v]
  refine zalN Y B o130 rfl <| zalN Y B o131 rfl ?_
  refine zcp Y B hZ hown (ow110 hw) (ow111 hw) (own_selp (ow111 hw) (ow112 hw) (ow113 hw) (by decide)) (ow112 hw) (ow60 hw) (ow114 hw) (by decide) B0 (rm_infl0 l Z a0 hw [] b x G1 h0 n0 (Nat.le_trans Z0 (Nat.le_refl _)) B0 B1 S0 S1 O2 P5 X00) e0 hml opd_8 rfl o132 rfl rfl rfl rfl rfl fun _ T30 _ Y hQ => ?_
  obtain ⟨rfl, N30q, e30⟩ := hQ
  have N30 := Fr.app N0 N30q
  refine zalN Y B o133 rfl <| zalN Y B o134 rfl ?_
  refine zgf Y B hZ hown (ow64 hw) Via.refl e30 B2 o135 fun _ Y e31 => ?_
  refine zilN Y B o136 rfl <| zalN Y B o137 rfl ?_
  refine zgf Y B hZ hown (ow66 hw) Via.refl e31 B1 o138 fun _ Y e32 => ?_
  refine zcv Y B hZ hown (ow116 hw) (ow117 hw) (notFace_of_selects (args := #[]) (mvT hZ (ow119 hw))) (ow119 hw) (ow118 hw) (ow2 hw) (ow120 hw) (by decide) S0 (rm_sgetb l Z a0 hw [] x t kt ds v kv cap cs G1 h0 n0 (Nat.le_trans Z0 (Nat.le_refl _)) S0 S1 S2 S3 B4 HR HCB g_v O2 P5 X00) e32 hml opd_9 rfl o139 rfl rfl rfl rfl rfl fun _ T33 _ Y hQ => ?_
  obtain ⟨rfl, N33q, K33q, P33_0⟩ := hQ
  have N33 := Fr.app N30 N33q
  have K34 := K0.trans K33q (allS (Or.inl (List.mem_of_getElem? (i := 0) rfl)) all0)
  have O34 := X00.keep K33q (allS g_v all0)
  exact zr0 Y B hret hlk o140 rfl ⟨rfl, N33, K34, P33_0⟩ rfl rfl
def Q_asbappS (Z : State) (b v : Addr) (kv : ClassId) (cap : Nat) (cs : List Int32) (x t : Addr) (kt : ClassId) (ds : List Int32) (G1 : Int32) (h0 : Heap) (n0 : Nat) : QT := fun rv hE LE => rv = some (.ref b) ∧ Fr n0 LE ∧ Keep h0 hE [b, v] ∧ (Exa Z hE b ss4) ∧ (Fld Z hE b ss1 ss2 "B" (.int 0)) ∧ (Fld Z hE b ss1 ss3 "[B" (.ref v)) ∧ (Fld Z hE b ss1 ss5 "I" (.int (Int32.ofNat (cs ++ ds).length))) ∧ (Arv Z hE v kv .byte (Int32.ofNat cap) (B8 (cs ++ ds)) (.int 0)) ∧ (Exa Z hE v "[B")
theorem rm_asbappS (l : Launch) (Z : State) (a0 : Array Value) (hw : HW a0 Z) (ws : List Jvm.Cond) (b v : Addr) (kv : ClassId) (cap : Nat) (cs : List Int32) (x t : Addr) (kt : ClassId) (ds : List Int32) (G1 : Int32) (h0 : Heap) (n0 : Nat) (Z0 : n0 ≤ h0.size) (B0 : Exa Z h0 b ss4) (B1 : Fld Z h0 b ss1 ss2 "B" (.int 0)) (B2 : Fld Z h0 b ss1 ss3 "[B" (.ref v)) (B3 : Fld Z h0 b ss1 ss5 "I" (.int (Int32.ofNat cs.length))) (B4 : Arv Z h0 v kv .byte (Int32.ofNat cap) (B8 cs) (.int 0)) (B5 : Exa Z h0 v "[B") (S0 : Exa Z h0 x ss0) (S1 : Fld Z h0 x ss0 ss2 "B" (.int 0)) (S2 : Fld Z h0 x ss0 ss3 "[B" (.ref t)) (S3 : Arv Z h0 t kt .byte (Int32.ofNat ds.length) (B8 ds) (.int 0)) (HR : cs.length + ds.length ≤ cap) (HCB : cap < 2 ^ 31) (g_v : n0 ≤ v) (g_b : n0 ≤ b) (O2 : Sta Z Z.heap ss0 ss7 "Z" (.int G1)) (P5 : ¬ (G1 = (0 : Int32))) (X00 : Old Z n0 h0) :
    MF l Z mn16 (Jvm.Cond.code mn16 cB16 3 (Option.some (Jvm.ClassFile.FieldType.object ss1))) ws Ro11 #[(.ref b), (.ref x)] h0 (Q_asbappS Z b v kv cap cs x t kt ds G1 h0 n0) := by
  refine MF.of ss1 rfl #[rv b, rv x, un] (plainFor_of_name opn_3) (fun _ => rfl) ?_
  intro p e s m below meth c _ hZ hh B hml hret hlk hown hnm Y e0
  have N0 := Fr.nil n0
  have K0 := Keep.refl h0 [b, v]
  refine zalN Y B o141 rfl <| znnY Y B j8 <| zalN Y B o142 rfl ?_
  refine zcv Y B hZ hown (ow88 hw) (ow89 hw) (notFace_of_selects (args := #[]) (mvT hZ (ow91 hw))) (ow91 hw) (ow90 hw) (ow2 hw) (ow92 hw) (by decide) S0 (rm_slen l Z a0 hw [] x t kt ds G1 h0 n0 (Nat.le_trans Z0 (Nat.le_refl _)) S0 S1 S2 S3 O2 P5 X00) e0 hml opd_10 rfl o143 rfl rfl rfl rfl rfl fun _ T30 _ Y hQ => ?_
  obtain ⟨rfl, N30q, e30⟩ := hQ
  have N30 := Fr.app N0 N30q
  refine zisN Y B o144 (s2 rfl) <| zalN Y B o145 rfl <| zalN Y B o146 rfl ?_
  refine zgf Y B hZ hown (ow98 hw) Via.refl e30 B3 o147 fun _ Y e31 => ?_
  refine zilN Y B o148 rfl <| ziadd Y B o149 rfl ?_
  rw [show ((Int32.ofNat cs.length) + (Int32.ofNat ds.length)) = (Int32.ofNat (cs.length + ds.length)) from (on_add _ _)]
  refine zcp Y B hZ hown (ow100 hw) (ow101 hw) (own_selp (ow101 hw) (ow102 hw) (ow103 hw) (by decide)) (ow102 hw) (ow60 hw) (ow104 hw) (by decide) B0 (rm_ens0 l Z a0 hw [] b v kv cap cs (cs.length + ds.length) h0 n0 (Nat.le_trans Z0 (Nat.le_refl _)) B0 B1 B2 B3 B4 B5 (HR) HCB) e31 hml opd_11 rfl o150 rfl rfl rfl rfl rfl fun _ T32 _ Y hQ => ?_
  obtain ⟨rfl, N32q, e32⟩ := hQ
  have N32 := Fr.app N30 N32q
  refine zalN Y B o151 rfl <| zalN Y B o152 rfl ?_
  refine zgf Y B hZ hown (ow98 hw) Via.refl e32 B3 o153 fun _ Y e33 => ?_
  refine zalN Y B o154 rfl ?_
  refine zcp Y B hZ hown (ow105 hw) (ow106 hw) (own_selp (ow106 hw) (ow107 hw) (ow108 hw) (by decide)) (ow107 hw) (ow60 hw) (ow109 hw) (by decide) B0 (rm_putstr l Z a0 hw [] b v kv cap cs x t kt ds G1 h0 n0 (Nat.le_trans Z0 (Nat.le_refl _)) B0 B1 B2 B3 B4 B5 S0 S1 S2 S3 HR HCB g_v O2 P5 X00) e33 hml opd_12 rfl o155 rfl rfl rfl rfl rfl fun _ T34 _ Y hQ => ?_
  obtain ⟨rfl, N34q, K34q, P34_0⟩ := hQ
  have N34 := Fr.app N32 N34q
  have K35 := K0.trans K34q (allS (Or.inl (List.mem_of_getElem? (i := 1) rfl)) all0)
  have O35 := X00.keep K34q (allS g_v all0)
  refine zalN Y B o156 rfl <| zdup Y B o157 rfl ?_
  have F37 := (B3.keep K34q (ninS (ne_exa B0 B5 (by decide)) nin0))
  refine zgf Y B hZ hown (ow98 hw) Via.refl rfl F37 o158 fun _ Y e36 => ?_
  refine zilN Y B o159 rfl <| ziadd Y B o160 rfl ?_
  rw [show ((Int32.ofNat cs.length) + (Int32.ofNat ds.length)) = (Int32.ofNat (cs ++ ds).length) from (by rw [on_add, List.length_append])]
  have F39 := (B0.keep K34q)
  refine Go.b3 (putF Y B.1 hZ hown (host := "") (Or.inl (ow98 hw)) Via.refl e36 F37 F39 (Or.inl (ow99 hw)) (ow51 hw) (ty := .int) (by decide) rfl rfl rfl rfl (hb B.2 o161.1)) fun T38 h38 Y e38 W38 => ?_
  have N38 := Fr.snoc Y N34 g_b
  have K40 := K35.wr W38 (Or.inl (List.mem_of_getElem? (i := 0) rfl))
  have O40 := O35.wr W38 g_b
  refine zalN Y B o162 rfl ?_
  have F41 := (F39.wr W38)
  have F42 := ((B1.keep K34q (ninS (ne_exa B0 B5 (by decide)) nin0)).other W38 (Or.inr (slot_ne (Or.inl (ow67 hw)) (Or.inl (ow99 hw)) (by decide) (t := .byte) (t' := .int) (by decide) (by decide))))
  have F43 := ((B2.keep K34q (ninS (ne_exa B0 B5 (by decide)) nin0)).other W38 (Or.inr (slot_ne (Or.inl (ow65 hw)) (Or.inl (ow99 hw)) (by decide) (t := (.array .byte)) (t' := .int) (by decide) (by decide))))
  have F44 := (P34_0.other W38 (ne_exa B5 B0 (by decide)))
  have F45 := ((B5.keep K34q).wr W38)
  exact zrR Y B hret rfl rfl rfl hlk o163 e38 ⟨rfl, N38, K40, F41, F42, F43, (F37.same W38), F44, F45⟩ rfl rfl
def Q_sbappS (Z : State) (b v : Addr) (kv : ClassId) (cap : Nat) (cs : List Int32) (x t : Addr) (kt : ClassId) (ds : List Int32) (G1 : Int32) (h0 : Heap) (n0 : Nat) : QT := fun rv hE LE => rv = some (.ref b) ∧ Fr n0 LE ∧ Keep h0 hE [b, v] ∧ (Exa Z hE b ss4) ∧ (Fld Z hE b ss1 ss2 "B" (.int 0)) ∧ (Fld Z hE b ss1 ss3 "[B" (.ref v)) ∧ (Fld Z hE b ss1 ss5 "I" (.int (Int32.ofNat (cs ++ ds).length))) ∧ (Arv Z hE v kv .byte (Int32.ofNat cap) (B8 (cs ++ ds)) (.int 0)) ∧ (Exa Z hE v "[B")
theorem rm_sbappS (l : Launch) (Z : State) (a0 : Array Value) (hw : HW a0 Z) (ws : List Jvm.Cond) (b v : Addr) (kv : ClassId) (cap : Nat) (cs : List Int32) (x t : Addr) (kt : ClassId) (ds : List Int32) (G1 : Int32) (h0 : Heap) (n0 : Nat) (Z0 : n0 ≤ h0.size) (B0 : Exa Z h0 b ss4) (B1 : Fld Z h0 b ss1 ss2 "B" (.int 0)) (B2 : Fld Z h0 b ss1 ss3 "[B" (.ref v)) (B3 : Fld Z h0 b ss1 ss5 "I" (.int (Int32.ofNat cs.length))) (B4 : Arv Z h0 v kv .byte (Int32.ofNat cap) (B8 cs) (.int 0)) (B5 : Exa Z h0 v "[B") (S0 : Exa Z h0 x ss0) (S1 : Fld Z h0 x ss0 ss2 "B" (.int 0)) (S2 : Fld Z h0 x ss0 ss3 "[B" (.ref t)) (S3 : Arv Z h0 t kt .byte (Int32.ofNat ds.length) (B8 ds) (.int 0)) (HR : cs.length + ds.length ≤ cap) (HCB : cap < 2 ^ 31) (g_v : n0 ≤ v) (g_b : n0 ≤ b) (O2 : Sta Z Z.heap ss0 ss7 "Z" (.int G1)) (P5 : ¬ (G1 = (0 : Int32))) (X00 : Old Z n0 h0) :
    MF l Z mn17 (Jvm.Cond.code mn17 cB17 2 (Option.some (Jvm.ClassFile.FieldType.object ss4))) ws Ro12 #[(.ref b), (.ref x)] h0 (Q_sbappS Z b v kv cap cs x t kt ds G1 h0 n0) := by
  refine MF.of ss4 rfl #[rv b, rv x] (plainFor_of_name opn_4) (fun _ => rfl) ?_
  intro p e s m below meth c _ hZ hh B hml hret hlk hown hnm Y e0
  have N0 := Fr.nil n0
  have K0 := Keep.refl h0 [b, v]
  refine zalN Y B o164 rfl <| zalN Y B o165 rfl ?_
  obtain ⟨_, _, ⟨T30, L30, k30, n30⟩, -, Y, ⟨Lc30, hQ30, l30, y30, z30⟩, st30⟩ := superBack Y B.1 hZ (y := mn16) hown (ow83 hw) (own_same (ow84 hw) (ow103 hw) rfl (by decide)) (ow84 hw) (ow85 hw) (by decide) (backOf (W := 0) (rm_asbappS l Z a0 hw [] b v kv cap cs x t kt ds G1 h0 n0 (Nat.le_trans Z0 (Nat.le_refl _)) B0 B1 B2 B3 B4 B5 S0 S1 S2 S3 HR HCB g_v g_b O2 P5 X00) hZ (ow87 hw) (ow60 hw) (by decide) (by decide)) e0 (Ins.self B0) (g := (mkF m 2 #[rv b, rv x] [(.ref x), (.ref b)])) rfl (by rw [hml]; rfl) (ow87 hw) (argsL := [(.ref x)]) (rest := []) (lenOf opd_13 rfl) rfl (by show 2 * 0 + _ ≤ _; exact Nat.le_of_eq rfl) (hb B.2 o166.1) (fun _ _ => ⟨rfl, e0, (by decide : 0 + 0 ≤ _), (by decide : 0 + 0 ≤ _)⟩)
  dsimp only [Pt.U, Pt.locs, Pt.cells, Pt.slots] at Y l30 y30 z30 st30 hQ30
  subst l30 y30 z30
  obtain ⟨rfl, N30q, K30q, P30_0, P30_1, P30_2, P30_3, P30_4, P30_5⟩ := hQ30
  have N30 := Fr.app N0 N30q
  refine Go.tr st30 ?_
  have K31 := K0.trans K30q (allS (Or.inl (List.mem_of_getElem? (i := 0) rfl)) (allS (Or.inl (List.mem_of_getElem? (i := 1) rfl)) all0))
  have O31 := X00.keep K30q (allS g_b (allS g_v all0))
  refine zpop Y B o167 rfl <| zalN Y B o168 rfl ?_
  exact zrR Y B hret rfl rfl rfl hlk o169 rfl ⟨rfl, N30, K31, P30_0, P30_1, P30_2, P30_3, P30_4, P30_5⟩ rfl rfl
def Q_asbl1 (Z : State) (b : Addr) (G1 : Int32) (h0 : Heap) (n0 : Nat) : QT := fun rv hE LE => rv = some (.int 1) ∧ Fr n0 LE ∧ hE = h0
theorem rm_asbl1 (l : Launch) (Z : State) (a0 : Array Value) (hw : HW a0 Z) (ws : List Jvm.Cond) (b : Addr) (G1 : Int32) (h0 : Heap) (n0 : Nat) (Z0 : n0 ≤ h0.size) (B0 : Exa Z h0 b ss4) (B1 : Fld Z h0 b ss1 ss2 "B" (.int 0)) (O2 : Sta Z Z.heap ss0 ss7 "Z" (.int G1)) (P5 : ¬ (G1 = (0 : Int32))) (X00 : Old Z n0 h0) :
    MF l Z mn18 (Jvm.Cond.code mn18 cB18 1 (Option.some Jvm.ClassFile.FieldType.boolean)) ws Ro0 #[(.ref b)] h0 (Q_asbl1 Z b G1 h0 n0) := by
  refine MF.of ss1 rfl #[rv b] (plainFor_of_name opn_3) (fun _ => rfl) ?_
  intro p e s m below meth c _ hZ hh B hml hret hlk hown hnm Y e0
  have N0 := Fr.nil n0
  refine zgs Y B hZ hown (ow63 hw) e0 (O2.ext X00.2) o170 fun _ Y e30 => ?_
  refine zN Y B o171 ((if0 _ _).trans (feq P5).1) ?_
  refine zalN Y B o172 rfl ?_
  refine zgf Y B hZ hown (ow66 hw) Via.refl e30 B1 o173 fun _ Y e31 => ?_
  refine zN Y B o174 (by decide) ?_
  refine zc1 Y B o175 <| zgo Y B j9 ?_
  exact zrN Y B (t := .boolean) hret (by simp) hlk o176 e31 ⟨rfl, N0, rfl⟩ rfl rfl
def Q_asbappC (Z : State) (b v : Addr) (kv : ClassId) (cap : Nat) (cs : List Int32) (u G1 : Int32) (h0 : Heap) (n0 : Nat) : QT := fun rv hE LE => rv = some (.ref b) ∧ Fr n0 LE ∧ Keep h0 hE [b, v] ∧ (Exa Z hE b ss4) ∧ (Fld Z hE b ss1 ss2 "B" (.int 0)) ∧ (Fld Z hE b ss1 ss3 "[B" (.ref v)) ∧ (Fld Z hE b ss1 ss5 "I" (.int (Int32.ofNat (cs ++ [u]).length))) ∧ (Arv Z hE v kv .byte (Int32.ofNat cap) (B8 (cs ++ [u])) (.int 0)) ∧ (Exa Z hE v "[B")
theorem rm_asbappC (l : Launch) (Z : State) (a0 : Array Value) (hw : HW a0 Z) (ws : List Jvm.Cond) (b v : Addr) (kv : ClassId) (cap : Nat) (cs : List Int32) (u G1 : Int32) (h0 : Heap) (n0 : Nat) (Z0 : n0 ≤ h0.size) (B0 : Exa Z h0 b ss4) (B1 : Fld Z h0 b ss1 ss2 "B" (.int 0)) (B2 : Fld Z h0 b ss1 ss3 "[B" (.ref v)) (B3 : Fld Z h0 b ss1 ss5 "I" (.int (Int32.ofNat cs.length))) (B4 : Arv Z h0 v kv .byte (Int32.ofNat cap) (B8 cs) (.int 0)) (B5 : Exa Z h0 v "[B") (HR : cs.length + 1 ≤ cap) (HCB : cap < 2 ^ 31) (g_v : n0 ≤ v) (g_b : n0 ≤ b) (HC : ¬ (255 : Int32) < u) (O2 : Sta Z Z.heap ss0 ss7 "Z" (.int G1)) (P5 : ¬ (G1 = (0 : Int32))) (X00 : Old Z n0 h0) :
    MF l Z mn19 (Jvm.Cond.code mn19 cB19 2 (Option.some (Jvm.ClassFile.FieldType.object ss1))) ws Ro2 #[(.ref b), (.int u)] h0 (Q_asbappC Z b v kv cap cs u G1 h0 n0) := by
  refine MF.of ss1 rfl #[rv b, iv u] (plainFor_of_name opn_3) (fun _ => rfl) ?_
  intro p e s m below meth c _ hZ hh B hml hret hlk hown hnm Y e0
  have N0 := Fr.nil n0
  have K0 := Keep.refl h0 [b, v]
  refine zalN Y B o177 rfl <| zalN Y B o178 rfl ?_
  refine zgf Y B hZ hown (ow98 hw) Via.refl e0 B3 o179 fun _ Y e30 => ?_
  refine zc1 Y B o180 <| ziadd Y B o181 rfl ?_
  rw [show ((Int32.ofNat cs.length) + (1 : Int32)) = (Int32.ofNat (cs.length + 1)) from (on_add _ 1)]
  refine zcp Y B hZ hown (ow100 hw) (ow101 hw) (own_selp (ow101 hw) (ow102 hw) (ow103 hw) (by decide)) (ow102 hw) (ow60 hw) (ow104 hw) (by decide) B0 (rm_ens0 l Z a0 hw [] b v kv cap cs (cs.length + 1) h0 n0 (Nat.le_trans Z0 (Nat.le_refl _)) B0 B1 B2 B3 B4 B5 (HR) HCB) e30 hml opd_11 rfl o182 rfl rfl rfl rfl rfl fun _ T31 _ Y hQ => ?_
  obtain ⟨rfl, N31q, e31⟩ := hQ
  have N31 := Fr.app N0 N31q
  refine zalN Y B o183 rfl ?_
  refine zcv Y B hZ hown (ow134 hw) (ow135 hw) (notFace_of_selects (args := #[]) (mvT hZ (ow137 hw))) (ow137 hw) (ow136 hw) (ow60 hw) (ow138 hw) (by decide) B0 (rm_asbl1 l Z a0 hw [] b G1 h0 n0 (Nat.le_trans Z0 (Nat.le_refl _)) B0 B1 O2 P5 X00) e31 hml opd_3 rfl o184 rfl rfl rfl rfl rfl fun _ T32 _ Y hQ => ?_
  obtain ⟨rfl, N32q, e32⟩ := hQ
  have N32 := Fr.app N31 N32q
  refine zN Y B o185 (by decide) ?_
  refine zilN Y B o186 rfl ?_
  refine zcs Y B hZ hown (ow139 hw) (ow140 hw) (ow141 hw) (ow142 hw) (by decide) (rm_canenc l Z a0 hw [] u h0 n0 (Nat.le_trans Z0 (Nat.le_refl _)) HC) e32 hml opd_5 rfl o187 rfl rfl rfl rfl rfl fun _ T33 _ Y hQ => ?_
  obtain ⟨rfl, N33q, e33⟩ := hQ
  have N33 := Fr.app N32 N33q
  refine zN Y B o188 (by decide) ?_
  refine zalN Y B o189 rfl ?_
  refine zgf Y B hZ hown (ow64 hw) Via.refl e33 B2 o190 fun _ Y e34 => ?_
  refine zalN Y B o191 rfl <| zdup Y B o192 rfl ?_
  refine zgf Y B hZ hown (ow98 hw) Via.refl e34 B3 o193 fun _ Y e35 => ?_
  refine Go.by (fun _ kq_ => XS.dupX1 Y.here B.1 rfl (hb B.2 o194.1) rfl rfl rfl kq_) ?_
  show Go p e below _ _ (mkF m 34 #[rv b, iv u] [(.int (Int32.ofNat cs.length)), (.ref b), (.int (Int32.ofNat cs.length)), (.ref v)])
  refine zc1 Y B o195 <| ziadd Y B o196 rfl ?_
  rw [show ((Int32.ofNat cs.length) + (1 : Int32)) = (Int32.ofNat (cs ++ [u]).length) from (by rw [List.length_append]; exact on_add _ 1)]
  refine Go.b3 (putF Y B.1 hZ hown (host := "") (Or.inl (ow98 hw)) Via.refl e35 B3 B0 (Or.inl (ow99 hw)) (ow51 hw) (ty := .int) (by decide) rfl rfl rfl rfl (hb B.2 o197.1)) fun T36 h36 Y e36 W36 => ?_
  have N36 := Fr.snoc Y N33 g_b
  have K37 := K0.wr W36 (Or.inl (List.mem_of_getElem? (i := 0) rfl))
  have O37 := X00.wr W36 g_b
  refine zilN Y B o198 rfl <| zi2b Y B o199 rfl ?_
  have F39 := (B4.other W36 (ne_exa B5 B0 (by decide)))
  obtain ⟨c38, A38, q38, S38, M38, G38, J38⟩ := id F39
  refine Go.b1 (stB Y B.1 hZ e36 A38 (j := (Int32.ofNat cs.length)) (inb_of S38 ⟨on_pos (by omega), on_lt (by omega) HCB⟩) rfl rfl (hb B.2 o200.1)) fun T38 h38 Y e38 W38 => ?_
  have N38 := Fr.snoc Y N36 g_v
  have K40 := K37.wr W38 (Or.inl (List.mem_of_getElem? (i := 1) rfl))
  have O40 := O37.wr W38 g_v
  have V38 : Arv Z h38 v kv .byte (Int32.ofNat cap) (B8 (cs ++ [u])) (.int 0) := own_push (cs := cs) (x := u) F39 (on_nat (by omega)) W38 (nar_b8 u)
  refine zgo Y B j10 <| zalN Y B o201 rfl ?_
  have F41 := ((B0.wr W36).wr W38)
  have F42 := ((B1.other W36 (Or.inr (slot_ne (Or.inl (ow67 hw)) (Or.inl (ow99 hw)) (by decide) (t := .byte) (t' := .int) (by decide) (by decide)))).other W38 (Or.inl (ne_exa B0 B5 (by decide))))
  have F43 := ((B2.other W36 (Or.inr (slot_ne (Or.inl (ow65 hw)) (Or.inl (ow99 hw)) (by decide) (t := (.array .byte)) (t' := .int) (by decide) (by decide)))).other W38 (Or.inl (ne_exa B0 B5 (by decide))))
  have F44 := ((B3.same W36).other W38 (Or.inl (ne_exa B0 B5 (by decide))))
  have F45 := ((B5.wr W36).wr W38)
  exact zrR Y B hret rfl rfl rfl hlk o202 e38 ⟨rfl, N38, K40, F41, F42, F43, F44, V38, F45⟩ rfl rfl
def Q_sbappC (Z : State) (b v : Addr) (kv : ClassId) (cap : Nat) (cs : List Int32) (u G1 : Int32) (h0 : Heap) (n0 : Nat) : QT := fun rv hE LE => rv = some (.ref b) ∧ Fr n0 LE ∧ Keep h0 hE [b, v] ∧ (Exa Z hE b ss4) ∧ (Fld Z hE b ss1 ss2 "B" (.int 0)) ∧ (Fld Z hE b ss1 ss3 "[B" (.ref v)) ∧ (Fld Z hE b ss1 ss5 "I" (.int (Int32.ofNat (cs ++ [u]).length))) ∧ (Arv Z hE v kv .byte (Int32.ofNat cap) (B8 (cs ++ [u])) (.int 0)) ∧ (Exa Z hE v "[B")
theorem rm_sbappC (l : Launch) (Z : State) (a0 : Array Value) (hw : HW a0 Z) (ws : List Jvm.Cond) (b v : Addr) (kv : ClassId) (cap : Nat) (cs : List Int32) (u G1 : Int32) (h0 : Heap) (n0 : Nat) (Z0 : n0 ≤ h0.size) (B0 : Exa Z h0 b ss4) (B1 : Fld Z h0 b ss1 ss2 "B" (.int 0)) (B2 : Fld Z h0 b ss1 ss3 "[B" (.ref v)) (B3 : Fld Z h0 b ss1 ss5 "I" (.int (Int32.ofNat cs.length))) (B4 : Arv Z h0 v kv .byte (Int32.ofNat cap) (B8 cs) (.int 0)) (B5 : Exa Z h0 v "[B") (HR : cs.length + 1 ≤ cap) (HCB : cap < 2 ^ 31) (g_v : n0 ≤ v) (g_b : n0 ≤ b) (HC : ¬ (255 : Int32) < u) (O2 : Sta Z Z.heap ss0 ss7 "Z" (.int G1)) (P5 : ¬ (G1 = (0 : Int32))) (X00 : Old Z n0 h0) :
    MF l Z mn20 (Jvm.Cond.code mn20 cB20 2 (Option.some (Jvm.ClassFile.FieldType.object ss4))) ws Ro3 #[(.ref b), (.int u)] h0 (Q_sbappC Z b v kv cap cs u G1 h0 n0) := by
  refine MF.of ss4 rfl #[rv b, iv u] (plainFor_of_name opn_4) (fun _ => rfl) ?_
  intro p e s m below meth c _ hZ hh B hml hret hlk hown hnm Y e0
  have N0 := Fr.nil n0
  have K0 := Keep.refl h0 [b, v]
  refine zalN Y B o203 rfl <| zilN Y B o204 rfl ?_
  obtain ⟨_, _, ⟨T30, L30, k30, n30⟩, -, Y, ⟨Lc30, hQ30, l30, y30, z30⟩, st30⟩ := superBack Y B.1 hZ (y := mn19) hown (ow130 hw) (own_same (ow131 hw) (ow103 hw) rfl (by decide)) (ow131 hw) (ow85 hw) (by decide) (backOf (W := 0) (rm_asbappC l Z a0 hw [] b v kv cap cs u G1 h0 n0 (Nat.le_trans Z0 (Nat.le_refl _)) B0 B1 B2 B3 B4 B5 HR HCB g_v g_b HC O2 P5 X00) hZ (ow133 hw) (ow60 hw) (by decide) (by decide)) e0 (Ins.self B0) (g := (mkF m 2 #[rv b, iv u] [(.int u), (.ref b)])) rfl (by rw [hml]; rfl) (ow133 hw) (argsL := [(.int u)]) (rest := []) (lenOf opd_14 rfl) rfl (by show 2 * 0 + _ ≤ _; exact Nat.le_of_eq rfl) (hb B.2 o205.1) (fun _ _ => ⟨rfl, e0, (by decide : 0 + 0 ≤ _), (by decide : 0 + 0 ≤ _)⟩)
  dsimp only [Pt.U, Pt.locs, Pt.cells, Pt.slots] at Y l30 y30 z30 st30 hQ30
  subst l30 y30 z30
  obtain ⟨rfl, N30q, K30q, P30_0, P30_1, P30_2, P30_3, P30_4, P30_5⟩ := hQ30
  have N30 := Fr.app N0 N30q
  refine Go.tr st30 ?_
  have K31 := K0.trans K30q (allS (Or.inl (List.mem_of_getElem? (i := 0) rfl)) (allS (Or.inl (List.mem_of_getElem? (i := 1) rfl)) all0))
  have O31 := X00.keep K30q (allS g_b (allS g_v all0))
  refine zpop Y B o206 rfl <| zalN Y B o207 rfl ?_
  exact zrR Y B hret rfl rfl rfl hlk o208 rfl ⟨rfl, N30, K31, P30_0, P30_1, P30_2, P30_3, P30_4, P30_5⟩ rfl rfl
def Q_getval (Z : State) (b v : Addr) (h0 : Heap) (n0 : Nat) : QT := fun rv hE LE => rv = some (.ref v) ∧ Fr n0 LE ∧ hE = h0
theorem rm_getval (l : Launch) (Z : State) (a0 : Array Value) (hw : HW a0 Z) (ws : List Jvm.Cond) (b v : Addr) (h0 : Heap) (n0 : Nat) (Z0 : n0 ≤ h0.size) (B0 : Exa Z h0 b ss4) (B2 : Fld Z h0 b ss1 ss3 "[B" (.ref v)) :
    MF l Z mn21 (Jvm.Cond.code mn21 cB21 1 (Option.some (Jvm.ClassFile.FieldType.array Jvm.ClassFile.FieldType.byte))) ws Ro0 #[(.ref b)] h0 (Q_getval Z b v h0 n0) := by
  refine MF.of ss1 rfl #[rv b] (plainFor_of_name opn_3) (fun _ => rfl) ?_
  intro p e s m below meth c _ hZ hh B hml hret hlk hown hnm Y e0
  have N0 := Fr.nil n0
  refine zalN Y B o209 rfl ?_
  refine zgf Y B hZ hown (ow64 hw) Via.refl e0 B2 o210 fun _ Y e30 => ?_
  exact zrR Y B hret rfl rfl rfl hlk o211 e30 ⟨rfl, N0, rfl⟩ rfl rfl
def Q_asblen (Z : State) (b : Addr) (z : Int32) (h0 : Heap) (n0 : Nat) : QT := fun rv hE LE => rv = some (.int z) ∧ Fr n0 LE ∧ hE = h0
theorem rm_asblen (l : Launch) (Z : State) (a0 : Array Value) (hw : HW a0 Z) (ws : List Jvm.Cond) (b : Addr) (z : Int32) (h0 : Heap) (n0 : Nat) (Z0 : n0 ≤ h0.size) (B0 : Exa Z h0 b ss4) (B3 : Fld Z h0 b ss1 ss5 "I" (.int z)) :
    MF l Z mn22 (Jvm.Cond.code mn22 cB22 1 (Option.some Jvm.ClassFile.FieldType.int)) ws Ro0 #[(.ref b)] h0 (Q_asblen Z b z h0 n0) := by
  refine MF.of ss1 rfl #[rv b] (plainFor_of_name opn_3) (fun _ => rfl) ?_
  intro p e s m below meth c _ hZ hh B hml hret hlk hown hnm Y e0
  have N0 := Fr.nil n0
  refine zalN Y B o212 rfl ?_
  refine zgf Y B hZ hown (ow98 hw) Via.refl e0 B3 o213 fun _ Y e30 => ?_
  exact zrI Y B hret hlk o214 e30 ⟨rfl, N0, rfl⟩ rfl rfl
def Q_sblen (Z : State) (b : Addr) (z : Int32) (h0 : Heap) (n0 : Nat) : QT := fun rv hE LE => rv = some (.int z) ∧ Fr n0 LE ∧ hE = h0
theorem rm_sblen (l : Launch) (Z : State) (a0 : Array Value) (hw : HW a0 Z) (ws : List Jvm.Cond) (b : Addr) (z : Int32) (h0 : Heap) (n0 : Nat) (Z0 : n0 ≤ h0.size) (B0 : Exa Z h0 b ss4) (B3 : Fld Z h0 b ss1 ss5 "I" (.int z)) :
    MF l Z mn23 (Jvm.Cond.code mn23 cB23 1 (Option.some Jvm.ClassFile.FieldType.int)) ws Ro5 #[(.ref b)] h0 (Q_sblen Z b z h0 n0) := by
  refine MF.of ss4 rfl #[rv b] (plainFor_of_name opn_4) (fun _ => rfl) ?_
  intro p e s m below meth c _ hZ hh B hml hret hlk hown hnm Y e0
  have N0 := Fr.nil n0
  refine zalN Y B o215 rfl ?_
  obtain ⟨_, _, ⟨T30, L30, k30, n30⟩, -, Y, ⟨Lc30, hQ30, l30, y30, z30⟩, st30⟩ := superBack Y B.1 hZ (y := mn22) hown (ow233 hw) (own_same (ow229 hw) (ow103 hw) rfl (by decide)) (ow229 hw) (ow85 hw) (by decide) (backOf (W := 0) (rm_asblen l Z a0 hw [] b z h0 n0 (Nat.le_trans Z0 (Nat.le_refl _)) B0 B3) hZ (ow234 hw) (ow60 hw) (by decide) (by decide)) e0 (Ins.self B0) (g := (mkF m 1 #[rv b] [(.ref b)])) rfl (by rw [hml]; rfl) (ow234 hw) (argsL := []) (rest := []) (lenOf opd_10 rfl) rfl (by show 2 * 0 + _ ≤ _; exact Nat.le_of_eq rfl) (hb B.2 o216.1) (fun _ _ => ⟨rfl, e0, (by decide : 0 + 0 ≤ _), (by decide : 0 + 0 ≤ _)⟩)
  dsimp only [Pt.U, Pt.locs, Pt.cells, Pt.slots] at Y l30 y30 z30 st30 hQ30
  subst l30 y30 z30
  obtain ⟨rfl, N30q, e30⟩ := hQ30
  have N30 := Fr.app N0 N30q
  refine Go.tr st30 ?_
  exact zrI Y B hret hlk o217 e30 ⟨rfl, N30, rfl⟩ rfl rfl
def Q_cor1 (Z : State) (v : Addr) (kv : ClassId) (cs : List Int32) (h0 : Heap) (n0 : Nat) : QT := fun rv hE LE => ∃ t : Addr, ∃ kt : ClassId, rv = some (.ref t) ∧ Fr n0 LE ∧ Keep h0 hE [] ∧ (h0.size ≤ t) ∧ (Arv Z hE t kt .byte (Int32.ofNat cs.length) (B8 cs) (.int 0))
theorem rm_cor1 (l : Launch) (Z : State) (a0 : Array Value) (hw : HW a0 Z) (ws : List Jvm.Cond) (v : Addr) (kv : ClassId) (cs : List Int32) (h0 : Heap) (n0 : Nat) (Z0 : n0 ≤ h0.size) (B4 : Arv Z h0 v kv .byte (Int32.ofNat cs.length) (B8 cs) (.int 0)) (B5 : Exa Z h0 v "[B") (HL : cs.length ≤ 34) :
    MF l Z mn24 (Jvm.Cond.code mn24 cB24 3 (Option.some (Jvm.ClassFile.FieldType.array Jvm.ClassFile.FieldType.byte))) ws Ro13 #[(.ref v), (.int 0), (.int (Int32.ofNat cs.length))] h0 (Q_cor1 Z v kv cs h0 n0) := by
  refine MF.of ss19 rfl #[rv v, iv 0, iv (Int32.ofNat cs.length)] (plainFor_of_name opn_5) (fun _ => rfl) ?_
  intro p e s m below meth c _ hZ hh B hml hret hlk hown hnm Y e0
  have N0 := Fr.nil n0
  have K0 := Keep.refl h0 []
  refine zilN Y B o218 rfl <| zN Y B o219 (by decide) ?_
  refine zilN Y B o220 rfl <| zalN Y B o221 rfl ?_
  refine zln Y B hZ e0 B4 o222 ?_
  refine zCY Y B j11 (teq rfl).1 ?_
  refine zalN Y B o223 rfl ?_
  obtain ⟨T31, h31, Y, e31, E31, A31, B31, st31⟩ := cloneH Y B.1 hZ hown (ad := "[B") (ow239 hw) (ow240 hw) (ow244 hw) (ow242 hw) (ow243 hw) (ow245 hw) e0 B4.arh B5 (g := (mkF m 18 #[rv v, iv 0, iv (Int32.ofNat cs.length)] [(.ref v)])) rfl (by rw [hml]; rfl) rfl (hb B.2 o224.1) (by decide) (W := 0) (cap := 34) (by show 2 * 0 + _ ≤ _; exact Nat.le_of_eq rfl) (by decide) (by rw [on_nat (by omega)]; exact HL) (by decide) (by decide)
  obtain ⟨b31, g31⟩ : ∃ z, z = h0.size := ⟨_, rfl⟩
  rw [← g31] at A31 B31 st31
  refine Go.by st31 ?_
  have K32 := K0.ext E31
  show Go p e below _ _ (mkF m 21 #[rv v, iv 0, iv (Int32.ofNat cs.length)] [(.ref b31)])
  refine Go.a3 (st' := _ :: _) (castY Y B.1 hZ hown (ow246 hw) e31 (Ins.self B31) rfl rfl (hb B.2 o225.1)) fun _ Y e33 => ?_
  exact zrR Y B hret rfl rfl rfl hlk o226 e33 ⟨b31, kv, rfl, N0, K32, (Nat.le_trans (Nat.le_refl _) (Nat.le_of_eq g31.symm)), (arv_of_arh A31)⟩ rfl rfl
def Q_siniAV1 (Z : State) (x b v : Addr) (kv : ClassId) (cs : List Int32) (G1 : Int32) (h0 : Heap) (n0 : Nat) : QT := fun rv hE LE => ∃ t : Addr, ∃ kt : ClassId, rv = none ∧ Fr n0 LE ∧ Keep h0 hE [x] ∧ (h0.size ≤ t) ∧ (Exa Z hE x ss0) ∧ (Fld Z hE x ss0 ss2 "B" (.int 0)) ∧ (Fld Z hE x ss0 ss3 "[B" (.ref t)) ∧ (Arv Z hE t kt .byte (Int32.ofNat cs.length) (B8 cs) (.int 0))
theorem rm_siniAV1 (l : Launch) (Z : State) (a0 : Array Value) (hw : HW a0 Z) (ws : List Jvm.Cond) (x b v : Addr) (kv : ClassId) (cs : List Int32) (G1 : Int32) (h0 : Heap) (n0 : Nat) (Z0 : n0 ≤ h0.size) (E1 : Exa Z h0 x ss0) (g_x : n0 ≤ x) (F1 : Fld Z h0 x ss0 ss3 "[B" .null) (F2 : Fld Z h0 x ss0 ss2 "B" (.int 0)) (B0 : Exa Z h0 b ss4) (B1 : Fld Z h0 b ss1 ss2 "B" (.int 0)) (B2 : Fld Z h0 b ss1 ss3 "[B" (.ref v)) (B3 : Fld Z h0 b ss1 ss5 "I" (.int (Int32.ofNat cs.length))) (B4 : Arv Z h0 v kv .byte (Int32.ofNat cs.length) (B8 cs) (.int 0)) (B5 : Exa Z h0 v "[B") (HL : cs.length ≤ 34) (O2 : Sta Z Z.heap ss0 ss7 "Z" (.int G1)) (P5 : ¬ (G1 = (0 : Int32))) (X00 : Old Z n0 h0) :
    MF l Z mn25 (Jvm.Cond.code mn25 cB25 5 (Option.none : Option Jvm.ClassFile.FieldType)) ws Ro14 #[(.ref x), (.ref b), .null] h0 (Q_siniAV1 Z x b v kv cs G1 h0 n0) := by
  refine MF.of ss0 rfl #[rv x, rv b, .val .null, un, un] (plainFor_of_name opn_0) (fun _ => rfl) ?_
  intro p e s m below meth c _ hZ hh B hml hret hlk hown hnm Y e0
  have N0 := Fr.nil n0
  have K0 := Keep.refl h0 [x]
  refine zalN Y B o227 rfl ?_
  refine Go.a3 (initO Y B.1 hZ hown (ow11 hw) (ow12 hw) (ow13 hw) e0 rfl (by rw [hml]; rfl) rfl (hb B.2 o228.1) (by decide) (W := 0) (by show 2 * 0 + _ ≤ _; exact Nat.le_of_eq rfl) (by decide)) fun _ Y e30 => ?_
  refine zalN Y B o229 rfl ?_
  refine zcv Y B hZ hown (ow222 hw) (ow223 hw) (notFace_of_selects (args := #[]) (mvT hZ (ow225 hw))) (ow225 hw) (ow224 hw) (ow60 hw) (ow226 hw) (by decide) B0 (rm_getval l Z a0 hw [] b v h0 n0 (Nat.le_trans Z0 (Nat.le_refl _)) B0 B2) e30 hml opd_15 rfl o230 rfl rfl rfl rfl rfl fun _ T31 _ Y hQ => ?_
  obtain ⟨rfl, N31q, e31⟩ := hQ
  have N31 := Fr.app N0 N31q
  refine zasN Y B o231 (s3 rfl) rfl <| zalN Y B o232 rfl ?_
  refine zcv Y B hZ hown (ow227 hw) (ow228 hw) (own_notface (args := #[]) (mvT hZ (ow103 hw)) rfl) (ow230 hw) (ow231 hw) (ow52 hw) (ow232 hw) (by decide) B0 (rm_sblen l Z a0 hw [] b (Int32.ofNat cs.length) h0 n0 (Nat.le_trans Z0 (Nat.le_refl _)) B0 B3) e31 hml opd_10 rfl o233 rfl rfl rfl rfl rfl fun _ T32 _ Y hQ => ?_
  obtain ⟨rfl, N32q, e32⟩ := hQ
  have N32 := Fr.app N31 N32q
  refine zis Y B o234 (s4 rfl) <| zalN Y B o235 rfl ?_
  refine zcv Y B hZ hown (ow235 hw) (ow135 hw) (notFace_of_selects (args := #[]) (mvT hZ (ow137 hw))) (ow137 hw) (ow136 hw) (ow60 hw) (ow138 hw) (by decide) B0 (rm_asbl1 l Z a0 hw [] b G1 h0 n0 (Nat.le_trans Z0 (Nat.le_refl _)) B0 B1 O2 P5 X00) e32 hml opd_3 rfl o236 rfl rfl rfl rfl rfl fun _ T33 _ Y hQ => ?_
  obtain ⟨rfl, N33q, e33⟩ := hQ
  have N33 := Fr.app N32 N33q
  refine zN Y B o237 (by decide) ?_
  refine zalN Y B o238 rfl <| zc0 Y B o239 ?_
  refine Go.b3 (putFN Y B.1 hZ hown (ow26 hw) Via.refl e33 F2 E1 (Or.inr ⟨(ow27 hw), rfl, hnm⟩) (ow1 hw) (ty := .byte) (v' := (.int (nar .byte (0 : Int32)))) (by decide) rfl (fits_nar_byte _) rfl rfl (hb B.2 o240.1)) fun T34 h34 Y e34 W34 => ?_
  have N34 := Fr.snoc Y N33 g_x
  have K35 := K0.wr W34 (Or.inl (List.mem_of_getElem? (i := 0) rfl))
  have O35 := X00.wr W34 g_x
  refine zalN Y B o241 rfl <| zalN Y B o242 rfl <| zc0 Y B o243 <| zil Y B o244 rfl ?_
  have F37 := (B4.other W34 (ne_exa B5 E1 (by decide)))
  have F38 := (B5.wr W34)
  refine zcs Y B hZ hown (ow236 hw) (ow237 hw) (ow166 hw) (ow238 hw) (by decide) (rm_cor1 l Z a0 hw [] v kv cs h34 n0 (Nat.le_trans Z0 K35.1) F37 F38 HL) e34 hml opd_16 rfl o245 rfl rfl rfl rfl rfl fun _ T36 _ Y hQ => ?_
  obtain ⟨t_36, kt_36, rfl, N36q, K36q, P36_0, P36_1⟩ := hQ
  have N36 := Fr.app N34 N36q
  have K39 := K35.trans K36q all0
  have O39 := O35.keep K36q all0
  have F41 := ((F1.other W34 (Or.inr (slot_ne (Or.inr (ow29 hw)) (Or.inr (ow27 hw)) (by decide) (t := (.array .byte)) (t' := .byte) (by decide) (by decide)))).keep K36q nin0)
  have F42 := ((E1.wr W34).keep K36q)
  refine Go.b3 (putF Y B.1 hZ hown (host := "") (Or.inl (ow28 hw)) Via.refl rfl F41 F42 (Or.inr ⟨(ow29 hw), rfl, hnm⟩) (ow1 hw) (ty := (.array .byte)) (by decide) rfl rfl rfl rfl (hb B.2 o246.1)) fun T40 h40 Y e40 W40 => ?_
  have N40 := Fr.snoc Y N36 g_x
  have K43 := K39.wr W40 (Or.inl (List.mem_of_getElem? (i := 0) rfl))
  have O43 := O39.wr W40 g_x
  refine zgo Y B j12 ?_
  have F44 := (F42.wr W40)
  have F45 := (((F2.same W34).keep K36q nin0).other W40 (Or.inr (slot_ne (Or.inr (ow27 hw)) (Or.inr (ow29 hw)) (by decide) (t := .byte) (t' := (.array .byte)) (by decide) (by decide))))
  have F46 := (P36_1.other W40 (Ne.symm (Nat.ne_of_lt (Nat.lt_of_lt_of_le (E1.wr W34).lt P36_0))))
  exact zr0 Y B hret hlk o247 e40 ⟨t_36, kt_36, rfl, N40, K43, (Nat.le_trans K35.1 P36_0), F44, F45, (F41.same W40), F46⟩ rfl rfl
def Q_siniSB1 (Z : State) (x b v : Addr) (kv : ClassId) (cs : List Int32) (G1 : Int32) (h0 : Heap) (n0 : Nat) : QT := fun rv hE LE => ∃ t : Addr, ∃ kt : ClassId, rv = none ∧ Fr n0 LE ∧ Keep h0 hE [x] ∧ (h0.size ≤ t) ∧ (Exa Z hE x ss0) ∧ (Fld Z hE x ss0 ss2 "B" (.int 0)) ∧ (Fld Z hE x ss0 ss3 "[B" (.ref t)) ∧ (Arv Z hE t kt .byte (Int32.ofNat cs.length) (B8 cs) (.int 0))
theorem rm_siniSB1 (l : Launch) (Z : State) (a0 : Array Value) (hw : HW a0 Z) (ws : List Jvm.Cond) (x b v : Addr) (kv : ClassId) (cs : List Int32) (G1 : Int32) (h0 : Heap) (n0 : Nat) (Z0 : n0 ≤ h0.size) (E1 : Exa Z h0 x ss0) (g_x : n0 ≤ x) (F1 : Fld Z h0 x ss0 ss3 "[B" .null) (F2 : Fld Z h0 x ss0 ss2 "B" (.int 0)) (B0 : Exa Z h0 b ss4) (B1 : Fld Z h0 b ss1 ss2 "B" (.int 0)) (B2 : Fld Z h0 b ss1 ss3 "[B" (.ref v)) (B3 : Fld Z h0 b ss1 ss5 "I" (.int (Int32.ofNat cs.length))) (B4 : Arv Z h0 v kv .byte (Int32.ofNat cs.length) (B8 cs) (.int 0)) (B5 : Exa Z h0 v "[B") (HL : cs.length ≤ 34) (O2 : Sta Z Z.heap ss0 ss7 "Z" (.int G1)) (P5 : ¬ (G1 = (0 : Int32))) (X00 : Old Z n0 h0) :
    MF l Z mn26 (Jvm.Cond.code mn26 cB26 2 (Option.none : Option Jvm.ClassFile.FieldType)) ws Ro15 #[(.ref x), (.ref b)] h0 (Q_siniSB1 Z x b v kv cs G1 h0 n0) := by
  refine MF.of ss0 rfl #[rv x, rv b] (plainFor_of_name opn_0) (fun _ => rfl) ?_
  intro p e s m below meth c _ hZ hh B hml hret hlk hown hnm Y e0
  have N0 := Fr.nil n0
  have K0 := Keep.refl h0 [x]
  refine zalN Y B o248 rfl <| zalN Y B o249 rfl <| znull Y B o250 ?_
  refine zci Y B hZ rfl hown (ow219 hw) (ow220 hw) (ow2 hw) (ow221 hw) (by decide) (rm_siniAV1 l Z a0 hw [] x b v kv cs G1 h0 n0 (Nat.le_trans Z0 (Nat.le_refl _)) E1 g_x F1 F2 B0 B1 B2 B3 B4 B5 HL O2 P5 X00) e0 hml opd_17 rfl o251 rfl rfl rfl rfl rfl fun _ T30 _ Y hQ => ?_
  obtain ⟨t_30, kt_30, rfl, N30q, K30q, P30_0, P30_1, P30_2, P30_3, P30_4⟩ := hQ
  have N30 := Fr.app N0 N30q
  have K31 := K0.trans K30q (allS (Or.inl (List.mem_of_getElem? (i := 0) rfl)) all0)
  have O31 := X00.keep K30q (allS g_x all0)
  exact zr0 Y B hret hlk o252 rfl ⟨t_30, kt_30, rfl, N30, K31, (Nat.le_trans (Nat.le_refl _) P30_0), P30_1, P30_2, P30_3, P30_4⟩ rfl rfl
def Q_tostr1 (Z : State) (b v : Addr) (kv : ClassId) (cs : List Int32) (G1 : Int32) (h0 : Heap) (n0 : Nat) : QT := fun rv hE LE => ∃ x : Addr, ∃ t : Addr, ∃ kt : ClassId, rv = some (.ref x) ∧ Fr n0 LE ∧ Keep h0 hE [] ∧ (h0.size ≤ x) ∧ (h0.size ≤ t) ∧ (Exa Z hE x ss0) ∧ (Fld Z hE x ss0 ss2 "B" (.int 0)) ∧ (Fld Z hE x ss0 ss3 "[B" (.ref t)) ∧ (Arv Z hE t kt .byte (Int32.ofNat cs.length) (B8 cs) (.int 0))
theorem rm_tostr1 (l : Launch) (Z : State) (a0 : Array Value) (hw : HW a0 Z) (ws : List Jvm.Cond) (b v : Addr) (kv : ClassId) (cs : List Int32) (G1 : Int32) (h0 : Heap) (n0 : Nat) (Z0 : n0 ≤ h0.size) (B0 : Exa Z h0 b ss4) (B1 : Fld Z h0 b ss1 ss2 "B" (.int 0)) (B2 : Fld Z h0 b ss1 ss3 "[B" (.ref v)) (B3 : Fld Z h0 b ss1 ss5 "I" (.int (Int32.ofNat cs.length))) (B4 : Arv Z h0 v kv .byte (Int32.ofNat cs.length) (B8 cs) (.int 0)) (B5 : Exa Z h0 v "[B") (HL : cs.length ≤ 34) (O2 : Sta Z Z.heap ss0 ss7 "Z" (.int G1)) (P5 : ¬ (G1 = (0 : Int32))) (X00 : Old Z n0 h0) :
    MF l Z mn27 (Jvm.Cond.code mn27 cB27 1 (Option.some (Jvm.ClassFile.FieldType.object ss0))) ws Ro16 #[(.ref b)] h0 (Q_tostr1 Z b v kv cs G1 h0 n0) := by
  refine MF.of ss4 rfl #[rv b] (plainFor_of_name opn_4) (fun _ => rfl) ?_
  intro p e s m below meth c _ hZ hh B hml hret hlk hown hnm Y e0
  have N0 := Fr.nil n0
  have K0 := Keep.refl h0 []
  refine zno Y B hZ hown (ow215 hw) (ow1 hw) (ow2 hw) e0 o253 rfl rfl fun T30 h30 b30 g30 Y e30 E30 A30 D30 U30 => ?_
  have K31 := K0.ext E30
  have O31 := X00.ext E30
  refine zdup Y B o254 rfl <| zalN Y B o255 rfl ?_
  have F33 := (B0.ext E30)
  have F34 := (B1.ext E30)
  have F35 := (B2.ext E30)
  have F36 := (B3.ext E30)
  have F37 := (B4.ext E30)
  have F38 := (B5.ext E30)
  refine zci Y B hZ rfl hown (ow216 hw) (ow217 hw) (ow2 hw) (ow218 hw) (by decide) (rm_siniSB1 l Z a0 hw [] b30 b v kv cs G1 h30 n0 (Nat.le_trans Z0 K31.1) A30 ((Nat.le_trans (Nat.le_trans Z0 (Nat.le_refl _)) (Nat.le_of_eq g30.symm))) (D30 (Or.inr (ow29 hw)) (ty := (.array .byte)) (by decide)) (D30 (Or.inr (ow27 hw)) (ty := .byte) (by decide)) F33 F34 F35 F36 F37 F38 HL O2 P5 O31) e30 hml opd_18 rfl o256 rfl rfl rfl rfl rfl fun _ T32 _ Y hQ => ?_
  obtain ⟨t_32, kt_32, rfl, N32q, K32q, P32_0, P32_1, P32_2, P32_3, P32_4⟩ := hQ
  have N32 := Fr.app N0 N32q
  have K39 := K31.trans K32q (allS (Or.inr (Nat.le_trans (Nat.le_refl _) (Nat.le_of_eq g30.symm))) all0)
  have O39 := O31.keep K32q (allS (Nat.le_trans (Nat.le_trans Z0 (Nat.le_refl _)) (Nat.le_of_eq g30.symm)) all0)
  exact zrR Y B hret rfl rfl rfl hlk o257 rfl ⟨b30, t_32, kt_32, rfl, N32, K39, (Nat.le_trans (Nat.le_refl _) (Nat.le_of_eq g30.symm)), (Nat.le_trans K31.1 P32_0), P32_1, P32_2, P32_3, P32_4⟩ rfl rfl
def Q_mmax (Z : State) (a d : Nat) (h0 : Heap) (n0 : Nat) : QT := fun rv hE LE => rv = some (.int (Int32.ofNat (max a d))) ∧ Fr n0 LE ∧ hE = h0
theorem rm_mmax (l : Launch) (Z : State) (a0 : Array Value) (hw : HW a0 Z) (ws : List Jvm.Cond) (a d : Nat) (h0 : Heap) (n0 : Nat) (Z0 : n0 ≤ h0.size) (HA : a < 2 ^ 31) (HD : d < 2 ^ 31) :
    MF l Z mn28 (Jvm.Cond.code mn28 cB28 2 (Option.some Jvm.ClassFile.FieldType.int)) ws Ro0 #[(.int (Int32.ofNat a)), (.int (Int32.ofNat d))] h0 (Q_mmax Z a d h0 n0) := by
  refine MF.of "java/lang/Math" rfl #[iv (Int32.ofNat a), iv (Int32.ofNat d)] (by decide +kernel) (fun _ => rfl) ?_
  intro p e s m below meth c _ hZ hh B hml hret hlk hown hnm Y e0
  have N0 := Fr.nil n0
  refine zilN Y B o258 rfl <| zilN Y B o259 rfl ?_
  by_cases h1 : (Int32.ofNat a) < (Int32.ofNat d)
  · refine zCY Y B j13 (tlt h1).1 ?_
    refine zilN Y B o261 rfl ?_
    exact zrI Y B hret hlk o262 e0 ⟨(by rw [Nat.max_eq_right (Nat.le_of_lt ((lt_on HA HD).mp h1))]), N0, rfl⟩ rfl rfl
  · refine zCN Y B o260 (flt h1).1 ?_
    refine zilN Y B o263 rfl <| zgo Y B j14 ?_
    exact zrI Y B hret hlk o262 e0 ⟨(by rw [Nat.max_eq_left (Nat.le_of_not_lt fun q => h1 ((lt_on HA HD).mpr q))]), N0, rfl⟩ rfl rfl
def Q_mmin (Z : State) (a d : Nat) (h0 : Heap) (n0 : Nat) : QT := fun rv hE LE => rv = some (.int (Int32.ofNat (min a d))) ∧ Fr n0 LE ∧ hE = h0
theorem rm_mmin (l : Launch) (Z : State) (a0 : Array Value) (hw : HW a0 Z) (ws : List Jvm.Cond) (a d : Nat) (h0 : Heap) (n0 : Nat) (Z0 : n0 ≤ h0.size) (HA : a < 2 ^ 31) (HD : d < 2 ^ 31) :
    MF l Z mn29 (Jvm.Cond.code mn29 cB29 2 (Option.some Jvm.ClassFile.FieldType.int)) ws Ro0 #[(.int (Int32.ofNat a)), (.int (Int32.ofNat d))] h0 (Q_mmin Z a d h0 n0) := by
  refine MF.of "java/lang/Math" rfl #[iv (Int32.ofNat a), iv (Int32.ofNat d)] (by decide +kernel) (fun _ => rfl) ?_
  intro p e s m below meth c _ hZ hh B hml hret hlk hown hnm Y e0
  have N0 := Fr.nil n0
  refine zilN Y B o264 rfl <| zilN Y B o265 rfl ?_
  by_cases h1 : (Int32.ofNat d) < (Int32.ofNat a)
  · refine zCY Y B j15 (tlt h1).2.2.1 ?_
    refine zilN Y B o267 rfl ?_
    exact zrI Y B hret hlk o268 e0 ⟨(by rw [Nat.min_eq_right (Nat.le_of_lt ((lt_on HD HA).mp h1))]), N0, rfl⟩ rfl rfl
  · refine zCN Y B o266 (flt h1).2.2.1 ?_
    refine zilN Y B o269 rfl <| zgo Y B j16 ?_
    exact zrI Y B hret hlk o268 e0 ⟨(by rw [Nat.min_eq_left (Nat.le_of_not_lt fun q => h1 ((lt_on HD HA).mpr q))]), N0, rfl⟩ rfl rfl
def Q_newlen (Z : State) (o mi pr : Nat) (h0 : Heap) (n0 : Nat) : QT := fun rv hE LE => rv = some (.int (Int32.ofNat (o + max mi pr))) ∧ Fr n0 LE ∧ hE = h0
theorem rm_newlen (l : Launch) (Z : State) (a0 : Array Value) (hw : HW a0 Z) (ws : List Jvm.Cond) (o mi pr : Nat) (h0 : Heap) (n0 : Nat) (Z0 : n0 ≤ h0.size) (HB1 : o < 100000 ∧ mi < 100000 ∧ pr < 100000 ∧ 0 < pr) :
    MF l Z mn30 (Jvm.Cond.code mn30 cB30 4 (Option.some Jvm.ClassFile.FieldType.int)) ws Ro2 #[(.int (Int32.ofNat o)), (.int (Int32.ofNat mi)), (.int (Int32.ofNat pr))] h0 (Q_newlen Z o mi pr h0 n0) := by
  refine MF.of "jdk/internal/util/ArraysSupport" rfl #[iv (Int32.ofNat o), iv (Int32.ofNat mi), iv (Int32.ofNat pr), un] (plainFor_of_name opn_6) (fun _ => rfl) ?_
  intro p e s m below meth c _ hZ hh B hml hret hlk hown hnm Y e0
  have N0 := Fr.nil n0
  refine zilN Y B o270 rfl <| zilN Y B o271 rfl <| zilN Y B o272 rfl ?_
  refine zcs Y B hZ hown (ow158 hw) (ow159 hw) (ow160 hw) (ow161 hw) (by decide) (rm_mmax l Z a0 hw [] mi pr h0 n0 (Nat.le_trans Z0 (Nat.le_refl _)) (by omega) (by omega)) e0 hml opd_19 rfl o273 rfl rfl rfl rfl rfl fun _ T30 _ Y hQ => ?_
  obtain ⟨rfl, N30q, e30⟩ := hQ
  have N30 := Fr.app N0 N30q
  refine ziadd Y B o274 rfl ?_
  rw [show ((Int32.ofNat o) + (Int32.ofNat (max mi pr))) = (Int32.ofNat (o + max mi pr)) from (on_add _ _)]
  refine zisN Y B o275 (s3 rfl) <| zc0 Y B o276 <| zilN Y B o277 rfl ?_
  refine zCN Y B o278 (tlt (show (0 : Int32) < (Int32.ofNat (o + max mi pr)) from (on_lt (a := 0) (by omega) (by omega)))).2.1 ?_
  refine zilN Y B o279 rfl ?_
  refine Go.f2 (Y.ldcInt B.1 hown (mvT hZ (ow162 hw)) rfl (hb B.2 o280.1)) ?_
  refine zCN Y B o281 (flt (show ¬ ((2147483639 : Int32) < (Int32.ofNat (o + max mi pr))) from (fun q => absurd ((lt_on (a := 2147483639) (by decide) (by omega)).mp q) (by omega)))).2.2.1 ?_
  refine zilN Y B o282 rfl ?_
  exact zrI Y B hret hlk o283 e30 ⟨rfl, N30, rfl⟩ rfl rfl
def Q_newcap (Z : State) (b v : Addr) (kv : ClassId) (cap : Nat) (cs : List Int32) (mc : Nat) (h0 : Heap) (n0 : Nat) : QT := fun rv hE LE => rv = some (.int (Int32.ofNat (newCap cap mc))) ∧ Fr n0 LE ∧ hE = h0
theorem rm_newcap (l : Launch) (Z : State) (a0 : Array Value) (hw : HW a0 Z) (ws : List Jvm.Cond) (b v : Addr) (kv : ClassId) (cap : Nat) (cs : List Int32) (mc : Nat) (h0 : Heap) (n0 : Nat) (Z0 : n0 ≤ h0.size) (B0 : Exa Z h0 b ss4) (B1 : Fld Z h0 b ss1 ss2 "B" (.int 0)) (B2 : Fld Z h0 b ss1 ss3 "[B" (.ref v)) (B3 : Fld Z h0 b ss1 ss5 "I" (.int (Int32.ofNat cs.length))) (B4 : Arv Z h0 v kv .byte (Int32.ofNat cap) (B8 cs) (.int 0)) (B5 : Exa Z h0 v "[B") (HMC : cap < mc ∧ mc < 100000) (HNC : newCap cap mc ≤ 70) :
    MF l Z mn31 (Jvm.Cond.code mn31 cB31 6 (Option.some Jvm.ClassFile.FieldType.int)) ws Ro17 #[(.ref b), (.int (Int32.ofNat mc))] h0 (Q_newcap Z b v kv cap cs mc h0 n0) := by
  refine MF.of ss1 rfl #[rv b, iv (Int32.ofNat mc), un, un, un, un] (plainFor_of_name opn_3) (fun _ => rfl) ?_
  intro p e s m below meth c _ hZ hh B hml hret hlk hown hnm Y e0
  have N0 := Fr.nil n0
  refine zalN Y B o284 rfl ?_
  refine zgf Y B hZ hown (ow64 hw) Via.refl e0 B2 o285 fun _ Y e30 => ?_
  refine zln Y B hZ e30 B4 o286 ?_
  refine zisN Y B o287 (s2 rfl) <| zilN Y B o288 rfl <| zalN Y B o289 rfl ?_
  refine zgf Y B hZ hown (ow66 hw) Via.refl e30 B1 o290 fun _ Y e32 => ?_
  refine zishl Y B o291 rfl ?_
  rw [shl0 (Int32.ofNat mc)]
  refine zisN Y B o292 (s3 rfl) <| zilN Y B o293 rfl <| zilN Y B o294 rfl <| zisub Y B o295 rfl ?_
  rw [show ((Int32.ofNat mc) - (Int32.ofNat cap)) = (Int32.ofNat (mc - cap)) from (on_sub (by omega) (by omega))]
  refine zis Y B o296 (s4 rfl) <| zilN Y B o297 rfl <| zil Y B o298 rfl <| zilN Y B o299 rfl <| zc2 Y B o300 <| zalN Y B o301 rfl ?_
  refine zgf Y B hZ hown (ow66 hw) Via.refl e32 B1 o302 fun _ Y e33 => ?_
  refine zishl Y B o303 (v := 2) rfl <| ziadd Y B o304 rfl ?_
  rw [show ((Int32.ofNat cap) + (2 : Int32)) = (Int32.ofNat (cap + 2)) from (on_add _ 2)]
  refine zcs Y B hZ hown (ow154 hw) (ow155 hw) (ow156 hw) (ow157 hw) (by decide) (rm_newlen l Z a0 hw [] cap (mc - cap) (cap + 2) h0 n0 (Nat.le_trans Z0 (Nat.le_refl _)) (by unfold newCap at HNC; omega)) e33 hml opd_20 rfl o305 rfl rfl rfl rfl rfl fun _ T34 _ Y hQ => ?_
  obtain ⟨rfl, N34q, e34⟩ := hQ
  have N34 := Fr.app N0 N34q
  refine zis Y B o306 (s5 rfl) <| zil Y B o307 rfl ?_
  refine Go.f2 (Y.ldcInt B.1 hown (mvT hZ (ow163 hw)) rfl (hb B.2 o308.1)) ?_
  refine zCY Y B j17 (feq (show ¬ ((Int32.ofNat (cap + max (mc - cap) (cap + 2))) = (2147483647 : Int32)) from (fun q => by have := congrArg Int32.toInt q; rw [on_int (by unfold newCap at HNC; omega)] at this; have e : (2147483647 : Int32).toInt = 2147483647 := rfl; unfold newCap at HNC; omega))).2 ?_
  refine zil Y B o309 rfl <| zalN Y B o310 rfl ?_
  refine zgf Y B hZ hown (ow66 hw) Via.refl e34 B1 o311 fun _ Y e35 => ?_
  refine zishr Y B o312 rfl ?_
  rw [shr0 (Int32.ofNat (cap + max (mc - cap) (cap + 2)))]
  exact zrI Y B hret hlk o313 e35 ⟨rfl, N34, rfl⟩ rfl rfl
def Q_copyof (Z : State) (v : Addr) (kv : ClassId) (cap : Nat) (cs : List Int32) (nc : Nat) (h0 : Heap) (n0 : Nat) : QT := fun rv hE LE => ∃ t : Addr, ∃ kt : ClassId, rv = some (.ref t) ∧ Fr n0 LE ∧ Keep h0 hE [] ∧ (h0.size ≤ t) ∧ (Exa Z hE t "[B") ∧ (Arv Z hE t kt .byte (Int32.ofNat nc) (B8 cs) (.int 0))
theorem rm_copyof (l : Launch) (Z : State) (a0 : Array Value) (hw : HW a0 Z) (ws : List Jvm.Cond) (v : Addr) (kv : ClassId) (cap : Nat) (cs : List Int32) (nc : Nat) (h0 : Heap) (n0 : Nat) (Z0 : n0 ≤ h0.size) (B4 : Arv Z h0 v kv .byte (Int32.ofNat cap) (B8 cs) (.int 0)) (HCS : cs.length ≤ cap) (HNC : nc ≤ 70) (HLT : cap < nc) :
    MF l Z mn32 (Jvm.Cond.code mn32 cB32 3 (Option.some (Jvm.ClassFile.FieldType.array Jvm.ClassFile.FieldType.byte))) ws Ro18 #[(.ref v), (.int (Int32.ofNat nc))] h0 (Q_copyof Z v kv cap cs nc h0 n0) := by
  refine MF.of ss19 rfl #[rv v, iv (Int32.ofNat nc), un] (plainFor_of_name opn_5) (fun _ => rfl) ?_
  intro p e s m below meth c _ hZ hh B hml hret hlk hown hnm Y e0
  have N0 := Fr.nil n0
  have K0 := Keep.refl h0 []
  refine zilN Y B o314 rfl <| zalN Y B o315 rfl ?_
  refine zln Y B hZ e0 B4 o316 ?_
  refine zCY Y B j18 (feq (show ¬ ((Int32.ofNat nc) = (Int32.ofNat cap)) from (fun q => absurd ((eq_on (by omega) (by omega)).mp q) (by omega)))).2 ?_
  refine zilN Y B o317 rfl ?_
  refine znq Y B hZ (aty := .byte) (ow19 hw) e0 o318 (on_pos (by omega)) (cap := 70) (by rw [on_nat (by omega)]; exact HNC) rfl rfl rfl (ad := "[B") (by decide +kernel) fun T31 h31 k31 b31 g31 Y e31 E31 A31 B31 => ?_
  have K32 := K0.ext E31
  refine zasN Y B o319 (s2 rfl) rfl <| zalN Y B o320 rfl <| zc0 Y B o321 <| zalN Y B o322 rfl <| zc0 Y B o323 <| zalN Y B o324 rfl ?_
  have F34 := (B4.ext E31)
  refine zln Y B hZ e31 F34 o325 ?_
  refine zilN Y B o326 rfl ?_
  refine zcs Y B hZ hown (ow168 hw) (ow169 hw) (ow160 hw) (ow170 hw) (by decide) (rm_mmin l Z a0 hw [] cap nc h31 n0 (Nat.le_trans Z0 K32.1) (by omega) (by omega)) e31 hml opd_19 rfl o327 rfl rfl rfl rfl rfl fun _ T35 _ Y hQ => ?_
  obtain ⟨rfl, N35q, e35⟩ := hQ
  have N35 := Fr.app N0 N35q
  obtain ⟨T36, h36, L36, Y, e36, N36, K36, A36, st36⟩ := own_cpy Y B.1 hZ hown (ow171 hw) (ow124 hw) (ow122 hw) (ow123 hw) e35 (cs := cs) (es := ([] : List Int32)) (ca := cap) (cb := nc) (n := cap) F34 (Arv.new A31 (on_pos (by omega))) (by rw [Nat.min_eq_left (by omega)]) rfl HCS (Nat.le_refl _) (by show 0 + cap ≤ nc; omega) (by omega) (by omega) N35 (Nat.le_trans (Nat.le_trans Z0 (Nat.le_refl _)) (Nat.le_of_eq g31.symm)) (g := (mkF m 28 #[rv v, iv (Int32.ofNat nc), rv b31] [(.int (Int32.ofNat (min cap nc))), (.int 0), (.ref b31), (.int 0), (.ref v)])) rfl (by rw [hml]; rfl) rfl (hb B.2 o328.1) (by decide) (W := 0) (by show 2 * 0 + _ ≤ _; exact Nat.le_of_eq rfl) (by decide)
  refine Go.by st36 ?_
  have K37 := K32.trans K36 (allS (Or.inr (Nat.le_trans (Nat.le_refl _) (Nat.le_of_eq g31.symm))) all0)
  show Go p e below _ _ (mkF m 31 #[rv v, iv (Int32.ofNat nc), rv b31] [])
  refine zalN Y B o329 rfl ?_
  have F38 := (B31.keep K36)
  exact zrR Y B hret rfl rfl rfl hlk o330 e36 ⟨b31, k31, rfl, N36, K37, (Nat.le_trans (Nat.le_refl _) (Nat.le_of_eq g31.symm)), F38, A36⟩ rfl rfl
def Q_ens1 (Z : State) (b v : Addr) (kv : ClassId) (cap : Nat) (cs : List Int32) (mc : Nat) (h0 : Heap) (n0 : Nat) : QT := fun rv hE LE => ∃ t : Addr, ∃ kt : ClassId, rv = none ∧ Fr n0 LE ∧ Keep h0 hE [b] ∧ (h0.size ≤ t) ∧ (Exa Z hE b ss4) ∧ (Fld Z hE b ss1 ss2 "B" (.int 0)) ∧ (Fld Z hE b ss1 ss3 "[B" (.ref t)) ∧ (Fld Z hE b ss1 ss5 "I" (.int (Int32.ofNat cs.length))) ∧ (Arv Z hE t kt .byte (Int32.ofNat (newCap cap mc)) (B8 cs) (.int 0)) ∧ (Exa Z hE t "[B")
theorem rm_ens1 (l : Launch) (Z : State) (a0 : Array Value) (hw : HW a0 Z) (ws : List Jvm.Cond) (b v : Addr) (kv : ClassId) (cap : Nat) (cs : List Int32) (mc : Nat) (h0 : Heap) (n0 : Nat) (Z0 : n0 ≤ h0.size) (B0 : Exa Z h0 b ss4) (B1 : Fld Z h0 b ss1 ss2 "B" (.int 0)) (B2 : Fld Z h0 b ss1 ss3 "[B" (.ref v)) (B3 : Fld Z h0 b ss1 ss5 "I" (.int (Int32.ofNat cs.length))) (B4 : Arv Z h0 v kv .byte (Int32.ofNat cap) (B8 cs) (.int 0)) (B5 : Exa Z h0 v "[B") (HMC : cap < mc ∧ mc < 100000) (HNC : newCap cap mc ≤ 70) (HCS : cs.length ≤ cap) (g_b : n0 ≤ b) :
    MF l Z mn12 (Jvm.Cond.code mn12 cB12 3 (Option.none : Option Jvm.ClassFile.FieldType)) ws Ro19 #[(.ref b), (.int (Int32.ofNat mc))] h0 (Q_ens1 Z b v kv cap cs mc h0 n0) := by
  refine MF.of ss1 rfl #[rv b, iv (Int32.ofNat mc), un] (plainFor_of_name opn_3) (fun _ => rfl) ?_
  intro p e s m below meth c _ hZ hh B hml hret hlk hown hnm Y e0
  have N0 := Fr.nil n0
  have K0 := Keep.refl h0 [b]
  refine zalN Y B o96 rfl ?_
  refine zgf Y B hZ hown (ow64 hw) Via.refl e0 B2 o97 fun _ Y e30 => ?_
  refine zln Y B hZ e30 B4 o98 ?_
  refine zalN Y B o99 rfl ?_
  refine zgf Y B hZ hown (ow66 hw) Via.refl e30 B1 o100 fun _ Y e32 => ?_
  refine zishr Y B o101 rfl ?_
  rw [shr0 (Int32.ofNat cap)]
  refine zisN Y B o102 (s2 rfl) <| zilN Y B o103 rfl <| zilN Y B o104 rfl <| zisub Y B o105 rfl ?_
  rw [show ((Int32.ofNat mc) - (Int32.ofNat cap)) = (Int32.ofNat (mc - cap)) from (on_sub (by omega) (by omega))]
  refine zN Y B o331 ((if0 _ _).trans (tlt (show (0 : Int32) < (Int32.ofNat (mc - cap)) from (on_lt (a := 0) (by omega) (by omega)))).2.2.2) ?_
  refine zalN Y B o332 rfl <| zalN Y B o333 rfl ?_
  refine zgf Y B hZ hown (ow64 hw) Via.refl e32 B2 o334 fun _ Y e33 => ?_
  refine zalN Y B o335 rfl <| zilN Y B o336 rfl ?_
  refine zcp Y B hZ hown (ow149 hw) (ow150 hw) (own_selp (ow150 hw) (ow151 hw) (ow152 hw) (by decide)) (ow151 hw) (ow60 hw) (ow153 hw) (by decide) B0 (rm_newcap l Z a0 hw [] b v kv cap cs mc h0 n0 (Nat.le_trans Z0 (Nat.le_refl _)) B0 B1 B2 B3 B4 B5 HMC HNC) e33 hml opd_21 rfl o337 rfl rfl rfl rfl rfl fun _ T34 _ Y hQ => ?_
  obtain ⟨rfl, N34q, e34⟩ := hQ
  have N34 := Fr.app N0 N34q
  refine zalN Y B o338 rfl ?_
  refine zgf Y B hZ hown (ow66 hw) Via.refl e34 B1 o339 fun _ Y e35 => ?_
  refine zishl Y B o340 rfl ?_
  rw [shl0 (Int32.ofNat (newCap cap mc))]
  refine zcs Y B hZ hown (ow164 hw) (ow165 hw) (ow166 hw) (ow167 hw) (by decide) (rm_copyof l Z a0 hw [] v kv cap cs (newCap cap mc) h0 n0 (Nat.le_trans Z0 (Nat.le_refl _)) B4 HCS HNC (by unfold newCap; omega)) e35 hml opd_22 rfl o341 rfl rfl rfl rfl rfl fun _ T36 _ Y hQ => ?_
  obtain ⟨t_36, kt_36, rfl, N36q, K36q, P36_0, P36_1, P36_2⟩ := hQ
  have N36 := Fr.app N34 N36q
  have K37 := K0.trans K36q all0
  have F39 := (B2.keep K36q nin0)
  have F40 := (B0.keep K36q)
  refine Go.b3 (putF Y B.1 hZ hown (host := "") (Or.inl (ow64 hw)) Via.refl rfl F39 F40 (Or.inl (ow65 hw)) (ow51 hw) (ty := (.array .byte)) (by decide) rfl rfl rfl rfl (hb B.2 o342.1)) fun T38 h38 Y e38 W38 => ?_
  have N38 := Fr.snoc Y N36 g_b
  have K41 := K37.wr W38 (Or.inl (List.mem_of_getElem? (i := 0) rfl))
  have F42 := (F40.wr W38)
  have F43 := ((B1.keep K36q nin0).other W38 (Or.inr (slot_ne (Or.inl (ow67 hw)) (Or.inl (ow65 hw)) (by decide) (t := .byte) (t' := (.array .byte)) (by decide) (by decide))))
  have F44 := ((B3.keep K36q nin0).other W38 (Or.inr (slot_ne (Or.inl (ow99 hw)) (Or.inl (ow65 hw)) (by decide) (t := .int) (t' := (.array .byte)) (by decide) (by decide))))
  have F45 := (P36_2.other W38 (Ne.symm (Nat.ne_of_lt (Nat.lt_of_lt_of_le B0.lt P36_0))))
  have F46 := (P36_1.wr W38)
  exact zr0 Y B hret hlk o106 e38 ⟨t_36, kt_36, rfl, N38, K41, (Nat.le_trans (Nat.le_refl _) P36_0), F42, F43, (F39.same W38), F44, F45, F46⟩ rfl rfl
def Q_asbappS1 (Z : State) (b v : Addr) (kv : ClassId) (cap : Nat) (cs : List Int32) (x t : Addr) (kt : ClassId) (ds : List Int32) (G1 : Int32) (h0 : Heap) (n0 : Nat) : QT := fun rv hE LE => ∃ tn : Addr, ∃ kn : ClassId, rv = some (.ref b) ∧ Fr n0 LE ∧ Keep h0 hE [b] ∧ (h0.size ≤ tn) ∧ (Exa Z hE b ss4) ∧ (Fld Z hE b ss1 ss2 "B" (.int 0)) ∧ (Fld Z hE b ss1 ss3 "[B" (.ref tn)) ∧ (Fld Z hE b ss1 ss5 "I" (.int (Int32.ofNat (cs ++ ds).length))) ∧ (Arv Z hE tn kn .byte (Int32.ofNat (newCap cap (cs.length + ds.length))) (B8 (cs ++ ds)) (.int 0)) ∧ (Exa Z hE tn "[B")
theorem rm_asbappS1 (l : Launch) (Z : State) (a0 : Array Value) (hw : HW a0 Z) (ws : List Jvm.Cond) (b v : Addr) (kv : ClassId) (cap : Nat) (cs : List Int32) (x t : Addr) (kt : ClassId) (ds : List Int32) (G1 : Int32) (h0 : Heap) (n0 : Nat) (Z0 : n0 ≤ h0.size) (B0 : Exa Z h0 b ss4) (B1 : Fld Z h0 b ss1 ss2 "B" (.int 0)) (B2 : Fld Z h0 b ss1 ss3 "[B" (.ref v)) (B3 : Fld Z h0 b ss1 ss5 "I" (.int (Int32.ofNat cs.length))) (B4 : Arv Z h0 v kv .byte (Int32.ofNat cap) (B8 cs) (.int 0)) (B5 : Exa Z h0 v "[B") (S0 : Exa Z h0 x ss0) (S1 : Fld Z h0 x ss0 ss2 "B" (.int 0)) (S2 : Fld Z h0 x ss0 ss3 "[B" (.ref t)) (S3 : Arv Z h0 t kt .byte (Int32.ofNat ds.length) (B8 ds) (.int 0)) (HMC : cap < (cs.length + ds.length) ∧ (cs.length + ds.length) < 100000) (HNC : (newCap cap (cs.length + ds.length)) ≤ 70) (HCS : cs.length ≤ cap) (g_b : n0 ≤ b) (O2 : Sta Z Z.heap ss0 ss7 "Z" (.int G1)) (P5 : ¬ (G1 = (0 : Int32))) (X00 : Old Z n0 h0) :
    MF l Z mn16 (Jvm.Cond.code mn16 cB16 3 (Option.some (Jvm.ClassFile.FieldType.object ss1))) ws Ro20 #[(.ref b), (.ref x)] h0 (Q_asbappS1 Z b v kv cap cs x t kt ds G1 h0 n0) := by
  refine MF.of ss1 rfl #[rv b, rv x, un] (plainFor_of_name opn_3) (fun _ => rfl) ?_
  intro p e s m below meth c _ hZ hh B hml hret hlk hown hnm Y e0
  have N0 := Fr.nil n0
  have K0 := Keep.refl h0 [b]
  refine zalN Y B o141 rfl <| znnY Y B j8 <| zalN Y B o142 rfl ?_
  refine zcv Y B hZ hown (ow88 hw) (ow89 hw) (notFace_of_selects (args := #[]) (mvT hZ (ow91 hw))) (ow91 hw) (ow90 hw) (ow2 hw) (ow92 hw) (by decide) S0 (rm_slen l Z a0 hw [] x t kt ds G1 h0 n0 (Nat.le_trans Z0 (Nat.le_refl _)) S0 S1 S2 S3 O2 P5 X00) e0 hml opd_10 rfl o143 rfl rfl rfl rfl rfl fun _ T30 _ Y hQ => ?_
  obtain ⟨rfl, N30q, e30⟩ := hQ
  have N30 := Fr.app N0 N30q
  refine zisN Y B o144 (s2 rfl) <| zalN Y B o145 rfl <| zalN Y B o146 rfl ?_
  refine zgf Y B hZ hown (ow98 hw) Via.refl e30 B3 o147 fun _ Y e31 => ?_
  refine zilN Y B o148 rfl <| ziadd Y B o149 rfl ?_
  rw [show ((Int32.ofNat cs.length) + (Int32.ofNat ds.length)) = (Int32.ofNat (cs.length + ds.length)) from (on_add _ _)]
  refine zcp Y B hZ hown (ow100 hw) (ow101 hw) (own_selp (ow101 hw) (ow102 hw) (ow103 hw) (by decide)) (ow102 hw) (ow60 hw) (ow104 hw) (by decide) B0 (rm_ens1 l Z a0 hw [] b v kv cap cs (cs.length + ds.length) h0 n0 (Nat.le_trans Z0 (Nat.le_refl _)) B0 B1 B2 B3 B4 B5 HMC HNC HCS g_b) e31 hml opd_11 rfl o150 rfl rfl rfl rfl rfl fun _ T32 _ Y hQ => ?_
  obtain ⟨t_32, kt_32, rfl, N32q, K32q, P32_0, P32_1, P32_2, P32_3, P32_4, P32_5, P32_6⟩ := hQ
  have N32 := Fr.app N30 N32q
  have K33 := K0.trans K32q (allS (Or.inl (List.mem_of_getElem? (i := 0) rfl)) all0)
  have O33 := X00.keep K32q (allS g_b all0)
  refine zalN Y B o151 rfl <| zalN Y B o152 rfl ?_
  refine zgf Y B hZ hown (ow98 hw) Via.refl rfl P32_4 o153 fun _ Y e34 => ?_
  refine zalN Y B o154 rfl ?_
  have F36 := (S0.keep K32q)
  have F37 := (S1.keep K32q (ninS (ne_exa S0 B0 (by decide)) nin0))
  have F38 := (S2.keep K32q (ninS (ne_exa S0 B0 (by decide)) nin0))
  have F39 := (S3.keep K32q (ninS (Ne.symm (ne_arv B0 (ow51 hw) S3)) nin0))
  refine zcp Y B hZ hown (ow105 hw) (ow106 hw) (own_selp (ow106 hw) (ow107 hw) (ow108 hw) (by decide)) (ow107 hw) (ow60 hw) (ow109 hw) (by decide) P32_1 (rm_putstr l Z a0 hw [] b t_32 kt_32 (newCap cap (cs.length + ds.length)) cs x t kt ds G1 T32.heap n0 (Nat.le_trans Z0 K33.1) P32_1 P32_2 P32_3 P32_4 P32_5 P32_6 F36 F37 F38 F39 (by unfold newCap; omega) (by omega) ((Nat.le_trans (Nat.le_trans Z0 (Nat.le_refl _)) P32_0)) O2 P5 O33) e34 hml opd_12 rfl o155 rfl rfl rfl rfl rfl fun _ T35 _ Y hQ => ?_
  obtain ⟨rfl, N35q, K35q, P35_0⟩ := hQ
  have N35 := Fr.app N32 N35q
  have K40 := K33.trans K35q (allS (Or.inr (Nat.le_trans (Nat.le_refl _) P32_0)) all0)
  have O40 := O33.keep K35q (allS (Nat.le_trans (Nat.le_trans Z0 (Nat.le_refl _)) P32_0) all0)
  refine zalN Y B o156 rfl <| zdup Y B o157 rfl ?_
  have F42 := (P32_4.keep K35q (ninS (Nat.ne_of_lt (Nat.lt_of_lt_of_le B0.lt P32_0)) nin0))
  refine zgf Y B hZ hown (ow98 hw) Via.refl rfl F42 o158 fun _ Y e41 => ?_
  refine zilN Y B o159 rfl <| ziadd Y B o160 rfl ?_
  rw [show ((Int32.ofNat cs.length) + (Int32.ofNat ds.length)) = (Int32.ofNat (cs ++ ds).length) from (by rw [on_add, List.length_append])]
  have F44 := (P32_1.keep K35q)
  refine Go.b3 (putF Y B.1 hZ hown (host := "") (Or.inl (ow98 hw)) Via.refl e41 F42 F44 (Or.inl (ow99 hw)) (ow51 hw) (ty := .int) (by decide) rfl rfl rfl rfl (hb B.2 o161.1)) fun T43 h43 Y e43 W43 => ?_
  have N43 := Fr.snoc Y N35 g_b
  have K45 := K40.wr W43 (Or.inl (List.mem_of_getElem? (i := 0) rfl))
  have O45 := O40.wr W43 g_b
  refine zalN Y B o162 rfl ?_
  have F46 := (F44.wr W43)
  have F47 := ((P32_2.keep K35q (ninS (Nat.ne_of_lt (Nat.lt_of_lt_of_le B0.lt P32_0)) nin0)).other W43 (Or.inr (slot_ne (Or.inl (ow67 hw)) (Or.inl (ow99 hw)) (by decide) (t := .byte) (t' := .int) (by decide) (by decide))))
  have F48 := ((P32_3.keep K35q (ninS (Nat.ne_of_lt (Nat.lt_of_lt_of_le B0.lt P32_0)) nin0)).other W43 (Or.inr (slot_ne (Or.inl (ow65 hw)) (Or.inl (ow99 hw)) (by decide) (t := (.array .byte)) (t' := .int) (by decide) (by decide))))
  have F49 := (P35_0.other W43 (Ne.symm (Nat.ne_of_lt (Nat.lt_of_lt_of_le B0.lt P32_0))))
  have F50 := ((P32_6.keep K35q).wr W43)
  exact zrR Y B hret rfl rfl rfl hlk o163 e43 ⟨t_32, kt_32, rfl, N43, K45, (Nat.le_trans (Nat.le_refl _) P32_0), F46, F47, F48, (F42.same W43), F49, F50⟩ rfl rfl
def Q_sbappS1 (Z : State) (b v : Addr) (kv : ClassId) (cap : Nat) (cs : List Int32) (x t : Addr) (kt : ClassId) (ds : List Int32) (G1 : Int32) (h0 : Heap) (n0 : Nat) : QT := fun rv hE LE => ∃ tn : Addr, ∃ kn : ClassId, rv = some (.ref b) ∧ Fr n0 LE ∧ Keep h0 hE [b] ∧ (h0.size ≤ tn) ∧ (Exa Z hE b ss4) ∧ (Fld Z hE b ss1 ss2 "B" (.int 0)) ∧ (Fld Z hE b ss1 ss3 "[B" (.ref tn)) ∧ (Fld Z hE b ss1 ss5 "I" (.int (Int32.ofNat (cs ++ ds).length))) ∧ (Arv Z hE tn kn .byte (Int32.ofNat (newCap cap (cs.length + ds.length))) (B8 (cs ++ ds)) (.int 0)) ∧ (Exa Z hE tn "[B")
theorem rm_sbappS1 (l : Launch) (Z : State) (a0 : Array Value) (hw : HW a0 Z) (ws : List Jvm.Cond) (b v : Addr) (kv : ClassId) (cap : Nat) (cs : List Int32) (x t : Addr) (kt : ClassId) (ds : List Int32) (G1 : Int32) (h0 : Heap) (n0 : Nat) (Z0 : n0 ≤ h0.size) (B0 : Exa Z h0 b ss4) (B1 : Fld Z h0 b ss1 ss2 "B" (.int 0)) (B2 : Fld Z h0 b ss1 ss3 "[B" (.ref v)) (B3 : Fld Z h0 b ss1 ss5 "I" (.int (Int32.ofNat cs.length))) (B4 : Arv Z h0 v kv .byte (Int32.ofNat cap) (B8 cs) (.int 0)) (B5 : Exa Z h0 v "[B") (S0 : Exa Z h0 x ss0) (S1 : Fld Z h0 x ss0 ss2 "B" (.int 0)) (S2 : Fld Z h0 x ss0 ss3 "[B" (.ref t)) (S3 : Arv Z h0 t kt .byte (Int32.ofNat ds.length) (B8 ds) (.int 0)) (HMC : cap < (cs.length + ds.length) ∧ (cs.length + ds.length) < 100000) (HNC : (newCap cap (cs.length + ds.length)) ≤ 70) (HCS : cs.length ≤ cap) (g_b : n0 ≤ b) (O2 : Sta Z Z.heap ss0 ss7 "Z" (.int G1)) (P5 : ¬ (G1 = (0 : Int32))) (X00 : Old Z n0 h0) :
    MF l Z mn17 (Jvm.Cond.code mn17 cB17 2 (Option.some (Jvm.ClassFile.FieldType.object ss4))) ws Ro21 #[(.ref b), (.ref x)] h0 (Q_sbappS1 Z b v kv cap cs x t kt ds G1 h0 n0) := by
  refine MF.of ss4 rfl #[rv b, rv x] (plainFor_of_name opn_4) (fun _ => rfl) ?_
  intro p e s m below meth c _ hZ hh B hml hret hlk hown hnm Y e0
  have N0 := Fr.nil n0
  have K0 := Keep.refl h0 [b]
  refine zalN Y B o164 rfl <| zalN Y B o165 rfl ?_
  obtain ⟨_, _, ⟨T30, L30, k30, n30⟩, -, Y, ⟨Lc30, hQ30, l30, y30, z30⟩, st30⟩ := superBack Y B.1 hZ (y := mn16) hown (ow83 hw) (own_same (ow84 hw) (ow103 hw) rfl (by decide)) (ow84 hw) (ow85 hw) (by decide) (backOf (W := 0) (rm_asbappS1 l Z a0 hw [] b v kv cap cs x t kt ds G1 h0 n0 (Nat.le_trans Z0 (Nat.le_refl _)) B0 B1 B2 B3 B4 B5 S0 S1 S2 S3 HMC HNC HCS g_b O2 P5 X00) hZ (ow87 hw) (ow60 hw) (by decide) (by decide)) e0 (Ins.self B0) (g := (mkF m 2 #[rv b, rv x] [(.ref x), (.ref b)])) rfl (by rw [hml]; rfl) (ow87 hw) (argsL := [(.ref x)]) (rest := []) (lenOf opd_13 rfl) rfl (by show 2 * 0 + _ ≤ _; exact Nat.le_of_eq rfl) (hb B.2 o166.1) (fun _ _ => ⟨rfl, e0, (by decide : 0 + 1 ≤ _), (by decide : 0 + 70 ≤ _)⟩)
  dsimp only [Pt.U, Pt.locs, Pt.cells, Pt.slots] at Y l30 y30 z30 st30 hQ30
  subst l30 y30 z30
  obtain ⟨tn_30, kn_30, rfl, N30q, K30q, P30_0, P30_1, P30_2, P30_3, P30_4, P30_5, P30_6⟩ := hQ30
  have N30 := Fr.app N0 N30q
  refine Go.tr st30 ?_
  have K31 := K0.trans K30q (allS (Or.inl (List.mem_of_getElem? (i := 0) rfl)) all0)
  have O31 := X00.keep K30q (allS g_b all0)
  refine zpop Y B o167 rfl <| zalN Y B o168 rfl ?_
  exact zrR Y B hret rfl rfl rfl hlk o169 rfl ⟨tn_30, kn_30, rfl, N30, K31, (Nat.le_trans (Nat.le_refl _) P30_0), P30_1, P30_2, P30_3, P30_4, P30_5, P30_6⟩ rfl rfl
def Q_asbappC1 (Z : State) (b v : Addr) (kv : ClassId) (cap : Nat) (cs : List Int32) (u G1 : Int32) (h0 : Heap) (n0 : Nat) : QT := fun rv hE LE => ∃ tn : Addr, ∃ kn : ClassId, rv = some (.ref b) ∧ Fr n0 LE ∧ Keep h0 hE [b] ∧ (h0.size ≤ tn) ∧ (Exa Z hE b ss4) ∧ (Fld Z hE b ss1 ss2 "B" (.int 0)) ∧ (Fld Z hE b ss1 ss3 "[B" (.ref tn)) ∧ (Fld Z hE b ss1 ss5 "I" (.int (Int32.ofNat (cs ++ [u]).length))) ∧ (Arv Z hE tn kn .byte (Int32.ofNat (newCap cap (cs.length + 1))) (B8 (cs ++ [u])) (.int 0)) ∧ (Exa Z hE tn "[B")
theorem rm_asbappC1 (l : Launch) (Z : State) (a0 : Array Value) (hw : HW a0 Z) (ws : List Jvm.Cond) (b v : Addr) (kv : ClassId) (cap : Nat) (cs : List Int32) (u G1 : Int32) (h0 : Heap) (n0 : Nat) (Z0 : n0 ≤ h0.size) (B0 : Exa Z h0 b ss4) (B1 : Fld Z h0 b ss1 ss2 "B" (.int 0)) (B2 : Fld Z h0 b ss1 ss3 "[B" (.ref v)) (B3 : Fld Z h0 b ss1 ss5 "I" (.int (Int32.ofNat cs.length))) (B4 : Arv Z h0 v kv .byte (Int32.ofNat cap) (B8 cs) (.int 0)) (B5 : Exa Z h0 v "[B") (HMC : cap < (cs.length + 1) ∧ (cs.length + 1) < 100000) (HNC : (newCap cap (cs.length + 1)) ≤ 70) (HCS : cs.length ≤ cap) (g_b : n0 ≤ b) (HC : ¬ (255 : Int32) < u) (O2 : Sta Z Z.heap ss0 ss7 "Z" (.int G1)) (P5 : ¬ (G1 = (0 : Int32))) (X00 : Old Z n0 h0) :
    MF l Z mn19 (Jvm.Cond.code mn19 cB19 2 (Option.some (Jvm.ClassFile.FieldType.object ss1))) ws Ro20 #[(.ref b), (.int u)] h0 (Q_asbappC1 Z b v kv cap cs u G1 h0 n0) := by
  refine MF.of ss1 rfl #[rv b, iv u] (plainFor_of_name opn_3) (fun _ => rfl) ?_
  intro p e s m below meth c _ hZ hh B hml hret hlk hown hnm Y e0
  have N0 := Fr.nil n0
  have K0 := Keep.refl h0 [b]
  refine zalN Y B o177 rfl <| zalN Y B o178 rfl ?_
  refine zgf Y B hZ hown (ow98 hw) Via.refl e0 B3 o179 fun _ Y e30 => ?_
  refine zc1 Y B o180 <| ziadd Y B o181 rfl ?_
  rw [show ((Int32.ofNat cs.length) + (1 : Int32)) = (Int32.ofNat (cs.length + 1)) from (on_add _ 1)]
  refine zcp Y B hZ hown (ow100 hw) (ow101 hw) (own_selp (ow101 hw) (ow102 hw) (ow103 hw) (by decide)) (ow102 hw) (ow60 hw) (ow104 hw) (by decide) B0 (rm_ens1 l Z a0 hw [] b v kv cap cs (cs.length + 1) h0 n0 (Nat.le_trans Z0 (Nat.le_refl _)) B0 B1 B2 B3 B4 B5 HMC HNC HCS g_b) e30 hml opd_11 rfl o182 rfl rfl rfl rfl rfl fun _ T31 _ Y hQ => ?_
  obtain ⟨t_31, kt_31, rfl, N31q, K31q, P31_0, P31_1, P31_2, P31_3, P31_4, P31_5, P31_6⟩ := hQ
  have N31 := Fr.app N0 N31q
  have K32 := K0.trans K31q (allS (Or.inl (List.mem_of_getElem? (i := 0) rfl)) all0)
  have O32 := X00.keep K31q (allS g_b all0)
  refine zalN Y B o183 rfl ?_
  refine zcv Y B hZ hown (ow134 hw) (ow135 hw) (notFace_of_selects (args := #[]) (mvT hZ (ow137 hw))) (ow137 hw) (ow136 hw) (ow60 hw) (ow138 hw) (by decide) P31_1 (rm_asbl1 l Z a0 hw [] b G1 T31.heap n0 (Nat.le_trans Z0 K32.1) P31_1 P31_2 O2 P5 O32) rfl hml opd_3 rfl o184 rfl rfl rfl rfl rfl fun _ T33 _ Y hQ => ?_
  obtain ⟨rfl, N33q, e33⟩ := hQ
  have N33 := Fr.app N31 N33q
  refine zN Y B o185 (by decide) ?_
  refine zilN Y B o186 rfl ?_
  refine zcs Y B hZ hown (ow139 hw) (ow140 hw) (ow141 hw) (ow142 hw) (by decide) (rm_canenc l Z a0 hw [] u T31.heap n0 (Nat.le_trans Z0 K32.1) HC) e33 hml opd_5 rfl o187 rfl rfl rfl rfl rfl fun _ T34 _ Y hQ => ?_
  obtain ⟨rfl, N34q, e34⟩ := hQ
  have N34 := Fr.app N33 N34q
  refine zN Y B o188 (by decide) ?_
  refine zalN Y B o189 rfl ?_
  refine zgf Y B hZ hown (ow64 hw) Via.refl e34 P31_3 o190 fun _ Y e35 => ?_
  refine zalN Y B o191 rfl <| zdup Y B o192 rfl ?_
  refine zgf Y B hZ hown (ow98 hw) Via.refl e35 P31_4 o193 fun _ Y e36 => ?_
  refine Go.by (fun _ kq_ => XS.dupX1 Y.here B.1 rfl (hb B.2 o194.1) rfl rfl rfl kq_) ?_
  show Go p e below _ _ (mkF m 34 #[rv b, iv u] [(.int (Int32.ofNat cs.length)), (.ref b), (.int (Int32.ofNat cs.length)), (.ref t_31)])
  refine zc1 Y B o195 <| ziadd Y B o196 rfl ?_
  rw [show ((Int32.ofNat cs.length) + (1 : Int32)) = (Int32.ofNat (cs ++ [u]).length) from (by rw [List.length_append]; exact on_add _ 1)]
  refine Go.b3 (putF Y B.1 hZ hown (host := "") (Or.inl (ow98 hw)) Via.refl e36 P31_4 P31_1 (Or.inl (ow99 hw)) (ow51 hw) (ty := .int) (by decide) rfl rfl rfl rfl (hb B.2 o197.1)) fun T37 h37 Y e37 W37 => ?_
  have N37 := Fr.snoc Y N34 g_b
  have K38 := K32.wr W37 (Or.inl (List.mem_of_getElem? (i := 0) rfl))
  have O38 := O32.wr W37 g_b
  refine zilN Y B o198 rfl <| zi2b Y B o199 rfl ?_
  have F40 := (P31_5.other W37 (Ne.symm (Nat.ne_of_lt (Nat.lt_of_lt_of_le B0.lt P31_0))))
  obtain ⟨c39, A39, q39, S39, M39, G39, J39⟩ := id F40
  refine Go.b1 (stB Y B.1 hZ e37 A39 (j := (Int32.ofNat cs.length)) (inb_of S39 ⟨on_pos (by omega), on_lt (by unfold newCap; omega) (by omega)⟩) rfl rfl (hb B.2 o200.1)) fun T39 h39 Y e39 W39 => ?_
  have N39 := Fr.snoc Y N37 (Nat.le_trans (Nat.le_trans Z0 (Nat.le_refl _)) P31_0)
  have K41 := K38.wr W39 (Or.inr (Nat.le_trans (Nat.le_refl _) P31_0))
  have O41 := O38.wr W39 (Nat.le_trans (Nat.le_trans Z0 (Nat.le_refl _)) P31_0)
  have V39 : Arv Z h39 t_31 kt_31 .byte (Int32.ofNat (newCap cap (cs.length + 1))) (B8 (cs ++ [u])) (.int 0) := own_push (cs := cs) (x := u) F40 (on_nat (by omega)) W39 (nar_b8 u)
  refine zgo Y B j10 <| zalN Y B o201 rfl ?_
  have F42 := ((P31_1.wr W37).wr W39)
  have F43 := ((P31_2.other W37 (Or.inr (slot_ne (Or.inl (ow67 hw)) (Or.inl (ow99 hw)) (by decide) (t := .byte) (t' := .int) (by decide) (by decide)))).other W39 (Or.inl (Nat.ne_of_lt (Nat.lt_of_lt_of_le B0.lt P31_0))))
  have F44 := ((P31_3.other W37 (Or.inr (slot_ne (Or.inl (ow65 hw)) (Or.inl (ow99 hw)) (by decide) (t := (.array .byte)) (t' := .int) (by decide) (by decide)))).other W39 (Or.inl (Nat.ne_of_lt (Nat.lt_of_lt_of_le B0.lt P31_0))))
  have F45 := ((P31_4.same W37).other W39 (Or.inl (Nat.ne_of_lt (Nat.lt_of_lt_of_le B0.lt P31_0))))
  have F46 := ((P31_6.wr W37).wr W39)
  exact zrR Y B hret rfl rfl rfl hlk o202 e39 ⟨t_31, kt_31, rfl, N39, K41, (Nat.le_trans (Nat.le_refl _) P31_0), F42, F43, F44, F45, V39, F46⟩ rfl rfl
def Q_sbappC1 (Z : State) (b v : Addr) (kv : ClassId) (cap : Nat) (cs : List Int32) (u G1 : Int32) (h0 : Heap) (n0 : Nat) : QT := fun rv hE LE => ∃ tn : Addr, ∃ kn : ClassId, rv = some (.ref b) ∧ Fr n0 LE ∧ Keep h0 hE [b] ∧ (h0.size ≤ tn) ∧ (Exa Z hE b ss4) ∧ (Fld Z hE b ss1 ss2 "B" (.int 0)) ∧ (Fld Z hE b ss1 ss3 "[B" (.ref tn)) ∧ (Fld Z hE b ss1 ss5 "I" (.int (Int32.ofNat (cs ++ [u]).length))) ∧ (Arv Z hE tn kn .byte (Int32.ofNat (newCap cap (cs.length + 1))) (B8 (cs ++ [u])) (.int 0)) ∧ (Exa Z hE tn "[B")
theorem rm_sbappC1 (l : Launch) (Z : State) (a0 : Array Value) (hw : HW a0 Z) (ws : List Jvm.Cond) (b v : Addr) (kv : ClassId) (cap : Nat) (cs : List Int32) (u G1 : Int32) (h0 : Heap) (n0 : Nat) (Z0 : n0 ≤ h0.size) (B0 : Exa Z h0 b ss4) (B1 : Fld Z h0 b ss1 ss2 "B" (.int 0)) (B2 : Fld Z h0 b ss1 ss3 "[B" (.ref v)) (B3 : Fld Z h0 b ss1 ss5 "I" (.int (Int32.ofNat cs.length))) (B4 : Arv Z h0 v kv .byte (Int32.ofNat cap) (B8 cs) (.int 0)) (B5 : Exa Z h0 v "[B") (HMC : cap < (cs.length + 1) ∧ (cs.length + 1) < 100000) (HNC : (newCap cap (cs.length + 1)) ≤ 70) (HCS : cs.length ≤ cap) (g_b : n0 ≤ b) (HC : ¬ (255 : Int32) < u) (O2 : Sta Z Z.heap ss0 ss7 "Z" (.int G1)) (P5 : ¬ (G1 = (0 : Int32))) (X00 : Old Z n0 h0) :
    MF l Z mn20 (Jvm.Cond.code mn20 cB20 2 (Option.some (Jvm.ClassFile.FieldType.object ss4))) ws Ro22 #[(.ref b), (.int u)] h0 (Q_sbappC1 Z b v kv cap cs u G1 h0 n0) := by
  refine MF.of ss4 rfl #[rv b, iv u] (plainFor_of_name opn_4) (fun _ => rfl) ?_
  intro p e s m below meth c _ hZ hh B hml hret hlk hown hnm Y e0
  have N0 := Fr.nil n0
  have K0 := Keep.refl h0 [b]
  refine zalN Y B o203 rfl <| zilN Y B o204 rfl ?_
  obtain ⟨_, _, ⟨T30, L30, k30, n30⟩, -, Y, ⟨Lc30, hQ30, l30, y30, z30⟩, st30⟩ := superBack Y B.1 hZ (y := mn19) hown (ow130 hw) (own_same (ow131 hw) (ow103 hw) rfl (by decide)) (ow131 hw) (ow85 hw) (by decide) (backOf (W := 0) (rm_asbappC1 l Z a0 hw [] b v kv cap cs u G1 h0 n0 (Nat.le_trans Z0 (Nat.le_refl _)) B0 B1 B2 B3 B4 B5 HMC HNC HCS g_b HC O2 P5 X00) hZ (ow133 hw) (ow60 hw) (by decide) (by decide)) e0 (Ins.self B0) (g := (mkF m 2 #[rv b, iv u] [(.int u), (.ref b)])) rfl (by rw [hml]; rfl) (ow133 hw) (argsL := [(.int u)]) (rest := []) (lenOf opd_14 rfl) rfl (by show 2 * 0 + _ ≤ _; exact Nat.le_of_eq rfl) (hb B.2 o205.1) (fun _ _ => ⟨rfl, e0, (by decide : 0 + 1 ≤ _), (by decide : 0 + 70 ≤ _)⟩)
  dsimp only [Pt.U, Pt.locs, Pt.cells, Pt.slots] at Y l30 y30 z30 st30 hQ30
  subst l30 y30 z30
  obtain ⟨tn_30, kn_30, rfl, N30q, K30q, P30_0, P30_1, P30_2, P30_3, P30_4, P30_5, P30_6⟩ := hQ30
  have N30 := Fr.app N0 N30q
  refine Go.tr st30 ?_
  have K31 := K0.trans K30q (allS (Or.inl (List.mem_of_getElem? (i := 0) rfl)) all0)
  have O31 := X00.keep K30q (allS g_b all0)
  refine zpop Y B o206 rfl <| zalN Y B o207 rfl ?_
  exact zrR Y B hret rfl rfl rfl hlk o208 rfl ⟨tn_30, kn_30, rfl, N30, K31, (Nat.le_trans (Nat.le_refl _) P30_0), P30_1, P30_2, P30_3, P30_4, P30_5, P30_6⟩ rfl rfl
def Q_sbinit0 (Z : State) (b : Addr) (G1 : Int32) (h0 : Heap) (n0 : Nat) : QT := fun rv hE LE => ∃ v : Addr, ∃ kv : ClassId, rv = none ∧ Fr n0 LE ∧ Keep h0 hE [b] ∧ (h0.size ≤ v) ∧ (Exa Z hE b ss4) ∧ (Fld Z hE b ss1 ss2 "B" (.int 0)) ∧ (Fld Z hE b ss1 ss3 "[B" (.ref v)) ∧ (Fld Z hE b ss1 ss5 "I" (.int (Int32.ofNat ([] : List Int32).length))) ∧ (Arv Z hE v kv .byte (Int32.ofNat 16) (B8 ([] : List Int32)) (.int 0)) ∧ (Exa Z hE v "[B")
theorem rm_sbinit0 (l : Launch) (Z : State) (a0 : Array Value) (hw : HW a0 Z) (ws : List Jvm.Cond) (b : Addr) (G1 : Int32) (h0 : Heap) (n0 : Nat) (Z0 : n0 ≤ h0.size) (B0 : Exa Z h0 b ss4) (B1 : Fld Z h0 b ss1 ss2 "B" (.int 0)) (B2 : Fld Z h0 b ss1 ss3 "[B" .null) (B3 : Fld Z h0 b ss1 ss5 "I" (.int 0)) (g_b : n0 ≤ b) (O2 : Sta Z Z.heap ss0 ss7 "Z" (.int G1)) (P5 : ¬ (G1 = (0 : Int32))) (X00 : Old Z n0 h0) :
    MF l Z mn33 (Jvm.Cond.code mn33 cB33 1 (Option.none : Option Jvm.ClassFile.FieldType)) ws Ro23 #[(.ref b)] h0 (Q_sbinit0 Z b G1 h0 n0) := by
  refine MF.of ss4 rfl #[rv b] (plainFor_of_name opn_4) (fun _ => rfl) ?_
  intro p e s m below meth c _ hZ hh B hml hret hlk hown hnm Y e0
  have N0 := Fr.nil n0
  have K0 := Keep.refl h0 [b]
  refine zalN Y B o343 rfl <| zbp Y B o344 (v := 16) rfl ?_
  refine zci Y B hZ rfl hown (ow56 hw) (ow57 hw) (ow60 hw) (ow61 hw) (by decide) (rm_asbinit l Z a0 hw [] b 16 G1 h0 n0 (Nat.le_trans Z0 (Nat.le_refl _)) B0 B1 B2 B3 g_b (by decide) O2 P5 X00) e0 hml opd_11 rfl o345 rfl rfl rfl rfl rfl fun _ T30 _ Y hQ => ?_
  obtain ⟨v_30, kv_30, rfl, N30q, K30q, P30_0, P30_1, P30_2, P30_3, P30_4, P30_5, P30_6⟩ := hQ
  have N30 := Fr.app N0 N30q
  have K31 := K0.trans K30q (allS (Or.inl (List.mem_of_getElem? (i := 0) rfl)) all0)
  have O31 := X00.keep K30q (allS g_b all0)
  exact zr0 Y B hret hlk o346 rfl ⟨v_30, kv_30, rfl, N30, K31, (Nat.le_trans (Nat.le_refl _) P30_0), P30_1, P30_2, P30_3, P30_4, P30_5, P30_6⟩ rfl rfl
def Q_chklen (Z : State) (j : Nat) (h0 : Heap) (n0 : Nat) : QT := fun rv hE LE => rv = none ∧ Fr n0 LE ∧ hE = h0
theorem rm_chklen (l : Launch) (Z : State) (a0 : Array Value) (hw : HW a0 Z) (ws : List Jvm.Cond) (j : Nat) (h0 : Heap) (n0 : Nat) (Z0 : n0 ≤ h0.size) (HB : j < 2 ^ 31) :
    MF l Z mn34 (Jvm.Cond.code mn34 cB34 2 (Option.none : Option Jvm.ClassFile.FieldType)) ws Ro0 #[(.int 0), (.int (Int32.ofNat j))] h0 (Q_chklen Z j h0 n0) := by
  refine MF.of ss19 rfl #[iv 0, iv (Int32.ofNat j)] (plainFor_of_name opn_5) (fun _ => rfl) ?_
  intro p e s m below meth c _ hZ hh B hml hret hlk hown hnm Y e0
  have N0 := Fr.nil n0
  refine zilN Y B o347 rfl <| zilN Y B o348 rfl ?_
  refine zCY Y B j19 (flt (show ¬ ((Int32.ofNat j) < (0 : Int32)) from (on_pos HB))).2.1 ?_
  exact zr0 Y B hret hlk o349 e0 ⟨rfl, N0, rfl⟩ rfl rfl
def Q_corb (Z : State) (v : Addr) (kv : ClassId) (cs : List Int32) (cap : Nat) (h0 : Heap) (n0 : Nat) : QT := fun rv hE LE => ∃ t : Addr, ∃ kt : ClassId, rv = some (.ref t) ∧ Fr n0 LE ∧ Keep h0 hE [] ∧ (h0.size ≤ t) ∧ (Arv Z hE t kt .byte (Int32.ofNat cs.length) (B8 cs) (.int 0))
theorem rm_corb (l : Launch) (Z : State) (a0 : Array Value) (hw : HW a0 Z) (ws : List Jvm.Cond) (v : Addr) (kv : ClassId) (cs : List Int32) (cap : Nat) (h0 : Heap) (n0 : Nat) (Z0 : n0 ≤ h0.size) (B4 : Arv Z h0 v kv .byte (Int32.ofNat cap) (B8 cs) (.int 0)) (HLT : cs.length < cap) (HCB : cap < 100000) (HLG : cs.length ≤ 70) :
    MF l Z mn35 (Jvm.Cond.code mn35 cB35 5 (Option.some (Jvm.ClassFile.FieldType.array Jvm.ClassFile.FieldType.byte))) ws Ro18 #[(.ref v), (.int 0), (.int (Int32.ofNat cs.length))] h0 (Q_corb Z v kv cs cap h0 n0) := by
  refine MF.of ss19 rfl #[rv v, iv 0, iv (Int32.ofNat cs.length), un, un] (plainFor_of_name opn_5) (fun _ => rfl) ?_
  intro p e s m below meth c _ hZ hh B hml hret hlk hown hnm Y e0
  have N0 := Fr.nil n0
  have K0 := Keep.refl h0 []
  refine zilN Y B o350 rfl <| zilN Y B o351 rfl ?_
  refine zcs Y B hZ hown (ow309 hw) (ow310 hw) (ow166 hw) (ow311 hw) (by decide) (rm_chklen l Z a0 hw [] cs.length h0 n0 (Nat.le_trans Z0 (Nat.le_refl _)) (by omega)) e0 hml opd_2 rfl o352 rfl rfl rfl rfl rfl fun _ T30 _ Y hQ => ?_
  obtain ⟨rfl, N30q, e30⟩ := hQ
  have N30 := Fr.app N0 N30q
  refine zilN Y B o353 rfl <| zilN Y B o354 rfl <| zisub Y B o355 rfl ?_
  rw [show ((Int32.ofNat cs.length) - (0 : Int32)) = (Int32.ofNat cs.length) from (on_sub (b := 0) (by omega) (by omega))]
  refine zisN Y B o356 (s3 rfl) <| zilN Y B o357 rfl ?_
  refine znq Y B hZ (aty := .byte) (ow19 hw) e30 o358 (on_pos (by omega)) (cap := 70) (by rw [on_nat (by omega)]; exact HLG) rfl rfl rfl (ad := "[B") (by decide +kernel) fun T31 h31 k31 b31 g31 Y e31 E31 A31 B31 => ?_
  have K32 := K0.ext E31
  refine zas Y B o359 (s4 rfl) rfl <| zalN Y B o360 rfl <| zilN Y B o361 rfl <| zal Y B o362 rfl <| zc0 Y B o363 <| zalN Y B o364 rfl ?_
  have F34 := (B4.ext E31)
  refine zln Y B hZ e31 F34 o365 ?_
  refine zilN Y B o366 rfl <| zisub Y B o367 rfl ?_
  rw [show ((Int32.ofNat cap) - (0 : Int32)) = (Int32.ofNat cap) from (on_sub (b := 0) (by omega) (by omega))]
  refine zilN Y B o368 rfl ?_
  refine zcs Y B hZ hown (ow168 hw) (ow169 hw) (ow160 hw) (ow170 hw) (by decide) (rm_mmin l Z a0 hw [] cap cs.length h31 n0 (Nat.le_trans Z0 K32.1) (by omega) (by omega)) e31 hml opd_19 rfl o369 rfl rfl rfl rfl rfl fun _ T35 _ Y hQ => ?_
  obtain ⟨rfl, N35q, e35⟩ := hQ
  have N35 := Fr.app N30 N35q
  obtain ⟨T36, h36, L36, Y, e36, N36, K36, A36, st36⟩ := own_cpy Y B.1 hZ hown (ow171 hw) (ow124 hw) (ow122 hw) (ow123 hw) e35 (cs := cs) (es := ([] : List Int32)) (ca := cap) (cb := cs.length) (n := cs.length) F34 (Arv.new A31 (on_pos (by omega))) (by rw [Nat.min_eq_right (by omega)]) rfl (Nat.le_refl _) (by omega) (by show 0 + cs.length ≤ cs.length; omega) (by omega) (by omega) N35 (Nat.le_trans (Nat.le_trans Z0 (Nat.le_refl _)) (Nat.le_of_eq g31.symm)) (g := (mkF m 27 #[rv v, iv 0, iv (Int32.ofNat cs.length), iv (Int32.ofNat cs.length), rv b31] [(.int (Int32.ofNat (min cap cs.length))), (.int 0), (.ref b31), (.int 0), (.ref v)])) rfl (by rw [hml]; rfl) rfl (hb B.2 o370.1) (by decide) (W := 0) (by show 2 * 0 + _ ≤ _; exact Nat.le_of_eq rfl) (by decide)
  refine Go.by st36 ?_
  have K37 := K32.trans K36 (allS (Or.inr (Nat.le_trans (Nat.le_refl _) (Nat.le_of_eq g31.symm))) all0)
  show Go p e below _ _ (mkF m 30 #[rv v, iv 0, iv (Int32.ofNat cs.length), iv (Int32.ofNat cs.length), rv b31] [])
  refine zal Y B o371 rfl ?_
  exact zrR Y B hret rfl rfl rfl hlk o372 e36 ⟨b31, k31, rfl, N36, K37, (Nat.le_trans (Nat.le_refl _) (Nat.le_of_eq g31.symm)), A36⟩ rfl rfl
def Q_cor2 (Z : State) (v : Addr) (kv : ClassId) (cs : List Int32) (cap : Nat) (h0 : Heap) (n0 : Nat) : QT := fun rv hE LE => ∃ t : Addr, ∃ kt : ClassId, rv = some (.ref t) ∧ Fr n0 LE ∧ Keep h0 hE [] ∧ (h0.size ≤ t) ∧ (Arv Z hE t kt .byte (Int32.ofNat cs.length) (B8 cs) (.int 0))
theorem rm_cor2 (l : Launch) (Z : State) (a0 : Array Value) (hw : HW a0 Z) (ws : List Jvm.Cond) (v : Addr) (kv : ClassId) (cs : List Int32) (cap : Nat) (h0 : Heap) (n0 : Nat) (Z0 : n0 ≤ h0.size) (B4 : Arv Z h0 v kv .byte (Int32.ofNat cap) (B8 cs) (.int 0)) (HLT : cs.length < cap) (HCB : cap < 100000) (HLG : cs.length ≤ 70) :
    MF l Z mn24 (Jvm.Cond.code mn24 cB24 3 (Option.some (Jvm.ClassFile.FieldType.array Jvm.ClassFile.FieldType.byte))) ws Ro24 #[(.ref v), (.int 0), (.int (Int32.ofNat cs.length))] h0 (Q_cor2 Z v kv cs cap h0 n0) := by
  refine MF.of ss19 rfl #[rv v, iv 0, iv (Int32.ofNat cs.length)] (plainFor_of_name opn_5) (fun _ => rfl) ?_
  intro p e s m below meth c _ hZ hh B hml hret hlk hown hnm Y e0
  have N0 := Fr.nil n0
  have K0 := Keep.refl h0 []
  refine zilN Y B o218 rfl <| zN Y B o219 (by decide) ?_
  refine zilN Y B o220 rfl <| zalN Y B o221 rfl ?_
  refine zln Y B hZ e0 B4 o222 ?_
  refine zCN Y B o373 (feq (show ¬ ((Int32.ofNat cs.length) = (Int32.ofNat cap)) from (fun q => absurd ((eq_on (by omega) (by omega)).mp q) (by omega)))).1 ?_
  refine zalN Y B o374 rfl <| zilN Y B o375 rfl <| zilN Y B o376 rfl ?_
  refine zcs Y B hZ hown (ow306 hw) (ow307 hw) (ow166 hw) (ow308 hw) (by decide) (rm_corb l Z a0 hw [] v kv cs cap h0 n0 (Nat.le_trans Z0 (Nat.le_refl _)) B4 HLT HCB HLG) e0 hml opd_16 rfl o377 rfl rfl rfl rfl rfl fun _ T31 _ Y hQ => ?_
  obtain ⟨t_31, kt_31, rfl, N31q, K31q, P31_0, P31_1⟩ := hQ
  have N31 := Fr.app N0 N31q
  have K32 := K0.trans K31q all0
  exact zrR Y B hret rfl rfl rfl hlk o378 rfl ⟨t_31, kt_31, rfl, N31, K32, (Nat.le_trans (Nat.le_refl _) P31_0), P31_1⟩ rfl rfl
def Q_siniAV2 (Z : State) (x b v : Addr) (kv : ClassId) (cs : List Int32) (cap : Nat) (G1 : Int32) (h0 : Heap) (n0 : Nat) : QT := fun rv hE LE => ∃ t : Addr, ∃ kt : ClassId, rv = none ∧ Fr n0 LE ∧ Keep h0 hE [x] ∧ (h0.size ≤ t) ∧ (Exa Z hE x ss0) ∧ (Fld Z hE x ss0 ss2 "B" (.int 0)) ∧ (Fld Z hE x ss0 ss3 "[B" (.ref t)) ∧ (Arv Z hE t kt .byte (Int32.ofNat cs.length) (B8 cs) (.int 0))
theorem rm_siniAV2 (l : Launch) (Z : State) (a0 : Array Value) (hw : HW a0 Z) (ws : List Jvm.Cond) (x b v : Addr) (kv : ClassId) (cs : List Int32) (cap : Nat) (G1 : Int32) (h0 : Heap) (n0 : Nat) (Z0 : n0 ≤ h0.size) (E1 : Exa Z h0 x ss0) (g_x : n0 ≤ x) (F1 : Fld Z h0 x ss0 ss3 "[B" .null) (F2 : Fld Z h0 x ss0 ss2 "B" (.int 0)) (B0 : Exa Z h0 b ss4) (B1 : Fld Z h0 b ss1 ss2 "B" (.int 0)) (B2 : Fld Z h0 b ss1 ss3 "[B" (.ref v)) (B3 : Fld Z h0 b ss1 ss5 "I" (.int (Int32.ofNat cs.length))) (B4 : Arv Z h0 v kv .byte (Int32.ofNat cap) (B8 cs) (.int 0)) (B5 : Exa Z h0 v "[B") (HLT : cs.length < cap) (HCB : cap < 100000) (HLG : cs.length ≤ 70) (O2 : Sta Z Z.heap ss0 ss7 "Z" (.int G1)) (P5 : ¬ (G1 = (0 : Int32))) (X00 : Old Z n0 h0) :
    MF l Z mn25 (Jvm.Cond.code mn25 cB25 5 (Option.none : Option Jvm.ClassFile.FieldType)) ws Ro25 #[(.ref x), (.ref b), .null] h0 (Q_siniAV2 Z x b v kv cs cap G1 h0 n0) := by
  refine MF.of ss0 rfl #[rv x, rv b, .val .null, un, un] (plainFor_of_name opn_0) (fun _ => rfl) ?_
  intro p e s m below meth c _ hZ hh B hml hret hlk hown hnm Y e0
  have N0 := Fr.nil n0
  have K0 := Keep.refl h0 [x]
  refine zalN Y B o227 rfl ?_
  refine Go.a3 (initO Y B.1 hZ hown (ow11 hw) (ow12 hw) (ow13 hw) e0 rfl (by rw [hml]; rfl) rfl (hb B.2 o228.1) (by decide) (W := 0) (by show 2 * 0 + _ ≤ _; exact Nat.le_of_eq rfl) (by decide)) fun _ Y e30 => ?_
  refine zalN Y B o229 rfl ?_
  refine zcv Y B hZ hown (ow222 hw) (ow223 hw) (notFace_of_selects (args := #[]) (mvT hZ (ow225 hw))) (ow225 hw) (ow224 hw) (ow60 hw) (ow226 hw) (by decide) B0 (rm_getval l Z a0 hw [] b v h0 n0 (Nat.le_trans Z0 (Nat.le_refl _)) B0 B2) e30 hml opd_15 rfl o230 rfl rfl rfl rfl rfl fun _ T31 _ Y hQ => ?_
  obtain ⟨rfl, N31q, e31⟩ := hQ
  have N31 := Fr.app N0 N31q
  refine zasN Y B o231 (s3 rfl) rfl <| zalN Y B o232 rfl ?_
  refine zcv Y B hZ hown (ow227 hw) (ow228 hw) (own_notface (args := #[]) (mvT hZ (ow103 hw)) rfl) (ow230 hw) (ow231 hw) (ow52 hw) (ow232 hw) (by decide) B0 (rm_sblen l Z a0 hw [] b (Int32.ofNat cs.length) h0 n0 (Nat.le_trans Z0 (Nat.le_refl _)) B0 B3) e31 hml opd_10 rfl o233 rfl rfl rfl rfl rfl fun _ T32 _ Y hQ => ?_
  obtain ⟨rfl, N32q, e32⟩ := hQ
  have N32 := Fr.app N31 N32q
  refine zis Y B o234 (s4 rfl) <| zalN Y B o235 rfl ?_
  refine zcv Y B hZ hown (ow235 hw) (ow135 hw) (notFace_of_selects (args := #[]) (mvT hZ (ow137 hw))) (ow137 hw) (ow136 hw) (ow60 hw) (ow138 hw) (by decide) B0 (rm_asbl1 l Z a0 hw [] b G1 h0 n0 (Nat.le_trans Z0 (Nat.le_refl _)) B0 B1 O2 P5 X00) e32 hml opd_3 rfl o236 rfl rfl rfl rfl rfl fun _ T33 _ Y hQ => ?_
  obtain ⟨rfl, N33q, e33⟩ := hQ
  have N33 := Fr.app N32 N33q
  refine zN Y B o237 (by decide) ?_
  refine zalN Y B o238 rfl <| zc0 Y B o239 ?_
  refine Go.b3 (putFN Y B.1 hZ hown (ow26 hw) Via.refl e33 F2 E1 (Or.inr ⟨(ow27 hw), rfl, hnm⟩) (ow1 hw) (ty := .byte) (v' := (.int (nar .byte (0 : Int32)))) (by decide) rfl (fits_nar_byte _) rfl rfl (hb B.2 o240.1)) fun T34 h34 Y e34 W34 => ?_
  have N34 := Fr.snoc Y N33 g_x
  have K35 := K0.wr W34 (Or.inl (List.mem_of_getElem? (i := 0) rfl))
  have O35 := X00.wr W34 g_x
  refine zalN Y B o241 rfl <| zalN Y B o242 rfl <| zc0 Y B o243 <| zil Y B o244 rfl ?_
  have F37 := (B4.other W34 (ne_exa B5 E1 (by decide)))
  refine zcs Y B hZ hown (ow236 hw) (ow237 hw) (ow166 hw) (ow238 hw) (by decide) (rm_cor2 l Z a0 hw [] v kv cs cap h34 n0 (Nat.le_trans Z0 K35.1) F37 HLT HCB HLG) e34 hml opd_16 rfl o245 rfl rfl rfl rfl rfl fun _ T36 _ Y hQ => ?_
  obtain ⟨t_36, kt_36, rfl, N36q, K36q, P36_0, P36_1⟩ := hQ
  have N36 := Fr.app N34 N36q
  have K38 := K35.trans K36q all0
  have O38 := O35.keep K36q all0
  have F40 := ((F1.other W34 (Or.inr (slot_ne (Or.inr (ow29 hw)) (Or.inr (ow27 hw)) (by decide) (t := (.array .byte)) (t' := .byte) (by decide) (by decide)))).keep K36q nin0)
  have F41 := ((E1.wr W34).keep K36q)
  refine Go.b3 (putF Y B.1 hZ hown (host := "") (Or.inl (ow28 hw)) Via.refl rfl F40 F41 (Or.inr ⟨(ow29 hw), rfl, hnm⟩) (ow1 hw) (ty := (.array .byte)) (by decide) rfl rfl rfl rfl (hb B.2 o246.1)) fun T39 h39 Y e39 W39 => ?_
  have N39 := Fr.snoc Y N36 g_x
  have K42 := K38.wr W39 (Or.inl (List.mem_of_getElem? (i := 0) rfl))
  have O42 := O38.wr W39 g_x
  refine zgo Y B j12 ?_
  have F43 := (F41.wr W39)
  have F44 := (((F2.same W34).keep K36q nin0).other W39 (Or.inr (slot_ne (Or.inr (ow27 hw)) (Or.inr (ow29 hw)) (by decide) (t := .byte) (t' := (.array .byte)) (by decide) (by decide))))
  have F45 := (P36_1.other W39 (Ne.symm (Nat.ne_of_lt (Nat.lt_of_lt_of_le (E1.wr W34).lt P36_0))))
  exact zr0 Y B hret hlk o247 e39 ⟨t_36, kt_36, rfl, N39, K42, (Nat.le_trans K35.1 P36_0), F43, F44, (F40.same W39), F45⟩ rfl rfl
def Q_siniSB2 (Z : State) (x b v : Addr) (kv : ClassId) (cs : List Int32) (cap : Nat) (G1 : Int32) (h0 : Heap) (n0 : Nat) : QT := fun rv hE LE => ∃ t : Addr, ∃ kt : ClassId, rv = none ∧ Fr n0 LE ∧ Keep h0 hE [x] ∧ (h0.size ≤ t) ∧ (Exa Z hE x ss0) ∧ (Fld Z hE x ss0 ss2 "B" (.int 0)) ∧ (Fld Z hE x ss0 ss3 "[B" (.ref t)) ∧ (Arv Z hE t kt .byte (Int32.ofNat cs.length) (B8 cs) (.int 0))
theorem rm_siniSB2 (l : Launch) (Z : State) (a0 : Array Value) (hw : HW a0 Z) (ws : List Jvm.Cond) (x b v : Addr) (kv : ClassId) (cs : List Int32) (cap : Nat) (G1 : Int32) (h0 : Heap) (n0 : Nat) (Z0 : n0 ≤ h0.size) (E1 : Exa Z h0 x ss0) (g_x : n0 ≤ x) (F1 : Fld Z h0 x ss0 ss3 "[B" .null) (F2 : Fld Z h0 x ss0 ss2 "B" (.int 0)) (B0 : Exa Z h0 b ss4) (B1 : Fld Z h0 b ss1 ss2 "B" (.int 0)) (B2 : Fld Z h0 b ss1 ss3 "[B" (.ref v)) (B3 : Fld Z h0 b ss1 ss5 "I" (.int (Int32.ofNat cs.length))) (B4 : Arv Z h0 v kv .byte (Int32.ofNat cap) (B8 cs) (.int 0)) (B5 : Exa Z h0 v "[B") (HLT : cs.length < cap) (HCB : cap < 100000) (HLG : cs.length ≤ 70) (O2 : Sta Z Z.heap ss0 ss7 "Z" (.int G1)) (P5 : ¬ (G1 = (0 : Int32))) (X00 : Old Z n0 h0) :
    MF l Z mn26 (Jvm.Cond.code mn26 cB26 2 (Option.none : Option Jvm.ClassFile.FieldType)) ws Ro26 #[(.ref x), (.ref b)] h0 (Q_siniSB2 Z x b v kv cs cap G1 h0 n0) := by
  refine MF.of ss0 rfl #[rv x, rv b] (plainFor_of_name opn_0) (fun _ => rfl) ?_
  intro p e s m below meth c _ hZ hh B hml hret hlk hown hnm Y e0
  have N0 := Fr.nil n0
  have K0 := Keep.refl h0 [x]
  refine zalN Y B o248 rfl <| zalN Y B o249 rfl <| znull Y B o250 ?_
  refine zci Y B hZ rfl hown (ow219 hw) (ow220 hw) (ow2 hw) (ow221 hw) (by decide) (rm_siniAV2 l Z a0 hw [] x b v kv cs cap G1 h0 n0 (Nat.le_trans Z0 (Nat.le_refl _)) E1 g_x F1 F2 B0 B1 B2 B3 B4 B5 HLT HCB HLG O2 P5 X00) e0 hml opd_17 rfl o251 rfl rfl rfl rfl rfl fun _ T30 _ Y hQ => ?_
  obtain ⟨t_30, kt_30, rfl, N30q, K30q, P30_0, P30_1, P30_2, P30_3, P30_4⟩ := hQ
  have N30 := Fr.app N0 N30q
  have K31 := K0.trans K30q (allS (Or.inl (List.mem_of_getElem? (i := 0) rfl)) all0)
  have O31 := X00.keep K30q (allS g_x all0)
  exact zr0 Y B hret hlk o252 rfl ⟨t_30, kt_30, rfl, N30, K31, (Nat.le_trans (Nat.le_refl _) P30_0), P30_1, P30_2, P30_3, P30_4⟩ rfl rfl
def Q_tostr2 (Z : State) (b v : Addr) (kv : ClassId) (cs : List Int32) (cap : Nat) (G1 : Int32) (h0 : Heap) (n0 : Nat) : QT := fun rv hE LE => ∃ x : Addr, ∃ t : Addr, ∃ kt : ClassId, rv = some (.ref x) ∧ Fr n0 LE ∧ Keep h0 hE [] ∧ (h0.size ≤ x) ∧ (h0.size ≤ t) ∧ (Exa Z hE x ss0) ∧ (Fld Z hE x ss0 ss2 "B" (.int 0)) ∧ (Fld Z hE x ss0 ss3 "[B" (.ref t)) ∧ (Arv Z hE t kt .byte (Int32.ofNat cs.length) (B8 cs) (.int 0))
theorem rm_tostr2 (l : Launch) (Z : State) (a0 : Array Value) (hw : HW a0 Z) (ws : List Jvm.Cond) (b v : Addr) (kv : ClassId) (cs : List Int32) (cap : Nat) (G1 : Int32) (h0 : Heap) (n0 : Nat) (Z0 : n0 ≤ h0.size) (B0 : Exa Z h0 b ss4) (B1 : Fld Z h0 b ss1 ss2 "B" (.int 0)) (B2 : Fld Z h0 b ss1 ss3 "[B" (.ref v)) (B3 : Fld Z h0 b ss1 ss5 "I" (.int (Int32.ofNat cs.length))) (B4 : Arv Z h0 v kv .byte (Int32.ofNat cap) (B8 cs) (.int 0)) (B5 : Exa Z h0 v "[B") (HLT : cs.length < cap) (HCB : cap < 100000) (HLG : cs.length ≤ 70) (O2 : Sta Z Z.heap ss0 ss7 "Z" (.int G1)) (P5 : ¬ (G1 = (0 : Int32))) (X00 : Old Z n0 h0) :
    MF l Z mn27 (Jvm.Cond.code mn27 cB27 1 (Option.some (Jvm.ClassFile.FieldType.object ss0))) ws Ro27 #[(.ref b)] h0 (Q_tostr2 Z b v kv cs cap G1 h0 n0) := by
  refine MF.of ss4 rfl #[rv b] (plainFor_of_name opn_4) (fun _ => rfl) ?_
  intro p e s m below meth c _ hZ hh B hml hret hlk hown hnm Y e0
  have N0 := Fr.nil n0
  have K0 := Keep.refl h0 []
  refine zno Y B hZ hown (ow215 hw) (ow1 hw) (ow2 hw) e0 o253 rfl rfl fun T30 h30 b30 g30 Y e30 E30 A30 D30 U30 => ?_
  have K31 := K0.ext E30
  have O31 := X00.ext E30
  refine zdup Y B o254 rfl <| zalN Y B o255 rfl ?_
  have F33 := (B0.ext E30)
  have F34 := (B1.ext E30)
  have F35 := (B2.ext E30)
  have F36 := (B3.ext E30)
  have F37 := (B4.ext E30)
  have F38 := (B5.ext E30)
  refine zci Y B hZ rfl hown (ow216 hw) (ow217 hw) (ow2 hw) (ow218 hw) (by decide) (rm_siniSB2 l Z a0 hw [] b30 b v kv cs cap G1 h30 n0 (Nat.le_trans Z0 K31.1) A30 ((Nat.le_trans (Nat.le_trans Z0 (Nat.le_refl _)) (Nat.le_of_eq g30.symm))) (D30 (Or.inr (ow29 hw)) (ty := (.array .byte)) (by decide)) (D30 (Or.inr (ow27 hw)) (ty := .byte) (by decide)) F33 F34 F35 F36 F37 F38 HLT HCB HLG O2 P5 O31) e30 hml opd_18 rfl o256 rfl rfl rfl rfl rfl fun _ T32 _ Y hQ => ?_
  obtain ⟨t_32, kt_32, rfl, N32q, K32q, P32_0, P32_1, P32_2, P32_3, P32_4⟩ := hQ
  have N32 := Fr.app N0 N32q
  have K39 := K31.trans K32q (allS (Or.inr (Nat.le_trans (Nat.le_refl _) (Nat.le_of_eq g30.symm))) all0)
  have O39 := O31.keep K32q (allS (Nat.le_trans (Nat.le_trans Z0 (Nat.le_refl _)) (Nat.le_of_eq g30.symm)) all0)
  exact zrR Y B hret rfl rfl rfl hlk o257 rfl ⟨b30, t_32, kt_32, rfl, N32, K39, (Nat.le_trans (Nat.le_refl _) (Nat.le_of_eq g30.symm)), (Nat.le_trans K31.1 P32_0), P32_1, P32_2, P32_3, P32_4⟩ rfl rfl
def Q_lsize7 (Z : State)  (h0 : Heap) (n0 : Nat) : QT := fun rv hE LE => rv = some (.int 1) ∧ Fr n0 LE ∧ hE = h0
theorem rm_lsize7 (l : Launch) (Z : State) (a0 : Array Value) (hw : HW a0 Z) (ws : List Jvm.Cond)  (h0 : Heap) (n0 : Nat) (Z0 : n0 ≤ h0.size)  :
    MF l Z mn36 (Jvm.Cond.code mn36 cB36 6 (Option.some Jvm.ClassFile.FieldType.int)) ws Ro0 #[(.long (7 : Int64))] h0 (Q_lsize7 Z  h0 n0) := by
  refine MF.of "java/lang/Long" rfl #[.val (.long (7 : Int64)), .second, un, un, un, un] (plainFor_of_name opn_7) (fun _ => rfl) ?_
  intro p e s m below meth c _ hZ hh B hml hret hlk hown hnm Y e0
  have N0 := Fr.nil n0
  refine zc1 Y B o379 <| zisN Y B o380 (s2 rfl) <| zllN Y B o381 rfl ?_
  refine Go.by (fun _ kq_ => XS.lconst Y.here B.1 rfl (hb B.2 o382.1) kq_) ?_
  show Go p e below _ _ (mkF m 4 #[.val (.long (7 : Int64)), .second, iv 1, un, un, un] [(.long (0 : Int64)), (.long (7 : Int64))])
  refine Go.by (fun _ kq_ => XS.lcmp Y.here B.1 rfl (hb B.2 o383.1) rfl kq_) ?_
  show Go p e below _ _ (mkF m 5 #[.val (.long (7 : Int64)), .second, iv 1, un, un, un] [(.int (lcmpW (7 : Int64) (0 : Int64)))])
  refine zN Y B o384 (by decide) ?_
  refine zc0 Y B o385 <| zisN Y B o386 (s2 rfl) <| zllN Y B o387 rfl <| zlneg Y B o388 (v := (-7)) rfl ?_
  refine Go.by (fun _ kq_ => XS.lstoreN Y.here B.1 rfl (hb B.2 o389.1) rfl (l' := #[.val (.long (-7 : Int64)), .second, iv 0, un, un, un]) rfl kq_) ?_
  show Go p e below _ _ (mkF m 13 #[.val (.long (-7 : Int64)), .second, iv 0, un, un, un] [])
  refine Go.f3 (Y.ldc2Long B.1 hown (mvT hZ (ow198 hw)) rfl (hb B.2 o390.1)) ?_
  refine Go.by (fun _ kq_ => XS.lstoreN Y.here B.1 rfl (hb B.2 o391.1) rfl (l' := #[.val (.long (-7 : Int64)), .second, iv 0, .val (.long (-10 : Int64)), .second, un]) rfl kq_) ?_
  show Go p e below _ _ (mkF m 17 #[.val (.long (-7 : Int64)), .second, iv 0, .val (.long (-10 : Int64)), .second, un] [])
  refine zc1 Y B o392 <| zis Y B o393 (s5 rfl) <| zil Y B o394 rfl <| zbp Y B o395 (v := 19) rfl <| zCN Y B o396 (by decide) ?_
  refine zllN Y B o397 rfl <| zllN Y B o398 rfl ?_
  refine Go.by (fun _ kq_ => XS.lcmp Y.here B.1 rfl (hb B.2 o399.1) rfl kq_) ?_
  show Go p e below _ _ (mkF m 30 #[.val (.long (-7 : Int64)), .second, iv 0, .val (.long (-10 : Int64)), .second, iv 1] [(.int (lcmpW (-7 : Int64) (-10 : Int64)))])
  refine zN Y B o400 (by decide) ?_
  refine zil Y B o401 rfl <| zilN Y B o402 rfl <| ziadd Y B o403 (v := 1) rfl ?_
  exact zrI Y B hret hlk o404 e0 ⟨rfl, N0, rfl⟩ rfl rfl
def Q_lgetc7 (Z : State) (v : Addr) (kv : ClassId) (cap : Nat) (cs : List Int32) (on : Addr) (ko : ClassId) (h0 : Heap) (n0 : Nat) : QT := fun rv hE LE => rv = some (.int (Int32.ofNat cs.length)) ∧ Fr n0 LE ∧ Keep h0 hE [v] ∧ (Arv Z hE v kv .byte (Int32.ofNat cap) (B8 (cs ++ [(55 : Int32)])) (.int 0))
theorem rm_lgetc7 (l : Launch) (Z : State) (a0 : Array Value) (hw : HW a0 Z) (ws : List Jvm.Cond) (v : Addr) (kv : ClassId) (cap : Nat) (cs : List Int32) (on : Addr) (ko : ClassId) (h0 : Heap) (n0 : Nat) (Z0 : n0 ≤ h0.size) (B4 : Arv Z h0 v kv .byte (Int32.ofNat cap) (B8 cs) (.int 0)) (HR : cs.length + 1 ≤ cap) (HCB : cap < 2 ^ 31) (g_v : n0 ≤ v) (OS1 : Sta Z Z.heap ss14 ss15 "[B" (.ref on)) (OD1 : Arv Z Z.heap on ko .byte (100 : Int32) ONES (.int 0)) (X00 : Old Z n0 h0) :
    MF l Z mn37 (Jvm.Cond.code mn37 cB37 11 (Option.some Jvm.ClassFile.FieldType.int)) ws Ro0 #[(.long (7 : Int64)), (.int (Int32.ofNat (cs.length + 1))), (.ref v)] h0 (Q_lgetc7 Z v kv cap cs on ko h0 n0) := by
  refine MF.of "java/lang/Long" rfl #[.val (.long (7 : Int64)), .second, iv (Int32.ofNat (cs.length + 1)), rv v, un, un, un, un, un, un, un] (plainFor_of_name opn_7) (fun _ => rfl) ?_
  intro p e s m below meth c _ hZ hh B hml hret hlk hown hnm Y e0
  have N0 := Fr.nil n0
  have K0 := Keep.refl h0 [v]
  refine zilN Y B o405 rfl <| zis Y B o406 (s7 rfl) <| zllN Y B o407 rfl ?_
  refine Go.by (fun _ kq_ => XS.lconst Y.here B.1 rfl (hb B.2 o408.1) kq_) ?_
  show Go p e below _ _ (mkF m 5 #[.val (.long (7 : Int64)), .second, iv (Int32.ofNat (cs.length + 1)), rv v, un, un, un, iv (Int32.ofNat (cs.length + 1)), un, un, un] [(.long (0 : Int64)), (.long (7 : Int64))])
  refine Go.by (fun _ kq_ => XS.lcmp Y.here B.1 rfl (hb B.2 o409.1) rfl kq_) ?_
  show Go p e below _ _ (mkF m 6 #[.val (.long (7 : Int64)), .second, iv (Int32.ofNat (cs.length + 1)), rv v, un, un, un, iv (Int32.ofNat (cs.length + 1)), un, un, un] [(.int (lcmpW (7 : Int64) (0 : Int64)))])
  refine zY Y B j20 (by decide) ?_
  refine zc0 Y B o410 <| zis Y B o411 (s8 rfl) <| zil Y B o412 rfl <| zN Y B o413 (by decide) ?_
  refine zllN Y B o414 rfl <| zlneg Y B o415 (v := (-7)) rfl ?_
  refine Go.by (fun _ kq_ => XS.lstoreN Y.here B.1 rfl (hb B.2 o416.1) rfl (l' := #[.val (.long (-7 : Int64)), .second, iv (Int32.ofNat (cs.length + 1)), rv v, un, un, un, iv (Int32.ofNat (cs.length + 1)), iv 0, un, un]) rfl kq_) ?_
  show Go p e below _ _ (mkF m 24 #[.val (.long (-7 : Int64)), .second, iv (Int32.ofNat (cs.length + 1)), rv v, un, un, un, iv (Int32.ofNat (cs.length + 1)), iv 0, un, un] [])
  refine zllN Y B o417 rfl ?_
  refine Go.f3 (Y.ldc2Long B.1 hown (mvT hZ (ow202 hw)) rfl (hb B.2 o418.1)) ?_
  refine Go.by (fun _ kq_ => XS.lcmp Y.here B.1 rfl (hb B.2 o419.1) rfl kq_) ?_
  show Go p e below _ _ (mkF m 29 #[.val (.long (-7 : Int64)), .second, iv (Int32.ofNat (cs.length + 1)), rv v, un, un, un, iv (Int32.ofNat (cs.length + 1)), iv 0, un, un] [(.int (lcmpW (-7 : Int64) (-2147483648 : Int64)))])
  refine zY Y B j21 (by decide) ?_
  refine zllN Y B o420 rfl <| zl2i Y B o421 (v := (-7)) rfl <| zis Y B o422 (s10 rfl) <| zil Y B o423 rfl <| zbp Y B o424 (v := (-100)) rfl <| zCY Y B j22 (by decide) ?_
  refine zalN Y B o425 rfl <| zinc Y B o426 rfl (v := ((Int32.ofNat (cs.length + 1)) + (-1 : Int32))) rfl (s7 rfl) ?_
  rw [show ((Int32.ofNat (cs.length + 1)) + (-1 : Int32)) = (Int32.ofNat cs.length) from (on_pred _)]
  refine zil Y B o427 rfl ?_
  refine zgs Y B hZ hown (ow203 hw) e0 (OS1.ext X00.2) o428 fun _ Y e30 => ?_
  refine zil Y B o429 rfl <| zineg Y B o430 (v := 7) rfl ?_
  refine zlb Y B hZ e30 (OD1.ext X00.2) (v := (.int 55)) ⟨by decide, by decide⟩ (ones_at (r := 7) (by decide)) o431 ?_
  obtain ⟨c32, A32, q32, S32, M32, G32, J32⟩ := id B4
  refine Go.b1 (stB Y B.1 hZ e30 A32 (j := (Int32.ofNat cs.length)) (inb_of S32 ⟨on_pos (by omega), on_lt (by omega) (by omega)⟩) rfl rfl (hb B.2 o432.1)) fun T32 h32 Y e32 W32 => ?_
  have N32 := Fr.snoc Y N0 g_v
  have K33 := K0.wr W32 (Or.inl (List.mem_of_getElem? (i := 0) rfl))
  have O33 := X00.wr W32 g_v
  have V32 : Arv Z h32 v kv .byte (Int32.ofNat cap) (B8 (cs ++ [(55 : Int32)])) (.int 0) := own_push (cs := cs) (x := (55 : Int32)) B4 (on_nat (by omega)) W32 rfl
  refine zil Y B o433 rfl <| zbp Y B o434 (v := (-9)) rfl <| zCY Y B j23 (by decide) ?_
  refine zil Y B o435 rfl <| zY Y B j24 (by decide) ?_
  refine zil Y B o436 rfl ?_
  exact zrI Y B hret hlk o437 e32 ⟨rfl, N32, K33, V32⟩ rfl rfl
def Q_asbappJ0 (Z : State) (b v : Addr) (kv : ClassId) (cap : Nat) (cs : List Int32) (on : Addr) (ko : ClassId) (G1 : Int32) (h0 : Heap) (n0 : Nat) : QT := fun rv hE LE => rv = some (.ref b) ∧ Fr n0 LE ∧ Keep h0 hE [b, v] ∧ (Exa Z hE b ss4) ∧ (Fld Z hE b ss1 ss2 "B" (.int 0)) ∧ (Fld Z hE b ss1 ss3 "[B" (.ref v)) ∧ (Fld Z hE b ss1 ss5 "I" (.int (Int32.ofNat (cs ++ [(55 : Int32)]).length))) ∧ (Arv Z hE v kv .byte (Int32.ofNat cap) (B8 (cs ++ [(55 : Int32)])) (.int 0)) ∧ (Exa Z hE v "[B")
theorem rm_asbappJ0 (l : Launch) (Z : State) (a0 : Array Value) (hw : HW a0 Z) (ws : List Jvm.Cond) (b v : Addr) (kv : ClassId) (cap : Nat) (cs : List Int32) (on : Addr) (ko : ClassId) (G1 : Int32) (h0 : Heap) (n0 : Nat) (Z0 : n0 ≤ h0.size) (B0 : Exa Z h0 b ss4) (B1 : Fld Z h0 b ss1 ss2 "B" (.int 0)) (B2 : Fld Z h0 b ss1 ss3 "[B" (.ref v)) (B3 : Fld Z h0 b ss1 ss5 "I" (.int (Int32.ofNat cs.length))) (B4 : Arv Z h0 v kv .byte (Int32.ofNat cap) (B8 cs) (.int 0)) (B5 : Exa Z h0 v "[B") (HR : cs.length + 1 ≤ cap) (HCB : cap < 2 ^ 31) (g_v : n0 ≤ v) (g_b : n0 ≤ b) (OS1 : Sta Z Z.heap ss14 ss15 "[B" (.ref on)) (OD1 : Arv Z Z.heap on ko .byte (100 : Int32) ONES (.int 0)) (O2 : Sta Z Z.heap ss0 ss7 "Z" (.int G1)) (P5 : ¬ (G1 = (0 : Int32))) (X00 : Old Z n0 h0) :
    MF l Z mn38 (Jvm.Cond.code mn38 cB38 5 (Option.some (Jvm.ClassFile.FieldType.object ss1))) ws Ro28 #[(.ref b), (.long (7 : Int64))] h0 (Q_asbappJ0 Z b v kv cap cs on ko G1 h0 n0) := by
  refine MF.of ss1 rfl #[rv b, .val (.long (7 : Int64)), .second, un, un] (plainFor_of_name opn_3) (fun _ => rfl) ?_
  intro p e s m below meth c _ hZ hh B hml hret hlk hown hnm Y e0
  have N0 := Fr.nil n0
  have K0 := Keep.refl h0 [b, v]
  refine zalN Y B o438 rfl ?_
  refine zgf Y B hZ hown (ow98 hw) Via.refl e0 B3 o439 fun _ Y e30 => ?_
  refine zisN Y B o440 (s3 rfl) <| zilN Y B o441 rfl <| zllN Y B o442 rfl ?_
  refine zcs Y B hZ hown (ow194 hw) (ow195 hw) (ow196 hw) (ow197 hw) (by decide) (rm_lsize7 l Z a0 hw []  h0 n0 (Nat.le_trans Z0 (Nat.le_refl _)) ) e30 hml opd_23 rfl o443 rfl rfl rfl rfl rfl fun _ T31 _ Y hQ => ?_
  obtain ⟨rfl, N31q, e31⟩ := hQ
  have N31 := Fr.app N0 N31q
  refine ziadd Y B o444 rfl ?_
  rw [show ((Int32.ofNat cs.length) + (1 : Int32)) = (Int32.ofNat (cs.length + 1)) from (on_add _ 1)]
  refine zis Y B o445 (s4 rfl) <| zalN Y B o446 rfl <| zil Y B o447 rfl ?_
  refine zcp Y B hZ hown (ow100 hw) (ow101 hw) (own_selp (ow101 hw) (ow102 hw) (ow103 hw) (by decide)) (ow102 hw) (ow60 hw) (ow104 hw) (by decide) B0 (rm_ens0 l Z a0 hw [] b v kv cap cs (cs.length + 1) h0 n0 (Nat.le_trans Z0 (Nat.le_refl _)) B0 B1 B2 B3 B4 B5 (HR) HCB) e31 hml opd_11 rfl o448 rfl rfl rfl rfl rfl fun _ T32 _ Y hQ => ?_
  obtain ⟨rfl, N32q, e32⟩ := hQ
  have N32 := Fr.app N31 N32q
  refine zalN Y B o449 rfl ?_
  refine zcv Y B hZ hown (ow134 hw) (ow135 hw) (notFace_of_selects (args := #[]) (mvT hZ (ow137 hw))) (ow137 hw) (ow136 hw) (ow60 hw) (ow138 hw) (by decide) B0 (rm_asbl1 l Z a0 hw [] b G1 h0 n0 (Nat.le_trans Z0 (Nat.le_refl _)) B0 B1 O2 P5 X00) e32 hml opd_3 rfl o450 rfl rfl rfl rfl rfl fun _ T33 _ Y hQ => ?_
  obtain ⟨rfl, N33q, e33⟩ := hQ
  have N33 := Fr.app N32 N33q
  refine zN Y B o451 (by decide) ?_
  refine zllN Y B o452 rfl <| zil Y B o453 rfl <| zalN Y B o454 rfl ?_
  refine zgf Y B hZ hown (ow64 hw) Via.refl e33 B2 o455 fun _ Y e34 => ?_
  refine zcs Y B hZ hown (ow199 hw) (ow200 hw) (ow196 hw) (ow201 hw) (by decide) (rm_lgetc7 l Z a0 hw [] v kv cap cs on ko h0 n0 (Nat.le_trans Z0 (Nat.le_refl _)) B4 HR HCB g_v OS1 OD1 X00) e34 hml opd_24 rfl o456 rfl rfl rfl rfl rfl fun _ T35 _ Y hQ => ?_
  obtain ⟨rfl, N35q, K35q, P35_0⟩ := hQ
  have N35 := Fr.app N33 N35q
  have K36 := K0.trans K35q (allS (Or.inl (List.mem_of_getElem? (i := 1) rfl)) all0)
  have O36 := X00.keep K35q (allS g_v all0)
  refine zpop Y B o457 rfl <| zgo Y B j25 <| zalN Y B o458 rfl <| zil Y B o459 rfl ?_
  rw [show (Int32.ofNat (cs.length + 1)) = (Int32.ofNat (cs ++ [(55 : Int32)]).length) from (by rw [List.length_append]; rfl)]
  have F38 := (B3.keep K35q (ninS (ne_exa B0 B5 (by decide)) nin0))
  have F39 := (B0.keep K35q)
  refine Go.b3 (putF Y B.1 hZ hown (host := "") (Or.inl (ow98 hw)) Via.refl rfl F38 F39 (Or.inl (ow99 hw)) (ow51 hw) (ty := .int) (by decide) rfl rfl rfl rfl (hb B.2 o460.1)) fun T37 h37 Y e37 W37 => ?_
  have N37 := Fr.snoc Y N35 g_b
  have K40 := K36.wr W37 (Or.inl (List.mem_of_getElem? (i := 0) rfl))
  have O40 := O36.wr W37 g_b
  refine zalN Y B o461 rfl ?_
  have F41 := (F39.wr W37)
  have F42 := ((B1.keep K35q (ninS (ne_exa B0 B5 (by decide)) nin0)).other W37 (Or.inr (slot_ne (Or.inl (ow67 hw)) (Or.inl (ow99 hw)) (by decide) (t := .byte) (t' := .int) (by decide) (by decide))))
  have F43 := ((B2.keep K35q (ninS (ne_exa B0 B5 (by decide)) nin0)).other W37 (Or.inr (slot_ne (Or.inl (ow65 hw)) (Or.inl (ow99 hw)) (by decide) (t := (.array .byte)) (t' := .int) (by decide) (by decide))))
  have F44 := (P35_0.other W37 (ne_exa B5 B0 (by decide)))
  have F45 := ((B5.keep K35q).wr W37)
  exact zrR Y B hret rfl rfl rfl hlk o462 e37 ⟨rfl, N37, K40, F41, F42, F43, (F38.same W37), F44, F45⟩ rfl rfl
def Q_sbappJ0 (Z : State) (b v : Addr) (kv : ClassId) (cap : Nat) (cs : List Int32) (on : Addr) (ko : ClassId) (G1 : Int32) (h0 : Heap) (n0 : Nat) : QT := fun rv hE LE => rv = some (.ref b) ∧ Fr n0 LE ∧ Keep h0 hE [b, v] ∧ (Exa Z hE b ss4) ∧ (Fld Z hE b ss1 ss2 "B" (.int 0)) ∧ (Fld Z hE b ss1 ss3 "[B" (.ref v)) ∧ (Fld Z hE b ss1 ss5 "I" (.int (Int32.ofNat (cs ++ [(55 : Int32)]).length))) ∧ (Arv Z hE v kv .byte (Int32.ofNat cap) (B8 (cs ++ [(55 : Int32)])) (.int 0)) ∧ (Exa Z hE v "[B")
theorem rm_sbappJ0 (l : Launch) (Z : State) (a0 : Array Value) (hw : HW a0 Z) (ws : List Jvm.Cond) (b v : Addr) (kv : ClassId) (cap : Nat) (cs : List Int32) (on : Addr) (ko : ClassId) (G1 : Int32) (h0 : Heap) (n0 : Nat) (Z0 : n0 ≤ h0.size) (B0 : Exa Z h0 b ss4) (B1 : Fld Z h0 b ss1 ss2 "B" (.int 0)) (B2 : Fld Z h0 b ss1 ss3 "[B" (.ref v)) (B3 : Fld Z h0 b ss1 ss5 "I" (.int (Int32.ofNat cs.length))) (B4 : Arv Z h0 v kv .byte (Int32.ofNat cap) (B8 cs) (.int 0)) (B5 : Exa Z h0 v "[B") (HR : cs.length + 1 ≤ cap) (HCB : cap < 2 ^ 31) (g_v : n0 ≤ v) (g_b : n0 ≤ b) (OS1 : Sta Z Z.heap ss14 ss15 "[B" (.ref on)) (OD1 : Arv Z Z.heap on ko .byte (100 : Int32) ONES (.int 0)) (O2 : Sta Z Z.heap ss0 ss7 "Z" (.int G1)) (P5 : ¬ (G1 = (0 : Int32))) (X00 : Old Z n0 h0) :
    MF l Z mn39 (Jvm.Cond.code mn39 cB39 3 (Option.some (Jvm.ClassFile.FieldType.object ss4))) ws Ro29 #[(.ref b), (.long (7 : Int64))] h0 (Q_sbappJ0 Z b v kv cap cs on ko G1 h0 n0) := by
  refine MF.of ss4 rfl #[rv b, .val (.long (7 : Int64)), .second] (plainFor_of_name opn_4) (fun _ => rfl) ?_
  intro p e s m below meth c _ hZ hh B hml hret hlk hown hnm Y e0
  have N0 := Fr.nil n0
  have K0 := Keep.refl h0 [b, v]
  refine zalN Y B o463 rfl <| zllN Y B o464 rfl ?_
  obtain ⟨_, _, ⟨T30, L30, k30, n30⟩, -, Y, ⟨Lc30, hQ30, l30, y30, z30⟩, st30⟩ := superBack Y B.1 hZ (y := mn38) hown (ow190 hw) (own_same (ow191 hw) (ow103 hw) rfl (by decide)) (ow191 hw) (ow85 hw) (by decide) (backOf (W := 0) (rm_asbappJ0 l Z a0 hw [] b v kv cap cs on ko G1 h0 n0 (Nat.le_trans Z0 (Nat.le_refl _)) B0 B1 B2 B3 B4 B5 HR HCB g_v g_b OS1 OD1 O2 P5 X00) hZ (ow193 hw) (ow60 hw) (by decide) (by decide)) e0 (Ins.self B0) (g := (mkF m 2 #[rv b, .val (.long (7 : Int64)), .second] [(.long (7 : Int64)), (.ref b)])) rfl (by rw [hml]; rfl) (ow193 hw) (argsL := [(.long (7 : Int64))]) (rest := []) (lenOf opd_25 rfl) rfl (by show 2 * 0 + _ ≤ _; exact Nat.le_of_eq rfl) (hb B.2 o465.1) (fun _ _ => ⟨rfl, e0, (by decide : 0 + 0 ≤ _), (by decide : 0 + 0 ≤ _)⟩)
  dsimp only [Pt.U, Pt.locs, Pt.cells, Pt.slots] at Y l30 y30 z30 st30 hQ30
  subst l30 y30 z30
  obtain ⟨rfl, N30q, K30q, P30_0, P30_1, P30_2, P30_3, P30_4, P30_5⟩ := hQ30
  have N30 := Fr.app N0 N30q
  refine Go.tr st30 ?_
  have K31 := K0.trans K30q (allS (Or.inl (List.mem_of_getElem? (i := 0) rfl)) (allS (Or.inl (List.mem_of_getElem? (i := 1) rfl)) all0))
  have O31 := X00.keep K30q (allS g_b (allS g_v all0))
  refine zpop Y B o466 rfl <| zalN Y B o467 rfl ?_
  exact zrR Y B hret rfl rfl rfl hlk o468 rfl ⟨rfl, N30, K31, P30_0, P30_1, P30_2, P30_3, P30_4, P30_5⟩ rfl rfl
def Q_asbappJ1 (Z : State) (b v : Addr) (kv : ClassId) (cap : Nat) (cs : List Int32) (on : Addr) (ko : ClassId) (G1 : Int32) (h0 : Heap) (n0 : Nat) : QT := fun rv hE LE => ∃ tn : Addr, ∃ kn : ClassId, rv = some (.ref b) ∧ Fr n0 LE ∧ Keep h0 hE [b] ∧ (h0.size ≤ tn) ∧ (Exa Z hE b ss4) ∧ (Fld Z hE b ss1 ss2 "B" (.int 0)) ∧ (Fld Z hE b ss1 ss3 "[B" (.ref tn)) ∧ (Fld Z hE b ss1 ss5 "I" (.int (Int32.ofNat (cs ++ [(55 : Int32)]).length))) ∧ (Arv Z hE tn kn .byte (Int32.ofNat (newCap cap (cs.length + 1))) (B8 (cs ++ [(55 : Int32)])) (.int 0)) ∧ (Exa Z hE tn "[B")
theorem rm_asbappJ1 (l : Launch) (Z : State) (a0 : Array Value) (hw : HW a0 Z) (ws : List Jvm.Cond) (b v : Addr) (kv : ClassId) (cap : Nat) (cs : List Int32) (on : Addr) (ko : ClassId) (G1 : Int32) (h0 : Heap) (n0 : Nat) (Z0 : n0 ≤ h0.size) (B0 : Exa Z h0 b ss4) (B1 : Fld Z h0 b ss1 ss2 "B" (.int 0)) (B2 : Fld Z h0 b ss1 ss3 "[B" (.ref v)) (B3 : Fld Z h0 b ss1 ss5 "I" (.int (Int32.ofNat cs.length))) (B4 : Arv Z h0 v kv .byte (Int32.ofNat cap) (B8 cs) (.int 0)) (B5 : Exa Z h0 v "[B") (HMC : cap < (cs.length + 1) ∧ (cs.length + 1) < 100000) (HNC : (newCap cap (cs.length + 1)) ≤ 70) (HCS : cs.length ≤ cap) (g_b : n0 ≤ b) (OS1 : Sta Z Z.heap ss14 ss15 "[B" (.ref on)) (OD1 : Arv Z Z.heap on ko .byte (100 : Int32) ONES (.int 0)) (O2 : Sta Z Z.heap ss0 ss7 "Z" (.int G1)) (P5 : ¬ (G1 = (0 : Int32))) (X00 : Old Z n0 h0) :
    MF l Z mn38 (Jvm.Cond.code mn38 cB38 5 (Option.some (Jvm.ClassFile.FieldType.object ss1))) ws Ro20 #[(.ref b), (.long (7 : Int64))] h0 (Q_asbappJ1 Z b v kv cap cs on ko G1 h0 n0) := by
  refine MF.of ss1 rfl #[rv b, .val (.long (7 : Int64)), .second, un, un] (plainFor_of_name opn_3) (fun _ => rfl) ?_
  intro p e s m below meth c _ hZ hh B hml hret hlk hown hnm Y e0
  have N0 := Fr.nil n0
  have K0 := Keep.refl h0 [b]
  refine zalN Y B o438 rfl ?_
  refine zgf Y B hZ hown (ow98 hw) Via.refl e0 B3 o439 fun _ Y e30 => ?_
  refine zisN Y B o440 (s3 rfl) <| zilN Y B o441 rfl <| zllN Y B o442 rfl ?_
  refine zcs Y B hZ hown (ow194 hw) (ow195 hw) (ow196 hw) (ow197 hw) (by decide) (rm_lsize7 l Z a0 hw []  h0 n0 (Nat.le_trans Z0 (Nat.le_refl _)) ) e30 hml opd_23 rfl o443 rfl rfl rfl rfl rfl fun _ T31 _ Y hQ => ?_
  obtain ⟨rfl, N31q, e31⟩ := hQ
  have N31 := Fr.app N0 N31q
  refine ziadd Y B o444 rfl ?_
  rw [show ((Int32.ofNat cs.length) + (1 : Int32)) = (Int32.ofNat (cs.length + 1)) from (on_add _ 1)]
  refine zis Y B o445 (s4 rfl) <| zalN Y B o446 rfl <| zil Y B o447 rfl ?_
  refine zcp Y B hZ hown (ow100 hw) (ow101 hw) (own_selp (ow101 hw) (ow102 hw) (ow103 hw) (by decide)) (ow102 hw) (ow60 hw) (ow104 hw) (by decide) B0 (rm_ens1 l Z a0 hw [] b v kv cap cs (cs.length + 1) h0 n0 (Nat.le_trans Z0 (Nat.le_refl _)) B0 B1 B2 B3 B4 B5 HMC HNC HCS g_b) e31 hml opd_11 rfl o448 rfl rfl rfl rfl rfl fun _ T32 _ Y hQ => ?_
  obtain ⟨t_32, kt_32, rfl, N32q, K32q, P32_0, P32_1, P32_2, P32_3, P32_4, P32_5, P32_6⟩ := hQ
  have N32 := Fr.app N31 N32q
  have K33 := K0.trans K32q (allS (Or.inl (List.mem_of_getElem? (i := 0) rfl)) all0)
  have O33 := X00.keep K32q (allS g_b all0)
  refine zalN Y B o449 rfl ?_
  refine zcv Y B hZ hown (ow134 hw) (ow135 hw) (notFace_of_selects (args := #[]) (mvT hZ (ow137 hw))) (ow137 hw) (ow136 hw) (ow60 hw) (ow138 hw) (by decide) P32_1 (rm_asbl1 l Z a0 hw [] b G1 T32.heap n0 (Nat.le_trans Z0 K33.1) P32_1 P32_2 O2 P5 O33) rfl hml opd_3 rfl o450 rfl rfl rfl rfl rfl fun _ T34 _ Y hQ => ?_
  obtain ⟨rfl, N34q, e34⟩ := hQ
  have N34 := Fr.app N32 N34q
  refine zN Y B o451 (by decide) ?_
  refine zllN Y B o452 rfl <| zil Y B o453 rfl <| zalN Y B o454 rfl ?_
  refine zgf Y B hZ hown (ow64 hw) Via.refl e34 P32_3 o455 fun _ Y e35 => ?_
  refine zcs Y B hZ hown (ow199 hw) (ow200 hw) (ow196 hw) (ow201 hw) (by decide) (rm_lgetc7 l Z a0 hw [] t_32 kt_32 (newCap cap (cs.length + 1)) cs on ko T32.heap n0 (Nat.le_trans Z0 K33.1) P32_5 (by unfold newCap; omega) (by omega) ((Nat.le_trans (Nat.le_trans Z0 (Nat.le_refl _)) P32_0)) OS1 OD1 O33) e35 hml opd_24 rfl o456 rfl rfl rfl rfl rfl fun _ T36 _ Y hQ => ?_
  obtain ⟨rfl, N36q, K36q, P36_0⟩ := hQ
  have N36 := Fr.app N34 N36q
  have K37 := K33.trans K36q (allS (Or.inr (Nat.le_trans (Nat.le_refl _) P32_0)) all0)
  have O37 := O33.keep K36q (allS (Nat.le_trans (Nat.le_trans Z0 (Nat.le_refl _)) P32_0) all0)
  refine zpop Y B o457 rfl <| zgo Y B j25 <| zalN Y B o458 rfl <| zil Y B o459 rfl ?_
  rw [show (Int32.ofNat (cs.length + 1)) = (Int32.ofNat (cs ++ [(55 : Int32)]).length) from (by rw [List.length_append]; rfl)]
  have F39 := (P32_4.keep K36q (ninS (Nat.ne_of_lt (Nat.lt_of_lt_of_le B0.lt P32_0)) nin0))
  have F40 := (P32_1.keep K36q)
  refine Go.b3 (putF Y B.1 hZ hown (host := "") (Or.inl (ow98 hw)) Via.refl rfl F39 F40 (Or.inl (ow99 hw)) (ow51 hw) (ty := .int) (by decide) rfl rfl rfl rfl (hb B.2 o460.1)) fun T38 h38 Y e38 W38 => ?_
  have N38 := Fr.snoc Y N36 g_b
  have K41 := K37.wr W38 (Or.inl (List.mem_of_getElem? (i := 0) rfl))
  have O41 := O37.wr W38 g_b
  refine zalN Y B o461 rfl ?_
  have F42 := (F40.wr W38)
  have F43 := ((P32_2.keep K36q (ninS (Nat.ne_of_lt (Nat.lt_of_lt_of_le B0.lt P32_0)) nin0)).other W38 (Or.inr (slot_ne (Or.inl (ow67 hw)) (Or.inl (ow99 hw)) (by decide) (t := .byte) (t' := .int) (by decide) (by decide))))
  have F44 := ((P32_3.keep K36q (ninS (Nat.ne_of_lt (Nat.lt_of_lt_of_le B0.lt P32_0)) nin0)).other W38 (Or.inr (slot_ne (Or.inl (ow65 hw)) (Or.inl (ow99 hw)) (by decide) (t := (.array .byte)) (t' := .int) (by decide) (by decide))))
  have F45 := (P36_0.other W38 (Ne.symm (Nat.ne_of_lt (Nat.lt_of_lt_of_le B0.lt P32_0))))
  have F46 := ((P32_6.keep K36q).wr W38)
  exact zrR Y B hret rfl rfl rfl hlk o462 e38 ⟨t_32, kt_32, rfl, N38, K41, (Nat.le_trans (Nat.le_refl _) P32_0), F42, F43, F44, (F39.same W38), F45, F46⟩ rfl rfl
def Q_sbappJ1 (Z : State) (b v : Addr) (kv : ClassId) (cap : Nat) (cs : List Int32) (on : Addr) (ko : ClassId) (G1 : Int32) (h0 : Heap) (n0 : Nat) : QT := fun rv hE LE => ∃ tn : Addr, ∃ kn : ClassId, rv = some (.ref b) ∧ Fr n0 LE ∧ Keep h0 hE [b] ∧ (h0.size ≤ tn) ∧ (Exa Z hE b ss4) ∧ (Fld Z hE b ss1 ss2 "B" (.int 0)) ∧ (Fld Z hE b ss1 ss3 "[B" (.ref tn)) ∧ (Fld Z hE b ss1 ss5 "I" (.int (Int32.ofNat (cs ++ [(55 : Int32)]).length))) ∧ (Arv Z hE tn kn .byte (Int32.ofNat (newCap cap (cs.length + 1))) (B8 (cs ++ [(55 : Int32)])) (.int 0)) ∧ (Exa Z hE tn "[B")
theorem rm_sbappJ1 (l : Launch) (Z : State) (a0 : Array Value) (hw : HW a0 Z) (ws : List Jvm.Cond) (b v : Addr) (kv : ClassId) (cap : Nat) (cs : List Int32) (on : Addr) (ko : ClassId) (G1 : Int32) (h0 : Heap) (n0 : Nat) (Z0 : n0 ≤ h0.size) (B0 : Exa Z h0 b ss4) (B1 : Fld Z h0 b ss1 ss2 "B" (.int 0)) (B2 : Fld Z h0 b ss1 ss3 "[B" (.ref v)) (B3 : Fld Z h0 b ss1 ss5 "I" (.int (Int32.ofNat cs.length))) (B4 : Arv Z h0 v kv .byte (Int32.ofNat cap) (B8 cs) (.int 0)) (B5 : Exa Z h0 v "[B") (HMC : cap < (cs.length + 1) ∧ (cs.length + 1) < 100000) (HNC : (newCap cap (cs.length + 1)) ≤ 70) (HCS : cs.length ≤ cap) (g_b : n0 ≤ b) (OS1 : Sta Z Z.heap ss14 ss15 "[B" (.ref on)) (OD1 : Arv Z Z.heap on ko .byte (100 : Int32) ONES (.int 0)) (O2 : Sta Z Z.heap ss0 ss7 "Z" (.int G1)) (P5 : ¬ (G1 = (0 : Int32))) (X00 : Old Z n0 h0) :
    MF l Z mn39 (Jvm.Cond.code mn39 cB39 3 (Option.some (Jvm.ClassFile.FieldType.object ss4))) ws Ro30 #[(.ref b), (.long (7 : Int64))] h0 (Q_sbappJ1 Z b v kv cap cs on ko G1 h0 n0) := by
  refine MF.of ss4 rfl #[rv b, .val (.long (7 : Int64)), .second] (plainFor_of_name opn_4) (fun _ => rfl) ?_
  intro p e s m below meth c _ hZ hh B hml hret hlk hown hnm Y e0
  have N0 := Fr.nil n0
  have K0 := Keep.refl h0 [b]
  refine zalN Y B o463 rfl <| zllN Y B o464 rfl ?_
  obtain ⟨_, _, ⟨T30, L30, k30, n30⟩, -, Y, ⟨Lc30, hQ30, l30, y30, z30⟩, st30⟩ := superBack Y B.1 hZ (y := mn38) hown (ow190 hw) (own_same (ow191 hw) (ow103 hw) rfl (by decide)) (ow191 hw) (ow85 hw) (by decide) (backOf (W := 0) (rm_asbappJ1 l Z a0 hw [] b v kv cap cs on ko G1 h0 n0 (Nat.le_trans Z0 (Nat.le_refl _)) B0 B1 B2 B3 B4 B5 HMC HNC HCS g_b OS1 OD1 O2 P5 X00) hZ (ow193 hw) (ow60 hw) (by decide) (by decide)) e0 (Ins.self B0) (g := (mkF m 2 #[rv b, .val (.long (7 : Int64)), .second] [(.long (7 : Int64)), (.ref b)])) rfl (by rw [hml]; rfl) (ow193 hw) (argsL := [(.long (7 : Int64))]) (rest := []) (lenOf opd_25 rfl) rfl (by show 2 * 0 + _ ≤ _; exact Nat.le_of_eq rfl) (hb B.2 o465.1) (fun _ _ => ⟨rfl, e0, (by decide : 0 + 1 ≤ _), (by decide : 0 + 70 ≤ _)⟩)
  dsimp only [Pt.U, Pt.locs, Pt.cells, Pt.slots] at Y l30 y30 z30 st30 hQ30
  subst l30 y30 z30
  obtain ⟨tn_30, kn_30, rfl, N30q, K30q, P30_0, P30_1, P30_2, P30_3, P30_4, P30_5, P30_6⟩ := hQ30
  have N30 := Fr.app N0 N30q
  refine Go.tr st30 ?_
  have K31 := K0.trans K30q (allS (Or.inl (List.mem_of_getElem? (i := 0) rfl)) all0)
  have O31 := X00.keep K30q (allS g_b all0)
  refine zpop Y B o466 rfl <| zalN Y B o467 rfl ?_
  exact zrR Y B hret rfl rfl rfl hlk o468 rfl ⟨tn_30, kn_30, rfl, N30, K31, (Nat.le_trans (Nat.le_refl _) P30_0), P30_1, P30_2, P30_3, P30_4, P30_5, P30_6⟩ rfl rfl
def Q_pick (Z : State) (x : Int32) (h0 : Heap) (n0 : Nat) : QT := fun rv hE LE => ∃ u : Int32, rv = some (.int u) ∧ Fr n0 LE ∧ hE = h0 ∧ (¬ u < 0 ∧ ¬ (255 : Int32) < u)
theorem rm_pick (l : Launch) (Z : State) (a0 : Array Value) (hw : HW a0 Z) (ws : List Jvm.Cond) (x : Int32) (h0 : Heap) (n0 : Nat) (Z0 : n0 ≤ h0.size)  :
    MF l Z mn40 (Jvm.Cond.code mn40 cB40 2 (Option.some Jvm.ClassFile.FieldType.char)) ws Ro0 #[(.int x)] h0 (Q_pick Z x h0 n0) := by
  refine MF.of ss16 rfl #[iv x, un] (plainFor_of_name opn_8) (fun _ => rfl) ?_
  intro p e s m below meth c _ hZ hh B hml hret hlk hown hnm Y e0
  have N0 := Fr.nil n0
  refine zilN Y B o469 rfl <| zc3 Y B o470 <| ziand Y B o471 rfl ?_
  rcases (mask3c x : (x &&& (3 : Int32)) = (0 : Int32) ∨ (x &&& (3 : Int32)) = (1 : Int32) ∨ (x &&& (3 : Int32)) = (2 : Int32) ∨ (x &&& (3 : Int32)) = (3 : Int32)) with hk30 | hk30 | hk30 | hk30
  · rw [hk30]
    refine zisN Y B o472 (s1 rfl) <| zilN Y B o473 rfl <| zN Y B o474 (by decide) ?_
    refine zbp Y B o475 (v := 92) rfl ?_
    exact zrN Y B (t := .char) hret (by simp) hlk o476 e0 ⟨(92 : Int32), rfl, N0, rfl, (by decide)⟩ rfl rfl
  · rw [hk30]
    refine zisN Y B o472 (s1 rfl) <| zilN Y B o473 rfl <| zY Y B j26 (by decide) ?_
    refine zilN Y B o477 rfl <| zc1 Y B o478 <| zCN Y B o479 (by decide) ?_
    refine zbp Y B o480 (v := 34) rfl ?_
    exact zrN Y B (t := .char) hret (by simp) hlk o481 e0 ⟨(34 : Int32), rfl, N0, rfl, (by decide)⟩ rfl rfl
  · rw [hk30]
    refine zisN Y B o472 (s1 rfl) <| zilN Y B o473 rfl <| zY Y B j26 (by decide) ?_
    refine zilN Y B o477 rfl <| zc1 Y B o478 <| zCY Y B j27 (by decide) ?_
    refine zilN Y B o482 rfl <| zc2 Y B o483 <| zCN Y B o484 (by decide) ?_
    refine zbp Y B o485 (v := 10) rfl ?_
    exact zrN Y B (t := .char) hret (by simp) hlk o486 e0 ⟨(10 : Int32), rfl, N0, rfl, (by decide)⟩ rfl rfl
  · rw [hk30]
    refine zisN Y B o472 (s1 rfl) <| zilN Y B o473 rfl <| zY Y B j26 (by decide) ?_
    refine zilN Y B o477 rfl <| zc1 Y B o478 <| zCY Y B j27 (by decide) ?_
    refine zilN Y B o482 rfl <| zc2 Y B o483 <| zCY Y B j28 (by decide) ?_
    refine zilN Y B o487 rfl <| zc2 Y B o488 <| ziushr Y B o489 rfl <| zsp Y B o490 (v := 255) rfl <| ziand Y B o491 rfl <| zi2c Y B o492 rfl ?_
    exact zrN Y B (t := .char) hret (by simp) hlk o493 e0 ⟨((((x.toUInt32 >>> ((2 : Int32) &&& 31).toUInt32).toInt32) &&& (255 : Int32)).toUInt32.toUInt16.toUInt32.toInt32), (by rw [(lo_back (ch_lo ((x.toUInt32 >>> ((2 : Int32) &&& 31).toUInt32).toInt32))).2]), N0, rfl, (ch_lo ((x.toUInt32 >>> ((2 : Int32) &&& 31).toUInt32).toInt32))⟩ rfl rfl
def Q_ch (Z : State) (x t : Addr) (kt : ClassId) (ds : List Int32) (o : Nat) (u G1 : Int32) (G3 : Value) (h0 : Heap) (n0 : Nat) : QT := fun rv hE LE => rv = some (.int 1) ∧ Fr n0 LE ∧ hE = h0
theorem rm_ch (l : Launch) (Z : State) (a0 : Array Value) (hw : HW a0 Z) (ws : List Jvm.Cond) (x t : Addr) (kt : ClassId) (ds : List Int32) (o : Nat) (u G1 : Int32) (G3 : Value) (h0 : Heap) (n0 : Nat) (Z0 : n0 ≤ h0.size) (S0 : Exa Z h0 x ss0) (S1 : Fld Z h0 x ss0 ss2 "B" (.int 0)) (S2 : Fld Z h0 x ss0 ss3 "[B" (.ref t)) (S3 : Arv Z h0 t kt .byte (Int32.ofNat ds.length) (B8 ds) (.int 0)) (HS : SubT ds o [u]) (HLO : Lo ds) (HB : ds.length < 1000) (O2 : Sta Z Z.heap ss0 ss7 "Z" (.int G1)) (P5 : ¬ (G1 = (0 : Int32))) (X00 : Old Z n0 h0) (O4 : Sta Z Z.heap ss10 ss12 ss13 G3) (rG3 : G3.isRef = true) :
    MF l Z mn41 (Jvm.Cond.code mn41 cB41 3 (Option.some Jvm.ClassFile.FieldType.boolean)) ws Ro31 #[(.ref x), (.int (Int32.ofNat o)), (.int u)] h0 (Q_ch Z x t kt ds o u G1 G3 h0 n0) := by
  refine MF.of ss16 rfl #[rv x, iv (Int32.ofNat o), iv u] (plainFor_of_name opn_8) (fun _ => rfl) ?_
  intro p e s m below meth c _ hZ hh B hml hret hlk hown hnm Y e0
  have N0 := Fr.nil n0
  have hl := HS.len
  have hl' : o + 1 ≤ ds.length := hl
  refine zilN Y B o494 rfl ?_
  refine zN Y B o495 ((if0 _ _).trans (flt (show ¬ ((Int32.ofNat o) < (0 : Int32)) from (on_pos (by omega)))).1) ?_
  refine zilN Y B o496 rfl <| zalN Y B o497 rfl ?_
  refine zcv Y B hZ hown (ow255 hw) (ow89 hw) (notFace_of_selects (args := #[]) (mvT hZ (ow91 hw))) (ow91 hw) (ow90 hw) (ow2 hw) (ow92 hw) (by decide) S0 (rm_slen l Z a0 hw [] x t kt ds G1 h0 n0 (Nat.le_trans Z0 (Nat.le_refl _)) S0 S1 S2 S3 O2 P5 X00) e0 hml opd_10 rfl o498 rfl rfl rfl rfl rfl fun _ T30 _ Y hQ => ?_
  obtain ⟨rfl, N30q, e30⟩ := hQ
  have N30 := Fr.app N0 N30q
  refine zCN Y B o499 (tlt (show (Int32.ofNat o) < (Int32.ofNat ds.length) from (on_lt (by omega) (by omega)))).2.1 ?_
  refine zalN Y B o500 rfl <| zilN Y B o501 rfl ?_
  refine zcv Y B hZ hown (ow256 hw) (ow257 hw) (notFace_of_selects (args := #[]) (mvT hZ (ow259 hw))) (ow259 hw) (ow258 hw) (ow2 hw) (ow260 hw) (by decide) S0 (rm_schar l Z a0 hw [] x t kt ds o G1 G3 h0 n0 (Nat.le_trans Z0 (Nat.le_refl _)) S0 S1 S2 S3 HLO (by omega) (by omega) O2 P5 X00 O4 rG3) e30 hml opd_26 rfl o502 rfl rfl rfl rfl rfl fun _ T31 _ Y hQ => ?_
  obtain ⟨rfl, N31q, e31⟩ := hQ
  have N31 := Fr.app N30 N31q
  refine zilN Y B o503 rfl ?_
  refine zCN Y B o504 (teq (show (ds.getD o 0) = u from HS.get)).2 ?_
  refine zc1 Y B o505 <| zgo Y B j29 ?_
  exact zrN Y B (t := .boolean) hret (by simp) hlk o506 e31 ⟨rfl, N31, rfl⟩ rfl rfl
def Q_at (Z : State) (x t : Addr) (kt : ClassId) (ds : List Int32) (o : Nat) (y ty : Addr) (ky : ClassId) (es : List Int32) (j : Nat) (G1 : Int32) (G3 : Value) (h0 : Heap) (n0 : Nat) : QT := fun rv hE LE => rv = some (.int 1) ∧ Fr n0 LE ∧ hE = h0
theorem rm_at (l : Launch) (Z : State) (a0 : Array Value) (hw : HW a0 Z) (ws : List Jvm.Cond) (x t : Addr) (kt : ClassId) (ds : List Int32) (o : Nat) (y ty : Addr) (ky : ClassId) (es : List Int32) (j : Nat) (G1 : Int32) (G3 : Value) (h0 : Heap) (n0 : Nat) (Z0 : n0 ≤ h0.size) (S0 : Exa Z h0 x ss0) (S1 : Fld Z h0 x ss0 ss2 "B" (.int 0)) (S2 : Fld Z h0 x ss0 ss3 "[B" (.ref t)) (S3 : Arv Z h0 t kt .byte (Int32.ofNat ds.length) (B8 ds) (.int 0)) (U0 : Exa Z h0 y ss0) (U1 : Fld Z h0 y ss0 ss2 "B" (.int 0)) (U2 : Fld Z h0 y ss0 ss3 "[B" (.ref ty)) (U3 : Arv Z h0 ty ky .byte (Int32.ofNat es.length) (B8 es) (.int 0)) (HS : SubT ds o es) (HLO : Lo ds) (HLE : Lo es) (HB : ds.length < 1000) (HJ : j < 9) (O2 : Sta Z Z.heap ss0 ss7 "Z" (.int G1)) (P5 : ¬ (G1 = (0 : Int32))) (X00 : Old Z n0 h0) (O4 : Sta Z Z.heap ss10 ss12 ss13 G3) (rG3 : G3.isRef = true) :
    MF l Z mn42 (Jvm.Cond.code mn42 cB42 4 (Option.some Jvm.ClassFile.FieldType.boolean)) ws Ro32 #[(.ref x), (.int (Int32.ofNat o)), (.ref y), (.int (Int32.ofNat j))] h0 (Q_at Z x t kt ds o y ty ky es j G1 G3 h0 n0) := by
  refine MF.of ss16 rfl #[rv x, iv (Int32.ofNat o), rv y, iv (Int32.ofNat j)] (plainFor_of_name opn_8) (fun _ => rfl) ?_
  intro p e s m below meth c _ hZ hh B hml hret hlk hown hnm Y e0
  have N0 := Fr.nil n0
  have hl := HS.len
  refine zilN Y B o507 rfl <| zalN Y B o508 rfl ?_
  refine zcv Y B hZ hown (ow255 hw) (ow89 hw) (notFace_of_selects (args := #[]) (mvT hZ (ow91 hw))) (ow91 hw) (ow90 hw) (ow2 hw) (ow92 hw) (by decide) U0 (rm_slen l Z a0 hw [] y ty ky es G1 h0 n0 (Nat.le_trans Z0 (Nat.le_refl _)) U0 U1 U2 U3 O2 P5 X00) e0 hml opd_10 rfl o509 rfl rfl rfl rfl rfl fun _ T30 _ Y hQ => ?_
  obtain ⟨rfl, N30q, e30⟩ := hQ
  have N30 := Fr.app N0 N30q
  by_cases h1 : (Int32.ofNat j) < (Int32.ofNat es.length)
  · refine zCN Y B o510 (tlt h1).2.1 ?_
    have q1 := (lt_on (by omega) (by omega)).mp h1
    refine zalN Y B o513 rfl <| zilN Y B o514 rfl <| zilN Y B o515 rfl <| ziadd Y B o516 rfl ?_
    rw [show ((Int32.ofNat o) + (Int32.ofNat j)) = (Int32.ofNat (o + j)) from (on_add _ _)]
    refine zalN Y B o517 rfl <| zilN Y B o518 rfl ?_
    refine zcv Y B hZ hown (ow256 hw) (ow257 hw) (notFace_of_selects (args := #[]) (mvT hZ (ow259 hw))) (ow259 hw) (ow258 hw) (ow2 hw) (ow260 hw) (by decide) U0 (rm_schar l Z a0 hw [] y ty ky es j G1 G3 h0 n0 (Nat.le_trans Z0 (Nat.le_refl _)) U0 U1 U2 U3 (HLE) (q1) (by omega) O2 P5 X00 O4 rG3) e30 hml opd_26 rfl o519 rfl rfl rfl rfl rfl fun _ T31 _ Y hQ => ?_
    obtain ⟨rfl, N31q, e31⟩ := hQ
    have N31 := Fr.app N30 N31q
    refine zcs Y B hZ hown (ow277 hw) (ow278 hw) (ow33 hw) (ow279 hw) (by decide) (rm_ch l Z a0 hw [] x t kt ds (o + j) (es.getD j 0) G1 G3 h0 n0 (Nat.le_trans Z0 (Nat.le_refl _)) S0 S1 S2 S3 (HS.at q1) HLO HB O2 P5 X00 O4 rG3) e31 hml opd_27 rfl o520 rfl rfl rfl rfl rfl fun _ T32 _ Y hQ => ?_
    obtain ⟨rfl, N32q, e32⟩ := hQ
    have N32 := Fr.app N31 N32q
    refine zN Y B o521 (by decide) ?_
    refine zc1 Y B o511 <| zgo Y B j31 ?_
    exact zrN Y B (t := .boolean) hret (by simp) hlk o512 e32 ⟨rfl, N32, rfl⟩ rfl rfl
  · refine zCY Y B j30 (flt h1).2.1 ?_
    refine zc1 Y B o511 <| zgo Y B j31 ?_
    exact zrN Y B (t := .boolean) hret (by simp) hlk o512 e30 ⟨rfl, N30, rfl⟩ rfl rfl
def Q_eqlit (Z : State) (x t : Addr) (kt : ClassId) (ds : List Int32) (o : Nat) (y ty : Addr) (ky : ClassId) (es : List Int32) (G1 : Int32) (G3 : Value) (h0 : Heap) (n0 : Nat) : QT := fun rv hE LE => rv = some (.int 1) ∧ Fr n0 LE ∧ hE = h0
theorem rm_eqlit (l : Launch) (Z : State) (a0 : Array Value) (hw : HW a0 Z) (ws : List Jvm.Cond) (x t : Addr) (kt : ClassId) (ds : List Int32) (o : Nat) (y ty : Addr) (ky : ClassId) (es : List Int32) (G1 : Int32) (G3 : Value) (h0 : Heap) (n0 : Nat) (Z0 : n0 ≤ h0.size) (S0 : Exa Z h0 x ss0) (S1 : Fld Z h0 x ss0 ss2 "B" (.int 0)) (S2 : Fld Z h0 x ss0 ss3 "[B" (.ref t)) (S3 : Arv Z h0 t kt .byte (Int32.ofNat ds.length) (B8 ds) (.int 0)) (U0 : Exa Z h0 y ss0) (U1 : Fld Z h0 y ss0 ss2 "B" (.int 0)) (U2 : Fld Z h0 y ss0 ss3 "[B" (.ref ty)) (U3 : Arv Z h0 ty ky .byte (Int32.ofNat es.length) (B8 es) (.int 0)) (HS : SubT ds o es) (HLO : Lo ds) (HLE : Lo es) (HB : ds.length < 1000) (O2 : Sta Z Z.heap ss0 ss7 "Z" (.int G1)) (P5 : ¬ (G1 = (0 : Int32))) (X00 : Old Z n0 h0) (O4 : Sta Z Z.heap ss10 ss12 ss13 G3) (rG3 : G3.isRef = true) :
    MF l Z mn43 (Jvm.Cond.code mn43 cB43 3 (Option.some Jvm.ClassFile.FieldType.boolean)) ws Ro33 #[(.ref x), (.int (Int32.ofNat o)), (.ref y)] h0 (Q_eqlit Z x t kt ds o y ty ky es G1 G3 h0 n0) := by
  refine MF.of ss16 rfl #[rv x, iv (Int32.ofNat o), rv y] (plainFor_of_name opn_8) (fun _ => rfl) ?_
  intro p e s m below meth c _ hZ hh B hml hret hlk hown hnm Y e0
  have N0 := Fr.nil n0
  refine zalN Y B o522 rfl <| zilN Y B o523 rfl <| zalN Y B o524 rfl <| zc0 Y B o525 ?_
  refine zcs Y B hZ hown (ow252 hw) (ow253 hw) (ow33 hw) (ow254 hw) (by decide) (rm_at l Z a0 hw [] x t kt ds o y ty ky es 0 G1 G3 h0 n0 (Nat.le_trans Z0 (Nat.le_refl _)) S0 S1 S2 S3 U0 U1 U2 U3 HS HLO HLE HB (by decide) O2 P5 X00 O4 rG3) e0 hml opd_28 rfl o526 rfl rfl rfl rfl rfl fun _ T30 _ Y hQ => ?_
  obtain ⟨rfl, N30q, e30⟩ := hQ
  have N30 := Fr.app N0 N30q
  refine zN Y B o527 (by decide) ?_
  refine zalN Y B o528 rfl <| zilN Y B o529 rfl <| zalN Y B o530 rfl <| zc1 Y B o531 ?_
  refine zcs Y B hZ hown (ow252 hw) (ow253 hw) (ow33 hw) (ow254 hw) (by decide) (rm_at l Z a0 hw [] x t kt ds o y ty ky es 1 G1 G3 h0 n0 (Nat.le_trans Z0 (Nat.le_refl _)) S0 S1 S2 S3 U0 U1 U2 U3 HS HLO HLE HB (by decide) O2 P5 X00 O4 rG3) e30 hml opd_28 rfl o532 rfl rfl rfl rfl rfl fun _ T31 _ Y hQ => ?_
  obtain ⟨rfl, N31q, e31⟩ := hQ
  have N31 := Fr.app N30 N31q
  refine zN Y B o533 (by decide) ?_
  refine zalN Y B o534 rfl <| zilN Y B o535 rfl <| zalN Y B o536 rfl <| zc2 Y B o537 ?_
  refine zcs Y B hZ hown (ow252 hw) (ow253 hw) (ow33 hw) (ow254 hw) (by decide) (rm_at l Z a0 hw [] x t kt ds o y ty ky es 2 G1 G3 h0 n0 (Nat.le_trans Z0 (Nat.le_refl _)) S0 S1 S2 S3 U0 U1 U2 U3 HS HLO HLE HB (by decide) O2 P5 X00 O4 rG3) e31 hml opd_28 rfl o538 rfl rfl rfl rfl rfl fun _ T32 _ Y hQ => ?_
  obtain ⟨rfl, N32q, e32⟩ := hQ
  have N32 := Fr.app N31 N32q
  refine zN Y B o539 (by decide) ?_
  refine zalN Y B o540 rfl <| zilN Y B o541 rfl <| zalN Y B o542 rfl <| zc3 Y B o543 ?_
  refine zcs Y B hZ hown (ow252 hw) (ow253 hw) (ow33 hw) (ow254 hw) (by decide) (rm_at l Z a0 hw [] x t kt ds o y ty ky es 3 G1 G3 h0 n0 (Nat.le_trans Z0 (Nat.le_refl _)) S0 S1 S2 S3 U0 U1 U2 U3 HS HLO HLE HB (by decide) O2 P5 X00 O4 rG3) e32 hml opd_28 rfl o544 rfl rfl rfl rfl rfl fun _ T33 _ Y hQ => ?_
  obtain ⟨rfl, N33q, e33⟩ := hQ
  have N33 := Fr.app N32 N33q
  refine zN Y B o545 (by decide) ?_
  refine zalN Y B o546 rfl <| zilN Y B o547 rfl <| zalN Y B o548 rfl <| zc4 Y B o549 ?_
  refine zcs Y B hZ hown (ow252 hw) (ow253 hw) (ow33 hw) (ow254 hw) (by decide) (rm_at l Z a0 hw [] x t kt ds o y ty ky es 4 G1 G3 h0 n0 (Nat.le_trans Z0 (Nat.le_refl _)) S0 S1 S2 S3 U0 U1 U2 U3 HS HLO HLE HB (by decide) O2 P5 X00 O4 rG3) e33 hml opd_28 rfl o550 rfl rfl rfl rfl rfl fun _ T34 _ Y hQ => ?_
  obtain ⟨rfl, N34q, e34⟩ := hQ
  have N34 := Fr.app N33 N34q
  refine zN Y B o551 (by decide) ?_
  refine zalN Y B o552 rfl <| zilN Y B o553 rfl <| zalN Y B o554 rfl <| zc5 Y B o555 ?_
  refine zcs Y B hZ hown (ow252 hw) (ow253 hw) (ow33 hw) (ow254 hw) (by decide) (rm_at l Z a0 hw [] x t kt ds o y ty ky es 5 G1 G3 h0 n0 (Nat.le_trans Z0 (Nat.le_refl _)) S0 S1 S2 S3 U0 U1 U2 U3 HS HLO HLE HB (by decide) O2 P5 X00 O4 rG3) e34 hml opd_28 rfl o556 rfl rfl rfl rfl rfl fun _ T35 _ Y hQ => ?_
  obtain ⟨rfl, N35q, e35⟩ := hQ
  have N35 := Fr.app N34 N35q
  refine zN Y B o557 (by decide) ?_
  refine zalN Y B o558 rfl <| zilN Y B o559 rfl <| zalN Y B o560 rfl <| zbp Y B o561 (v := 6) rfl ?_
  refine zcs Y B hZ hown (ow252 hw) (ow253 hw) (ow33 hw) (ow254 hw) (by decide) (rm_at l Z a0 hw [] x t kt ds o y ty ky es 6 G1 G3 h0 n0 (Nat.le_trans Z0 (Nat.le_refl _)) S0 S1 S2 S3 U0 U1 U2 U3 HS HLO HLE HB (by decide) O2 P5 X00 O4 rG3) e35 hml opd_28 rfl o562 rfl rfl rfl rfl rfl fun _ T36 _ Y hQ => ?_
  obtain ⟨rfl, N36q, e36⟩ := hQ
  have N36 := Fr.app N35 N36q
  refine zN Y B o563 (by decide) ?_
  refine zalN Y B o564 rfl <| zilN Y B o565 rfl <| zalN Y B o566 rfl <| zbp Y B o567 (v := 7) rfl ?_
  refine zcs Y B hZ hown (ow252 hw) (ow253 hw) (ow33 hw) (ow254 hw) (by decide) (rm_at l Z a0 hw [] x t kt ds o y ty ky es 7 G1 G3 h0 n0 (Nat.le_trans Z0 (Nat.le_refl _)) S0 S1 S2 S3 U0 U1 U2 U3 HS HLO HLE HB (by decide) O2 P5 X00 O4 rG3) e36 hml opd_28 rfl o568 rfl rfl rfl rfl rfl fun _ T37 _ Y hQ => ?_
  obtain ⟨rfl, N37q, e37⟩ := hQ
  have N37 := Fr.app N36 N37q
  refine zN Y B o569 (by decide) ?_
  refine zalN Y B o570 rfl <| zilN Y B o571 rfl <| zalN Y B o572 rfl <| zbp Y B o573 (v := 8) rfl ?_
  refine zcs Y B hZ hown (ow252 hw) (ow253 hw) (ow33 hw) (ow254 hw) (by decide) (rm_at l Z a0 hw [] x t kt ds o y ty ky es 8 G1 G3 h0 n0 (Nat.le_trans Z0 (Nat.le_refl _)) S0 S1 S2 S3 U0 U1 U2 U3 HS HLO HLE HB (by decide) O2 P5 X00 O4 rG3) e37 hml opd_28 rfl o574 rfl rfl rfl rfl rfl fun _ T38 _ Y hQ => ?_
  obtain ⟨rfl, N38q, e38⟩ := hQ
  have N38 := Fr.app N37 N38q
  refine zN Y B o575 (by decide) ?_
  refine zc1 Y B o576 <| zgo Y B j32 ?_
  exact zrN Y B (t := .boolean) hret (by simp) hlk o577 e38 ⟨rfl, N38, rfl⟩ rfl rfl
def Q_esc (Z : State) (x t : Addr) (kt : ClassId) (ds : List Int32) (o : Nat) (u G1 : Int32) (G3 : Value) (h0 : Heap) (n0 : Nat) : QT := fun rv hE LE => rv = some (.int 1) ∧ Fr n0 LE ∧ hE = h0
theorem rm_esc (l : Launch) (Z : State) (a0 : Array Value) (hw : HW a0 Z) (ws : List Jvm.Cond) (x t : Addr) (kt : ClassId) (ds : List Int32) (o : Nat) (u G1 : Int32) (G3 : Value) (h0 : Heap) (n0 : Nat) (Z0 : n0 ≤ h0.size) (S0 : Exa Z h0 x ss0) (S1 : Fld Z h0 x ss0 ss2 "B" (.int 0)) (S2 : Fld Z h0 x ss0 ss3 "[B" (.ref t)) (S3 : Arv Z h0 t kt .byte (Int32.ofNat ds.length) (B8 ds) (.int 0)) (HS : SubT ds o (esc1 u)) (HLO : Lo ds) (HB : ds.length < 1000) (O2 : Sta Z Z.heap ss0 ss7 "Z" (.int G1)) (P5 : ¬ (G1 = (0 : Int32))) (X00 : Old Z n0 h0) (O4 : Sta Z Z.heap ss10 ss12 ss13 G3) (rG3 : G3.isRef = true) :
    MF l Z mn44 (Jvm.Cond.code mn44 cB44 3 (Option.some Jvm.ClassFile.FieldType.boolean)) ws Ro32 #[(.ref x), (.int (Int32.ofNat o)), (.int u)] h0 (Q_esc Z x t kt ds o u G1 G3 h0 n0) := by
  refine MF.of ss16 rfl #[rv x, iv (Int32.ofNat o), iv u] (plainFor_of_name opn_8) (fun _ => rfl) ?_
  intro p e s m below meth c _ hZ hh B hml hret hlk hown hnm Y e0
  have N0 := Fr.nil n0
  refine zilN Y B o578 rfl <| zbp Y B o579 (v := 92) rfl ?_
  by_cases h1 : u = (92 : Int32)
  · refine zCN Y B o580 (teq h1).2 ?_
    have hS := HS; rw [esc_bs h1] at hS
    refine zalN Y B o581 rfl <| zilN Y B o582 rfl <| zbp Y B o583 (v := 92) rfl ?_
    refine zcs Y B hZ hown (ow277 hw) (ow278 hw) (ow33 hw) (ow279 hw) (by decide) (rm_ch l Z a0 hw [] x t kt ds o (92 : Int32) G1 G3 h0 n0 (Nat.le_trans Z0 (Nat.le_refl _)) S0 S1 S2 S3 (hS.left) HLO HB O2 P5 X00 O4 rG3) e0 hml opd_27 rfl o584 rfl rfl rfl rfl rfl fun _ T30 _ Y hQ => ?_
    obtain ⟨rfl, N30q, e30⟩ := hQ
    have N30 := Fr.app N0 N30q
    refine zN Y B o585 (by decide) ?_
    refine zalN Y B o586 rfl <| zilN Y B o587 rfl <| zc1 Y B o588 <| ziadd Y B o589 rfl ?_
    rw [show ((Int32.ofNat o) + (1 : Int32)) = (Int32.ofNat (o + 1)) from (on_add _ 1)]
    refine zbp Y B o590 (v := 92) rfl ?_
    refine zcs Y B hZ hown (ow277 hw) (ow278 hw) (ow33 hw) (ow279 hw) (by decide) (rm_ch l Z a0 hw [] x t kt ds (o + 1) (92 : Int32) G1 G3 h0 n0 (Nat.le_trans Z0 (Nat.le_refl _)) S0 S1 S2 S3 (hS.right) HLO HB O2 P5 X00 O4 rG3) e30 hml opd_27 rfl o591 rfl rfl rfl rfl rfl fun _ T31 _ Y hQ => ?_
    obtain ⟨rfl, N31q, e31⟩ := hQ
    have N31 := Fr.app N30 N31q
    refine zN Y B o592 (by decide) ?_
    refine zc1 Y B o593 <| zgo Y B j34 ?_
    exact zrN Y B (t := .boolean) hret (by simp) hlk o594 e31 ⟨rfl, N31, rfl⟩ rfl rfl
  · refine zCY Y B j33 (feq h1).2 ?_
    refine zilN Y B o595 rfl <| zbp Y B o596 (v := 10) rfl ?_
    by_cases h2 : u = (10 : Int32)
    · refine zCN Y B o597 (teq h2).2 ?_
      have hS := HS; rw [esc_nl h1 h2] at hS
      refine zalN Y B o598 rfl <| zilN Y B o599 rfl <| zbp Y B o600 (v := 92) rfl ?_
      refine zcs Y B hZ hown (ow277 hw) (ow278 hw) (ow33 hw) (ow279 hw) (by decide) (rm_ch l Z a0 hw [] x t kt ds o (92 : Int32) G1 G3 h0 n0 (Nat.le_trans Z0 (Nat.le_refl _)) S0 S1 S2 S3 (hS.left) HLO HB O2 P5 X00 O4 rG3) e0 hml opd_27 rfl o601 rfl rfl rfl rfl rfl fun _ T32 _ Y hQ => ?_
      obtain ⟨rfl, N32q, e32⟩ := hQ
      have N32 := Fr.app N0 N32q
      refine zN Y B o602 (by decide) ?_
      refine zalN Y B o603 rfl <| zilN Y B o604 rfl <| zc1 Y B o605 <| ziadd Y B o606 rfl ?_
      rw [show ((Int32.ofNat o) + (1 : Int32)) = (Int32.ofNat (o + 1)) from (on_add _ 1)]
      refine zbp Y B o607 (v := 110) rfl ?_
      refine zcs Y B hZ hown (ow277 hw) (ow278 hw) (ow33 hw) (ow279 hw) (by decide) (rm_ch l Z a0 hw [] x t kt ds (o + 1) (110 : Int32) G1 G3 h0 n0 (Nat.le_trans Z0 (Nat.le_refl _)) S0 S1 S2 S3 (hS.right) HLO HB O2 P5 X00 O4 rG3) e32 hml opd_27 rfl o608 rfl rfl rfl rfl rfl fun _ T33 _ Y hQ => ?_
      obtain ⟨rfl, N33q, e33⟩ := hQ
      have N33 := Fr.app N32 N33q
      refine zN Y B o609 (by decide) ?_
      refine zc1 Y B o610 <| zgo Y B j36 ?_
      exact zrN Y B (t := .boolean) hret (by simp) hlk o611 e33 ⟨rfl, N33, rfl⟩ rfl rfl
    · refine zCY Y B j35 (feq h2).2 ?_
      refine zalN Y B o612 rfl <| zilN Y B o613 rfl <| zilN Y B o614 rfl ?_
      refine zcs Y B hZ hown (ow277 hw) (ow278 hw) (ow33 hw) (ow279 hw) (by decide) (rm_ch l Z a0 hw [] x t kt ds o u G1 G3 h0 n0 (Nat.le_trans Z0 (Nat.le_refl _)) S0 S1 S2 S3 (by have q := HS; rw [esc_no h1 h2] at q; exact q) HLO HB O2 P5 X00 O4 rG3) e0 hml opd_27 rfl o615 rfl rfl rfl rfl rfl fun _ T34 _ Y hQ => ?_
      obtain ⟨rfl, N34q, e34⟩ := hQ
      have N34 := Fr.app N0 N34q
      exact zrN Y B (t := .boolean) hret (by simp) hlk o616 e34 ⟨rfl, N34, rfl⟩ rfl rfl
def Q_esclen (Z : State) (u : Int32) (h0 : Heap) (n0 : Nat) : QT := fun rv hE LE => rv = some (.int (Int32.ofNat (esc1 u).length)) ∧ Fr n0 LE ∧ hE = h0
theorem rm_esclen (l : Launch) (Z : State) (a0 : Array Value) (hw : HW a0 Z) (ws : List Jvm.Cond) (u : Int32) (h0 : Heap) (n0 : Nat) (Z0 : n0 ≤ h0.size)  :
    MF l Z mn45 (Jvm.Cond.code mn45 cB45 1 (Option.some Jvm.ClassFile.FieldType.int)) ws Ro0 #[(.int u)] h0 (Q_esclen Z u h0 n0) := by
  refine MF.of ss16 rfl #[iv u] (plainFor_of_name opn_8) (fun _ => rfl) ?_
  intro p e s m below meth c _ hZ hh B hml hret hlk hown hnm Y e0
  have N0 := Fr.nil n0
  refine zilN Y B o617 rfl <| zbp Y B o618 (v := 92) rfl ?_
  by_cases h1 : u = (92 : Int32)
  · refine zCY Y B j37 (teq h1).1 ?_
    refine zc2 Y B o620 <| zgo Y B j38 ?_
    exact zrI Y B hret hlk o621 e0 ⟨(by rw [esc_bs h1]; rfl), N0, rfl⟩ rfl rfl
  · refine zCN Y B o619 (feq h1).1 ?_
    refine zilN Y B o622 rfl <| zbp Y B o623 (v := 10) rfl ?_
    by_cases h2 : u = (10 : Int32)
    · refine zCN Y B o624 (teq h2).2 ?_
      refine zc2 Y B o620 <| zgo Y B j38 ?_
      exact zrI Y B hret hlk o621 e0 ⟨(by rw [esc_nl h1 h2]; rfl), N0, rfl⟩ rfl rfl
    · refine zCY Y B j39 (feq h2).2 ?_
      refine zc1 Y B o625 ?_
      exact zrI Y B hret hlk o621 e0 ⟨(by rw [esc_no h1 h2]; rfl), N0, rfl⟩ rfl rfl
def Q_ptinit (Z : State) (pg : Addr) (G1 : Int32) (h0 : Heap) (n0 : Nat) : QT := fun rv hE LE => ∃ b : Addr, ∃ v : Addr, ∃ kv : ClassId, rv = none ∧ Fr n0 LE ∧ Keep h0 hE [pg] ∧ (h0.size ≤ b) ∧ (h0.size ≤ v) ∧ (Exa Z hE pg ss6) ∧ (Fld Z hE pg ss6 "page" ss11 (.ref b)) ∧ (Fld Z hE pg ss6 ss18 ss9 .null) ∧ (Exa Z hE b ss4) ∧ (Fld Z hE b ss1 ss2 "B" (.int 0)) ∧ (Fld Z hE b ss1 ss3 "[B" (.ref v)) ∧ (Fld Z hE b ss1 ss5 "I" (.int (Int32.ofNat ([] : List Int32).length))) ∧ (Arv Z hE v kv .byte (Int32.ofNat 16) (B8 ([] : List Int32)) (.int 0)) ∧ (Exa Z hE v "[B")
theorem rm_ptinit (l : Launch) (Z : State) (a0 : Array Value) (hw : HW a0 Z) (ws : List Jvm.Cond) (pg : Addr) (G1 : Int32) (h0 : Heap) (n0 : Nat) (Z0 : n0 ≤ h0.size) (Q0 : Exa Z h0 pg ss6) (Q1 : Fld Z h0 pg ss6 "page" ss11 .null) (Q2 : Fld Z h0 pg ss6 ss18 ss9 .null) (g_pg : n0 ≤ pg) (O2 : Sta Z Z.heap ss0 ss7 "Z" (.int G1)) (P5 : ¬ (G1 = (0 : Int32))) (X00 : Old Z n0 h0) :
    MF l Z mn46 (Jvm.Cond.code mn46 cB46 1 (Option.none : Option Jvm.ClassFile.FieldType)) ws Ro34 #[(.ref pg)] h0 (Q_ptinit Z pg G1 h0 n0) := by
  refine MF.of ss6 rfl #[rv pg] (plainFor_of_name opn_9) (fun _ => rfl) ?_
  intro p e s m below meth c _ hZ hh B hml hret hlk hown hnm Y e0
  have N0 := Fr.nil n0
  have K0 := Keep.refl h0 [pg]
  refine zalN Y B o626 rfl ?_
  refine Go.a3 (initO Y B.1 hZ hown (ow49 hw) (ow12 hw) (ow13 hw) e0 rfl (by rw [hml]; rfl) rfl (hb B.2 o627.1) (by decide) (W := 0) (by show 2 * 0 + _ ≤ _; exact Nat.le_of_eq rfl) (by decide)) fun _ Y e30 => ?_
  refine zalN Y B o628 rfl ?_
  refine zno Y B hZ hown (ow50 hw) (ow51 hw) (ow52 hw) e30 o629 rfl rfl fun T31 h31 b31 g31 Y e31 E31 A31 D31 U31 => ?_
  have K32 := K0.ext E31
  have O32 := X00.ext E31
  refine zdup Y B o630 rfl ?_
  refine zci Y B hZ rfl hown (ow53 hw) (ow54 hw) (ow52 hw) (ow55 hw) (by decide) (rm_sbinit0 l Z a0 hw [] b31 G1 h31 n0 (Nat.le_trans Z0 K32.1) A31 (D31 (Or.inl (ow67 hw)) (ty := .byte) (by decide)) (D31 (Or.inl (ow65 hw)) (ty := (.array .byte)) (by decide)) (D31 (Or.inl (ow99 hw)) (ty := .int) (by decide)) ((Nat.le_trans (Nat.le_trans Z0 (Nat.le_refl _)) (Nat.le_of_eq g31.symm))) O2 P5 O32) e31 hml opd_29 rfl o631 rfl rfl rfl rfl rfl fun _ T33 _ Y hQ => ?_
  obtain ⟨v_33, kv_33, rfl, N33q, K33q, P33_0, P33_1, P33_2, P33_3, P33_4, P33_5, P33_6⟩ := hQ
  have N33 := Fr.app N0 N33q
  have K34 := K32.trans K33q (allS (Or.inr (Nat.le_trans (Nat.le_refl _) (Nat.le_of_eq g31.symm))) all0)
  have O34 := O32.keep K33q (allS (Nat.le_trans (Nat.le_trans Z0 (Nat.le_refl _)) (Nat.le_of_eq g31.symm)) all0)
  have F36 := ((Q1.ext E31).keep K33q (ninS (Nat.ne_of_lt (Nat.lt_of_lt_of_le Q0.lt (Nat.le_of_eq g31.symm))) nin0))
  have F37 := ((Q0.ext E31).keep K33q)
  refine Go.b3 (putF Y B.1 hZ hown (host := "") (Or.inl (ow68 hw)) Via.refl rfl F36 F37 (Or.inr ⟨(ow69 hw), rfl, hnm⟩) (ow44 hw) (ty := (.object ss4)) (by decide) rfl rfl rfl rfl (hb B.2 o632.1)) fun T35 h35 Y e35 W35 => ?_
  have N35 := Fr.snoc Y N33 g_pg
  have K38 := K34.wr W35 (Or.inl (List.mem_of_getElem? (i := 0) rfl))
  have O38 := O34.wr W35 g_pg
  have F39 := (F37.wr W35)
  have F40 := (((Q2.ext E31).keep K33q (ninS (Nat.ne_of_lt (Nat.lt_of_lt_of_le Q0.lt (Nat.le_of_eq g31.symm))) nin0)).other W35 (Or.inr (slot_ne (Or.inl (ow76 hw)) (Or.inr (ow69 hw)) (by decide) (t := (.object ss0)) (t' := (.object ss4)) (by decide) (by decide))))
  have F41 := (P33_1.wr W35)
  have F42 := (P33_2.other W35 (Or.inl (Ne.symm (Nat.ne_of_lt (Nat.lt_of_lt_of_le Q0.lt (Nat.le_of_eq g31.symm))))))
  have F43 := (P33_3.other W35 (Or.inl (Ne.symm (Nat.ne_of_lt (Nat.lt_of_lt_of_le Q0.lt (Nat.le_of_eq g31.symm))))))
  have F44 := (P33_4.other W35 (Or.inl (Ne.symm (Nat.ne_of_lt (Nat.lt_of_lt_of_le Q0.lt (Nat.le_of_eq g31.symm))))))
  have F45 := (P33_5.other W35 (Ne.symm (Nat.ne_of_lt (Nat.lt_of_lt_of_le (Q0.ext E31).lt P33_0))))
  have F46 := (P33_6.wr W35)
  exact zr0 Y B hret hlk o633 e35 ⟨b31, v_33, kv_33, rfl, N35, K38, (Nat.le_trans (Nat.le_refl _) (Nat.le_of_eq g31.symm)), (Nat.le_trans K32.1 P33_0), F39, (F36.same W35), F40, F41, F42, F43, F44, F45, F46⟩ rfl rfl
def Q_escd (Z : State) (pg b v : Addr) (kv : ClassId) (cs : List Int32) (x t : Addr) (kt : ClassId) (ds : List Int32) (G1 : Int32) (G3 : Value) (h0 : Heap) (n0 : Nat) : QT := fun rv hE LE => rv = none ∧ Fr n0 LE ∧ Keep h0 hE [b, v] ∧ (Exa Z hE b ss4) ∧ (Fld Z hE b ss1 ss2 "B" (.int 0)) ∧ (Fld Z hE b ss1 ss3 "[B" (.ref v)) ∧ (Fld Z hE b ss1 ss5 "I" (.int (Int32.ofNat (cs ++ escL ds).length))) ∧ (Arv Z hE v kv .byte (Int32.ofNat 16) (B8 (cs ++ escL ds)) (.int 0)) ∧ (Exa Z hE v "[B")
theorem rm_escd (l : Launch) (Z : State) (a0 : Array Value) (hw : HW a0 Z) (ws : List Jvm.Cond) (pg b v : Addr) (kv : ClassId) (cs : List Int32) (x t : Addr) (kt : ClassId) (ds : List Int32) (G1 : Int32) (G3 : Value) (h0 : Heap) (n0 : Nat) (Z0 : n0 ≤ h0.size) (Q0 : Exa Z h0 pg ss6) (Q1 : Fld Z h0 pg ss6 "page" ss11 (.ref b)) (B0 : Exa Z h0 b ss4) (B1 : Fld Z h0 b ss1 ss2 "B" (.int 0)) (B2 : Fld Z h0 b ss1 ss3 "[B" (.ref v)) (B3 : Fld Z h0 b ss1 ss5 "I" (.int (Int32.ofNat cs.length))) (B4 : Arv Z h0 v kv .byte (Int32.ofNat 16) (B8 cs) (.int 0)) (B5 : Exa Z h0 v "[B") (S0 : Exa Z h0 x ss0) (S1 : Fld Z h0 x ss0 ss2 "B" (.int 0)) (S2 : Fld Z h0 x ss0 ss3 "[B" (.ref t)) (S3 : Arv Z h0 t kt .byte (Int32.ofNat ds.length) (B8 ds) (.int 0)) (HC10 : cs.length = 10) (HD2 : ds.length ≤ 2) (HLO : Lo ds) (NVT : v ≠ t) (g_b : n0 ≤ b) (g_v : n0 ≤ v) (O2 : Sta Z Z.heap ss0 ss7 "Z" (.int G1)) (P5 : ¬ (G1 = (0 : Int32))) (X00 : Old Z n0 h0) (O4 : Sta Z Z.heap ss10 ss12 ss13 G3) (rG3 : G3.isRef = true) :
    MetFree l mn47 (head1 (Jvm.Cond.code mn47 cB47 5 (Option.none : Option Jvm.ClassFile.FieldType) :: ws) Ro35) (fun ar_ U => ar_ = #[(.ref pg), (.ref x), (.int 0)] ∧ Z.Warmed39 U.vm ∧ U.heap = h0 ∧ CHv Z EL U.vm h0) (fun _ _ _ _ _ => True) (fun _ U o_ U' => OutW Z EL U (Q_escd Z pg b v kv cs x t kt ds G1 G3 h0 n0) Ro35.cells Ro35.slots o_ U') := by
  refine MetFree.of_bodySF (plainFor_of_name opn_9) hisR ?_
  intro p e s m args below meth c s₁ Bd hml0 hP hK
  obtain ⟨rfl, hZ, hh, hCH⟩ := hP
  have B : HB p c _ := ⟨Bd.exec, Bd.bytes⟩
  have hml : c.maxLocals = 5 := hml0
  have hret := Bd.returns
  have hlk : meth.locks = false := BodyLoose.notSynchronized Bd
  have hown : s.vm.findClass ss6 = some m.cls := findClass_of_methodNamed Bd.named
  have hnm := (name_of_methodNamed Bd.named Bd.method).1
  have Y : Stand p l e Ro35 (s.setVm s.vm) m #[(.ref pg), (.ref x), (.int 0)] below meth c s₁ [] 0 0 := Stand.of_body Bd
  have e0 : s₁.heap = h0 := by rw [← hh, Bd.state]; rfl
  have N0 := Fr.nil n0
  have hS0 : s.Since s.vm h0.size := (State.WarmedH.refl s).since _
  have CR0 : CHr Z EL s.vm s.heap s.vm h0 := by rw [hh]; exact CHr.refl hCH
  have K0 : Keep h0 h0 [b, v] := Keep.refl h0 _
  show Go p e below (OutW Z EL s (Q_escd Z pg b v kv cs x t kt ds G1 G3 h0 n0) Ro35.cells Ro35.slots) s₁ (entryFrame m #[(.ref pg), (.ref x), (.int 0)] 5)
  refine Go.cast (oef_escd m pg x (0 : Int32)) ?_
  show Go p e below _ _ (mkF m 0 #[rv pg, rv x, iv 0, un, un] [])
  have Sfv : Safe Z EL s.vm h0 v := safe_len hZ (hEWs hw) B4 (by omega) (by omega)
  have E2 : ∀ (T30 : State) (LL30 : List Loc) (hP30 : Heap) (vm30 : Vm) (kk30 : Nat) (tx : List Int32) (cc : Int32), Stand p l e Ro35 (s.setVm vm30) m #[(.ref pg), (.ref x), (.int 0)] below meth c T30 LL30 4 24 → T30.heap = hP30 → Fr n0 LL30 → Keep h0 hP30 [b, v] → Old Z n0 hP30 → s.Since vm30 kk30 → kk30 ≤ hP30.size → Z.Warmed39 (s.setVm vm30).vm → (s.setVm vm30).vm.findClass ss6 = some m.cls → CHr Z EL s.vm h0 vm30 hP30 → (Exa Z hP30 b ss4) → (Fld Z hP30 b ss1 ss2 "B" (.int 0)) → (Fld Z hP30 b ss1 ss3 "[B" (.ref v)) → (Fld Z hP30 b ss1 ss5 "I" (.int (Int32.ofNat tx.length))) → (Arv Z hP30 v kv .byte (Int32.ofNat 16) (B8 tx) (.int 0)) → (Exa Z hP30 v "[B") → (tx = cs ++ escL (ds.take 2)) → (tx.length ≤ 10 + 2 * 2) → Go p e below (OutW Z EL s (Q_escd Z pg b v kv cs x t kt ds G1 G3 h0 n0) Ro35.cells Ro35.slots) T30 (mkF m 2 #[rv pg, rv x, iv 0, iv 2, iv cc] []) := by
    intro T30 LL30 hP30 vm30 kk30 tx cc Y e30 N30 KP30 OP30 hS30 hk30 hZ30 hown30 RP30 Bp0 Bp1 Bp2 Bp3 Bp4 Bp5 HU HL
    have CRP30 := CR0.trans RP30
    refine zilN Y B o634 rfl <| zalN Y B o635 rfl ?_
    have F32 := (S0.keep KP30)
    have F33 := (S1.keep KP30 (ninS (ne_exa S0 B0 (by decide)) (ninS (ne_exa S0 B5 (by decide)) nin0)))
    have F34 := (S2.keep KP30 (ninS (ne_exa S0 B0 (by decide)) (ninS (ne_exa S0 B5 (by decide)) nin0)))
    have F35 := (S3.keep KP30 (ninS (Ne.symm (ne_arv B0 (ow51 hw) S3)) (ninS (Ne.symm NVT) nin0)))
    refine zcv Y B hZ30 hown30 (ow147 hw) (ow89 hw) (notFace_of_selects (args := #[]) (mvT hZ30 (ow91 hw))) (ow91 hw) (ow90 hw) (ow2 hw) (ow92 hw) (by decide) F32 (rm_slen l Z a0 hw [] x t kt ds G1 hP30 n0 (Nat.le_trans Z0 KP30.1) F32 F33 F34 F35 O2 P5 OP30) e30 hml opd_10 rfl o636 rfl rfl rfl rfl rfl fun _ T31 _ Y hQ => ?_
    obtain ⟨rfl, N31q, e31⟩ := hQ
    have N31 := Fr.app N30 N31q
    refine zCY Y B j40 (flt (show ¬ ((2 : Int32) < (Int32.ofNat ds.length)) from (fun q => absurd ((lt_on (a := 2) (by decide) (by omega)).mp q) (by omega)))).2.1 ?_
    have hle : ds.length ≤ 2 := HD2
    obtain rfl : (cs ++ escL ds) = tx := (show tx = (cs ++ escL ds) from by rw [HU, List.take_of_length_le hle]).symm
    exact Go.ret0W Y B.1 hret hlk (hb B.2 o637.1) hS30 (by rw [e31]; exact (Nat.le_trans hk30 (Nat.le_refl _))) hZ30 (hEW hw) (by rw [e31]; exact CRP30) (by first | (rw [e31]; exact ⟨rfl, N31, KP30, Bp0, Bp1, Bp2, Bp3, Bp4, Bp5⟩) | exact ⟨rfl, N31, KP30, Bp0, Bp1, Bp2, Bp3, Bp4, Bp5⟩) (by decide) (by decide)
  have E1 : ∀ (T36 : State) (LL36 : List Loc) (hP36 : Heap) (vm36 : Vm) (kk36 : Nat) (tx : List Int32) (cc : Int32), Stand p l e Ro35 (s.setVm vm36) m #[(.ref pg), (.ref x), (.int 0)] below meth c T36 LL36 2 12 → T36.heap = hP36 → Fr n0 LL36 → Keep h0 hP36 [b, v] → Old Z n0 hP36 → s.Since vm36 kk36 → kk36 ≤ hP36.size → Z.Warmed39 (s.setVm vm36).vm → (s.setVm vm36).vm.findClass ss6 = some m.cls → CHr Z EL s.vm h0 vm36 hP36 → (Exa Z hP36 b ss4) → (Fld Z hP36 b ss1 ss2 "B" (.int 0)) → (Fld Z hP36 b ss1 ss3 "[B" (.ref v)) → (Fld Z hP36 b ss1 ss5 "I" (.int (Int32.ofNat tx.length))) → (Arv Z hP36 v kv .byte (Int32.ofNat 16) (B8 tx) (.int 0)) → (Exa Z hP36 v "[B") → (tx = cs ++ escL (ds.take 1)) → (tx.length ≤ 10 + 2 * 1) → Go p e below (OutW Z EL s (Q_escd Z pg b v kv cs x t kt ds G1 G3 h0 n0) Ro35.cells Ro35.slots) T36 (mkF m 2 #[rv pg, rv x, iv 0, iv 1, iv cc] []) := by
    intro T36 LL36 hP36 vm36 kk36 tx cc Y e36 N36 KP36 OP36 hS36 hk36 hZ36 hown36 RP36 Bp0 Bp1 Bp2 Bp3 Bp4 Bp5 HU HL
    have CRP36 := CR0.trans RP36
    refine zilN Y B o634 rfl <| zalN Y B o635 rfl ?_
    have F38 := (S0.keep KP36)
    have F39 := (S1.keep KP36 (ninS (ne_exa S0 B0 (by decide)) (ninS (ne_exa S0 B5 (by decide)) nin0)))
    have F40 := (S2.keep KP36 (ninS (ne_exa S0 B0 (by decide)) (ninS (ne_exa S0 B5 (by decide)) nin0)))
    have F41 := (S3.keep KP36 (ninS (Ne.symm (ne_arv B0 (ow51 hw) S3)) (ninS (Ne.symm NVT) nin0)))
    refine zcv Y B hZ36 hown36 (ow147 hw) (ow89 hw) (notFace_of_selects (args := #[]) (mvT hZ36 (ow91 hw))) (ow91 hw) (ow90 hw) (ow2 hw) (ow92 hw) (by decide) F38 (rm_slen l Z a0 hw [] x t kt ds G1 hP36 n0 (Nat.le_trans Z0 KP36.1) F38 F39 F40 F41 O2 P5 OP36) e36 hml opd_10 rfl o636 rfl rfl rfl rfl rfl fun _ T37 _ Y hQ => ?_
    obtain ⟨rfl, N37q, e37⟩ := hQ
    have N37 := Fr.app N36 N37q
    by_cases hj : (1 : Int32) < (Int32.ofNat ds.length)
    · refine zCN Y B o638 (tlt hj).2.1 ?_
      have hk : 1 < ds.length := (lt_on (a := 1) (by decide) (by omega)).mp hj
      refine zalN Y B o639 rfl <| zilN Y B o640 rfl ?_
      refine zcv Y B hZ36 hown36 (ow295 hw) (ow257 hw) (notFace_of_selects (args := #[]) (mvT hZ36 (ow259 hw))) (ow259 hw) (ow258 hw) (ow2 hw) (ow260 hw) (by decide) F38 (rm_schar l Z a0 hw [] x t kt ds 1 G1 G3 hP36 n0 (Nat.le_trans Z0 KP36.1) F38 F39 F40 F41 HLO (hk) (by omega) O2 P5 OP36 O4 rG3) e37 hml opd_26 rfl o641 rfl rfl rfl rfl rfl fun _ T42 _ Y hQ => ?_
      obtain ⟨rfl, N42q, e42⟩ := hQ
      have N42 := Fr.app N37 N42q
      refine zis Y B o642 (s4 rfl) <| zil Y B o643 rfl <| zbp Y B o644 (v := 92) rfl ?_
      by_cases h92 : (ds.getD 1 0) = (92 : Int32)
      · refine zCN Y B o645 (teq h92).2 ?_
        refine zalN Y B o646 rfl ?_
        have F44 := (Q1.keep KP36 (ninS (ne_exa Q0 B0 (by decide)) (ninS (ne_exa Q0 B5 (by decide)) nin0)))
        refine zgf Y B hZ36 hown36 (ow68 hw) Via.refl e42 F44 o647 fun _ Y e43 => ?_
        obtain ⟨sa45, T45, h45, k45, sb45, kb45, Y, e45, E45, hS45, hk45, hZ45, hown45, PE45, PC45, PV45, PA45, la45, lb45, R45, LT45, SF45, st45⟩ := ldcCH Y B.1 hZ36 hown36 (ow312 hw) (ostr hw) e43 hS36 (Nat.le_trans hk36 (Nat.le_refl _)) (hEW hw) (List.mem_of_getElem? (i := 3) rfl) CRP36.1 (vs := ((([92, 92] : List Int32).map (fun c => c.toInt8.toInt32)).map Value.int)) (z := (2 : Int32)) (by decide +kernel) (by decide) (by decide) (g := (mkF m 28 #[rv pg, rv x, iv 0, iv 1, iv (ds.getD 1 0)] [(.ref b)])) rfl (hb B.2 o648.1) (n := 8) (by decide) (by decide) (by decide) (by decide)
        refine Go.by st45 ?_
        have CR46 := CRP36.trans R45
        have K46 := KP36.ext E45
        have O46 := OP36.ext E45
        show Go p e below _ _ (mkF m 30 #[rv pg, rv x, iv 0, iv 1, iv (ds.getD 1 0)] [(.ref sa45), (.ref b)])
        have F48 := (Bp0.ext E45)
        have F49 := (Bp1.ext E45)
        have F50 := (Bp2.ext E45)
        have F51 := (Bp3.ext E45)
        have F52 := (Bp4.ext E45)
        have F53 := (Bp5.ext E45)
        refine zcv Y B hZ45 hown45 (ow78 hw) (ow79 hw) (notFace_of_selects (args := #[]) (mvT hZ45 (ow81 hw))) (ow81 hw) (ow80 hw) (ow52 hw) (ow82 hw) (by decide) F48 (rm_sbappS l Z a0 hw [] b v kv 16 tx sa45 sb45 kb45 BS2 G1 h45 n0 (Nat.le_trans Z0 K46.1) F48 F49 F50 F51 F52 F53 PE45 PC45 PV45 PA45 (by (try simp only [List.length_append, List.length_cons, List.length_nil, HELP_len, TYP_len, BS2_len, BSN_len]) <;> omega) (by decide) (g_v) (g_b) O2 P5 O46) e45 hml opd_30 rfl o649 rfl rfl rfl rfl rfl fun _ T47 _ Y hQ => ?_
        obtain ⟨rfl, N47q, K47q, P47_0, P47_1, P47_2, P47_3, P47_4, P47_5⟩ := hQ
        have N47 := Fr.app N42 N47q
        have Sf55 : Safe Z EL T45.vm h45 v := (R45.safe Bp5.lt (RP36.safe B5.lt Sfv))
        have R54 := CHr.keep K47q (allS (Safe.exa hZ45.alike F48 (by decide) (by decide)) (allS Sf55 all0)) CR46.1
        have CR54 := CR46.trans R54
        have K54 := K46.trans K47q (allS (Or.inl (List.mem_of_getElem? (i := 0) rfl)) (allS (Or.inl (List.mem_of_getElem? (i := 1) rfl)) all0))
        have O54 := O46.keep K47q (allS g_b (allS g_v all0))
        refine zpop Y B o650 rfl <| zgo Y B j42 <| zinc Y B o651 rfl (v := 2) rfl (s3 rfl) <| zgo Y B j43 ?_
        exact E2 _ _ _ _ _ (tx ++ BS2) (ds.getD 1 0) (Stand_grow Y (by decide) (by decide)) rfl N47 K54 O54 hS45 (Nat.le_trans hk45 K47q.1) hZ45 hown45 (hh ▸ CR54) P47_0 P47_1 P47_2 P47_3 P47_4 P47_5 (by rw [HU, escL_take hk, esc_bs h92, List.append_assoc]; first | done | rfl) (by (try simp only [List.length_append, List.length_cons, List.length_nil, HELP_len, TYP_len, BS2_len, BSN_len]) <;> omega)
      · refine zCY Y B j41 (feq h92).2 ?_
        refine zil Y B o652 rfl <| zbp Y B o653 (v := 34) rfl ?_
        by_cases h34 : (ds.getD 1 0) = (34 : Int32)
        · refine zCN Y B o654 (teq h34).2 ?_
          refine zilN Y B o655 rfl <| zY Y B j45 (by decide) ?_
          refine zil Y B o656 rfl <| zbp Y B o657 (v := 10) rfl ?_
          by_cases h10 : (ds.getD 1 0) = (10 : Int32)
          · refine zCN Y B o658 (teq h10).2 ?_
            refine zalN Y B o659 rfl ?_
            have F57 := (Q1.keep KP36 (ninS (ne_exa Q0 B0 (by decide)) (ninS (ne_exa Q0 B5 (by decide)) nin0)))
            refine zgf Y B hZ36 hown36 (ow68 hw) Via.refl e42 F57 o660 fun _ Y e56 => ?_
            obtain ⟨sa58, T58, h58, k58, sb58, kb58, Y, e58, E58, hS58, hk58, hZ58, hown58, PE58, PC58, PV58, PA58, la58, lb58, R58, LT58, SF58, st58⟩ := ldcCH Y B.1 hZ36 hown36 (ow296 hw) (ostr hw) e56 hS36 (Nat.le_trans hk36 (Nat.le_refl _)) (hEW hw) (List.mem_of_getElem? (i := 4) rfl) CRP36.1 (vs := ((([92, 110] : List Int32).map (fun c => c.toInt8.toInt32)).map Value.int)) (z := (2 : Int32)) (by decide +kernel) (by decide) (by decide) (g := (mkF m 72 #[rv pg, rv x, iv 0, iv 1, iv (ds.getD 1 0)] [(.ref b)])) rfl (hb B.2 o661.1) (n := 8) (by decide) (by decide) (by decide) (by decide)
            refine Go.by st58 ?_
            have CR59 := CRP36.trans R58
            have K59 := KP36.ext E58
            have O59 := OP36.ext E58
            show Go p e below _ _ (mkF m 74 #[rv pg, rv x, iv 0, iv 1, iv (ds.getD 1 0)] [(.ref sa58), (.ref b)])
            have F61 := (Bp0.ext E58)
            have F62 := (Bp1.ext E58)
            have F63 := (Bp2.ext E58)
            have F64 := (Bp3.ext E58)
            have F65 := (Bp4.ext E58)
            have F66 := (Bp5.ext E58)
            refine zcv Y B hZ58 hown58 (ow78 hw) (ow79 hw) (notFace_of_selects (args := #[]) (mvT hZ58 (ow81 hw))) (ow81 hw) (ow80 hw) (ow52 hw) (ow82 hw) (by decide) F61 (rm_sbappS l Z a0 hw [] b v kv 16 tx sa58 sb58 kb58 BSN G1 h58 n0 (Nat.le_trans Z0 K59.1) F61 F62 F63 F64 F65 F66 PE58 PC58 PV58 PA58 (by (try simp only [List.length_append, List.length_cons, List.length_nil, HELP_len, TYP_len, BS2_len, BSN_len]) <;> omega) (by decide) (g_v) (g_b) O2 P5 O59) e58 hml opd_30 rfl o662 rfl rfl rfl rfl rfl fun _ T60 _ Y hQ => ?_
            obtain ⟨rfl, N60q, K60q, P60_0, P60_1, P60_2, P60_3, P60_4, P60_5⟩ := hQ
            have N60 := Fr.app N42 N60q
            have Sf68 : Safe Z EL T58.vm h58 v := (R58.safe Bp5.lt (RP36.safe B5.lt Sfv))
            have R67 := CHr.keep K60q (allS (Safe.exa hZ58.alike F61 (by decide) (by decide)) (allS Sf68 all0)) CR59.1
            have CR67 := CR59.trans R67
            have K67 := K59.trans K60q (allS (Or.inl (List.mem_of_getElem? (i := 0) rfl)) (allS (Or.inl (List.mem_of_getElem? (i := 1) rfl)) all0))
            have O67 := O59.keep K60q (allS g_b (allS g_v all0))
            refine zpop Y B o663 rfl <| zgo Y B j47 <| zinc Y B o651 rfl (v := 2) rfl (s3 rfl) <| zgo Y B j43 ?_
            exact E2 _ _ _ _ _ (tx ++ BSN) (ds.getD 1 0) (Stand_grow Y (by decide) (by decide)) rfl N60 K67 O67 hS58 (Nat.le_trans hk58 K60q.1) hZ58 hown58 (hh ▸ CR67) P60_0 P60_1 P60_2 P60_3 P60_4 P60_5 (by rw [HU, escL_take hk, esc_nl h92 h10, List.append_assoc]; first | done | rfl) (by (try simp only [List.length_append, List.length_cons, List.length_nil, HELP_len, TYP_len, BS2_len, BSN_len]) <;> omega)
          · refine zCY Y B j46 (feq h10).2 ?_
            refine zalN Y B o664 rfl ?_
            have F70 := (Q1.keep KP36 (ninS (ne_exa Q0 B0 (by decide)) (ninS (ne_exa Q0 B5 (by decide)) nin0)))
            refine zgf Y B hZ36 hown36 (ow68 hw) Via.refl e42 F70 o665 fun _ Y e69 => ?_
            refine zil Y B o666 rfl ?_
            refine zcv Y B hZ36 hown36 (ow125 hw) (ow126 hw) (notFace_of_selects (args := #[]) (mvT hZ36 (ow128 hw))) (ow128 hw) (ow127 hw) (ow52 hw) (ow129 hw) (by decide) Bp0 (rm_sbappC l Z a0 hw [] b v kv 16 tx (ds.getD 1 0) G1 hP36 n0 (Nat.le_trans Z0 KP36.1) Bp0 Bp1 Bp2 Bp3 Bp4 Bp5 (by (try simp only [List.length_append, List.length_cons, List.length_nil, HELP_len, TYP_len, BS2_len, BSN_len]) <;> omega) (by decide) (g_v) (g_b) ((getD_lo HLO 1).2) O2 P5 OP36) e69 hml opd_31 rfl o667 rfl rfl rfl rfl rfl fun _ T71 _ Y hQ => ?_
            obtain ⟨rfl, N71q, K71q, P71_0, P71_1, P71_2, P71_3, P71_4, P71_5⟩ := hQ
            have N71 := Fr.app N42 N71q
            have Sf73 : Safe Z EL vm36 hP36 v := (RP36.safe B5.lt Sfv)
            have R72 := CHr.keep K71q (allS (Safe.exa hZ36.alike Bp0 (by decide) (by decide)) (allS Sf73 all0)) CRP36.1
            have CR72 := CRP36.trans R72
            have K72 := KP36.trans K71q (allS (Or.inl (List.mem_of_getElem? (i := 0) rfl)) (allS (Or.inl (List.mem_of_getElem? (i := 1) rfl)) all0))
            have O72 := OP36.keep K71q (allS g_b (allS g_v all0))
            refine zpop Y B o668 rfl <| zinc Y B o651 rfl (v := 2) rfl (s3 rfl) <| zgo Y B j43 ?_
            exact E2 _ _ _ _ _ (tx ++ [(ds.getD 1 0)]) (ds.getD 1 0) (Stand_grow Y (by decide) (by decide)) rfl N71 K72 O72 hS36 (Nat.le_trans hk36 K71q.1) hZ36 hown36 (hh ▸ CR72) P71_0 P71_1 P71_2 P71_3 P71_4 P71_5 (by rw [HU, escL_take hk, esc_no h92 h10, List.append_assoc]; first | done | rfl) (by (try simp only [List.length_append, List.length_cons, List.length_nil, HELP_len, TYP_len, BS2_len, BSN_len]) <;> omega)
        · refine zCY Y B j44 (feq h34).2 ?_
          refine zil Y B o656 rfl <| zbp Y B o657 (v := 10) rfl ?_
          by_cases h10 : (ds.getD 1 0) = (10 : Int32)
          · refine zCN Y B o658 (teq h10).2 ?_
            refine zalN Y B o659 rfl ?_
            have F75 := (Q1.keep KP36 (ninS (ne_exa Q0 B0 (by decide)) (ninS (ne_exa Q0 B5 (by decide)) nin0)))
            refine zgf Y B hZ36 hown36 (ow68 hw) Via.refl e42 F75 o660 fun _ Y e74 => ?_
            obtain ⟨sa76, T76, h76, k76, sb76, kb76, Y, e76, E76, hS76, hk76, hZ76, hown76, PE76, PC76, PV76, PA76, la76, lb76, R76, LT76, SF76, st76⟩ := ldcCH Y B.1 hZ36 hown36 (ow296 hw) (ostr hw) e74 hS36 (Nat.le_trans hk36 (Nat.le_refl _)) (hEW hw) (List.mem_of_getElem? (i := 4) rfl) CRP36.1 (vs := ((([92, 110] : List Int32).map (fun c => c.toInt8.toInt32)).map Value.int)) (z := (2 : Int32)) (by decide +kernel) (by decide) (by decide) (g := (mkF m 72 #[rv pg, rv x, iv 0, iv 1, iv (ds.getD 1 0)] [(.ref b)])) rfl (hb B.2 o661.1) (n := 8) (by decide) (by decide) (by decide) (by decide)
            refine Go.by st76 ?_
            have CR77 := CRP36.trans R76
            have K77 := KP36.ext E76
            have O77 := OP36.ext E76
            show Go p e below _ _ (mkF m 74 #[rv pg, rv x, iv 0, iv 1, iv (ds.getD 1 0)] [(.ref sa76), (.ref b)])
            have F79 := (Bp0.ext E76)
            have F80 := (Bp1.ext E76)
            have F81 := (Bp2.ext E76)
            have F82 := (Bp3.ext E76)
            have F83 := (Bp4.ext E76)
            have F84 := (Bp5.ext E76)
            refine zcv Y B hZ76 hown76 (ow78 hw) (ow79 hw) (notFace_of_selects (args := #[]) (mvT hZ76 (ow81 hw))) (ow81 hw) (ow80 hw) (ow52 hw) (ow82 hw) (by decide) F79 (rm_sbappS l Z a0 hw [] b v kv 16 tx sa76 sb76 kb76 BSN G1 h76 n0 (Nat.le_trans Z0 K77.1) F79 F80 F81 F82 F83 F84 PE76 PC76 PV76 PA76 (by (try simp only [List.length_append, List.length_cons, List.length_nil, HELP_len, TYP_len, BS2_len, BSN_len]) <;> omega) (by decide) (g_v) (g_b) O2 P5 O77) e76 hml opd_30 rfl o662 rfl rfl rfl rfl rfl fun _ T78 _ Y hQ => ?_
            obtain ⟨rfl, N78q, K78q, P78_0, P78_1, P78_2, P78_3, P78_4, P78_5⟩ := hQ
            have N78 := Fr.app N42 N78q
            have Sf86 : Safe Z EL T76.vm h76 v := (R76.safe Bp5.lt (RP36.safe B5.lt Sfv))
            have R85 := CHr.keep K78q (allS (Safe.exa hZ76.alike F79 (by decide) (by decide)) (allS Sf86 all0)) CR77.1
            have CR85 := CR77.trans R85
            have K85 := K77.trans K78q (allS (Or.inl (List.mem_of_getElem? (i := 0) rfl)) (allS (Or.inl (List.mem_of_getElem? (i := 1) rfl)) all0))
            have O85 := O77.keep K78q (allS g_b (allS g_v all0))
            refine zpop Y B o663 rfl <| zgo Y B j47 <| zinc Y B o651 rfl (v := 2) rfl (s3 rfl) <| zgo Y B j43 ?_
            exact E2 _ _ _ _ _ (tx ++ BSN) (ds.getD 1 0) (Stand_grow Y (by decide) (by decide)) rfl N78 K85 O85 hS76 (Nat.le_trans hk76 K78q.1) hZ76 hown76 (hh ▸ CR85) P78_0 P78_1 P78_2 P78_3 P78_4 P78_5 (by rw [HU, escL_take hk, esc_nl h92 h10, List.append_assoc]; first | done | rfl) (by (try simp only [List.length_append, List.length_cons, List.length_nil, HELP_len, TYP_len, BS2_len, BSN_len]) <;> omega)
          · refine zCY Y B j46 (feq h10).2 ?_
            refine zalN Y B o664 rfl ?_
            have F88 := (Q1.keep KP36 (ninS (ne_exa Q0 B0 (by decide)) (ninS (ne_exa Q0 B5 (by decide)) nin0)))
            refine zgf Y B hZ36 hown36 (ow68 hw) Via.refl e42 F88 o665 fun _ Y e87 => ?_
            refine zil Y B o666 rfl ?_
            refine zcv Y B hZ36 hown36 (ow125 hw) (ow126 hw) (notFace_of_selects (args := #[]) (mvT hZ36 (ow128 hw))) (ow128 hw) (ow127 hw) (ow52 hw) (ow129 hw) (by decide) Bp0 (rm_sbappC l Z a0 hw [] b v kv 16 tx (ds.getD 1 0) G1 hP36 n0 (Nat.le_trans Z0 KP36.1) Bp0 Bp1 Bp2 Bp3 Bp4 Bp5 (by (try simp only [List.length_append, List.length_cons, List.length_nil, HELP_len, TYP_len, BS2_len, BSN_len]) <;> omega) (by decide) (g_v) (g_b) ((getD_lo HLO 1).2) O2 P5 OP36) e87 hml opd_31 rfl o667 rfl rfl rfl rfl rfl fun _ T89 _ Y hQ => ?_
            obtain ⟨rfl, N89q, K89q, P89_0, P89_1, P89_2, P89_3, P89_4, P89_5⟩ := hQ
            have N89 := Fr.app N42 N89q
            have Sf91 : Safe Z EL vm36 hP36 v := (RP36.safe B5.lt Sfv)
            have R90 := CHr.keep K89q (allS (Safe.exa hZ36.alike Bp0 (by decide) (by decide)) (allS Sf91 all0)) CRP36.1
            have CR90 := CRP36.trans R90
            have K90 := KP36.trans K89q (allS (Or.inl (List.mem_of_getElem? (i := 0) rfl)) (allS (Or.inl (List.mem_of_getElem? (i := 1) rfl)) all0))
            have O90 := OP36.keep K89q (allS g_b (allS g_v all0))
            refine zpop Y B o668 rfl <| zinc Y B o651 rfl (v := 2) rfl (s3 rfl) <| zgo Y B j43 ?_
            exact E2 _ _ _ _ _ (tx ++ [(ds.getD 1 0)]) (ds.getD 1 0) (Stand_grow Y (by decide) (by decide)) rfl N89 K90 O90 hS36 (Nat.le_trans hk36 K89q.1) hZ36 hown36 (hh ▸ CR90) P89_0 P89_1 P89_2 P89_3 P89_4 P89_5 (by rw [HU, escL_take hk, esc_no h92 h10, List.append_assoc]; first | done | rfl) (by (try simp only [List.length_append, List.length_cons, List.length_nil, HELP_len, TYP_len, BS2_len, BSN_len]) <;> omega)
    · refine zCY Y B j40 (flt hj).2.1 ?_
      have hle : ds.length ≤ 1 := Nat.le_of_not_lt fun q => hj ((lt_on (a := 1) (by decide) (by omega)).mpr q)
      obtain rfl : (cs ++ escL ds) = tx := (show tx = (cs ++ escL ds) from by rw [HU, List.take_of_length_le hle]).symm
      exact Go.ret0W Y B.1 hret hlk (hb B.2 o637.1) hS36 (by rw [e37]; exact (Nat.le_trans hk36 (Nat.le_refl _))) hZ36 (hEW hw) (by rw [e37]; exact CRP36) (by first | (rw [e37]; exact ⟨rfl, N37, KP36, Bp0, Bp1, Bp2, Bp3, Bp4, Bp5⟩) | exact ⟨rfl, N37, KP36, Bp0, Bp1, Bp2, Bp3, Bp4, Bp5⟩) (by decide) (by decide)
  have E0 : ∀ (T92 : State) (LL92 : List Loc) (hP92 : Heap) (vm92 : Vm) (kk92 : Nat) (tx : List Int32), Stand p l e Ro35 (s.setVm vm92) m #[(.ref pg), (.ref x), (.int 0)] below meth c T92 LL92 0 0 → T92.heap = hP92 → Fr n0 LL92 → Keep h0 hP92 [b, v] → Old Z n0 hP92 → s.Since vm92 kk92 → kk92 ≤ hP92.size → Z.Warmed39 (s.setVm vm92).vm → (s.setVm vm92).vm.findClass ss6 = some m.cls → CHr Z EL s.vm h0 vm92 hP92 → (Exa Z hP92 b ss4) → (Fld Z hP92 b ss1 ss2 "B" (.int 0)) → (Fld Z hP92 b ss1 ss3 "[B" (.ref v)) → (Fld Z hP92 b ss1 ss5 "I" (.int (Int32.ofNat tx.length))) → (Arv Z hP92 v kv .byte (Int32.ofNat 16) (B8 tx) (.int 0)) → (Exa Z hP92 v "[B") → (tx = cs ++ escL (ds.take 0)) → (tx.length ≤ 10 + 2 * 0) → Go p e below (OutW Z EL s (Q_escd Z pg b v kv cs x t kt ds G1 G3 h0 n0) Ro35.cells Ro35.slots) T92 (mkF m 2 #[rv pg, rv x, iv 0, iv 0, un] []) := by
    intro T92 LL92 hP92 vm92 kk92 tx Y e92 N92 KP92 OP92 hS92 hk92 hZ92 hown92 RP92 Bp0 Bp1 Bp2 Bp3 Bp4 Bp5 HU HL
    have CRP92 := CR0.trans RP92
    refine zilN Y B o634 rfl <| zalN Y B o635 rfl ?_
    have F94 := (S0.keep KP92)
    have F95 := (S1.keep KP92 (ninS (ne_exa S0 B0 (by decide)) (ninS (ne_exa S0 B5 (by decide)) nin0)))
    have F96 := (S2.keep KP92 (ninS (ne_exa S0 B0 (by decide)) (ninS (ne_exa S0 B5 (by decide)) nin0)))
    have F97 := (S3.keep KP92 (ninS (Ne.symm (ne_arv B0 (ow51 hw) S3)) (ninS (Ne.symm NVT) nin0)))
    refine zcv Y B hZ92 hown92 (ow147 hw) (ow89 hw) (notFace_of_selects (args := #[]) (mvT hZ92 (ow91 hw))) (ow91 hw) (ow90 hw) (ow2 hw) (ow92 hw) (by decide) F94 (rm_slen l Z a0 hw [] x t kt ds G1 hP92 n0 (Nat.le_trans Z0 KP92.1) F94 F95 F96 F97 O2 P5 OP92) e92 hml opd_10 rfl o636 rfl rfl rfl rfl rfl fun _ T93 _ Y hQ => ?_
    obtain ⟨rfl, N93q, e93⟩ := hQ
    have N93 := Fr.app N92 N93q
    by_cases hj : (0 : Int32) < (Int32.ofNat ds.length)
    · refine zCN Y B o638 (tlt hj).2.1 ?_
      have hk : 0 < ds.length := (lt_on (a := 0) (by decide) (by omega)).mp hj
      refine zalN Y B o639 rfl <| zilN Y B o640 rfl ?_
      refine zcv Y B hZ92 hown92 (ow295 hw) (ow257 hw) (notFace_of_selects (args := #[]) (mvT hZ92 (ow259 hw))) (ow259 hw) (ow258 hw) (ow2 hw) (ow260 hw) (by decide) F94 (rm_schar l Z a0 hw [] x t kt ds 0 G1 G3 hP92 n0 (Nat.le_trans Z0 KP92.1) F94 F95 F96 F97 HLO (hk) (by omega) O2 P5 OP92 O4 rG3) e93 hml opd_26 rfl o641 rfl rfl rfl rfl rfl fun _ T98 _ Y hQ => ?_
      obtain ⟨rfl, N98q, e98⟩ := hQ
      have N98 := Fr.app N93 N98q
      refine zis Y B o642 (s4 rfl) <| zil Y B o643 rfl <| zbp Y B o644 (v := 92) rfl ?_
      by_cases h92 : (ds.getD 0 0) = (92 : Int32)
      · refine zCN Y B o645 (teq h92).2 ?_
        refine zalN Y B o646 rfl ?_
        have F100 := (Q1.keep KP92 (ninS (ne_exa Q0 B0 (by decide)) (ninS (ne_exa Q0 B5 (by decide)) nin0)))
        refine zgf Y B hZ92 hown92 (ow68 hw) Via.refl e98 F100 o647 fun _ Y e99 => ?_
        obtain ⟨sa101, T101, h101, k101, sb101, kb101, Y, e101, E101, hS101, hk101, hZ101, hown101, PE101, PC101, PV101, PA101, la101, lb101, R101, LT101, SF101, st101⟩ := ldcCH Y B.1 hZ92 hown92 (ow312 hw) (ostr hw) e99 hS92 (Nat.le_trans hk92 (Nat.le_refl _)) (hEW hw) (List.mem_of_getElem? (i := 3) rfl) CRP92.1 (vs := ((([92, 92] : List Int32).map (fun c => c.toInt8.toInt32)).map Value.int)) (z := (2 : Int32)) (by decide +kernel) (by decide) (by decide) (g := (mkF m 28 #[rv pg, rv x, iv 0, iv 0, iv (ds.getD 0 0)] [(.ref b)])) rfl (hb B.2 o648.1) (n := 8) (by decide) (by decide) (by decide) (by decide)
        refine Go.by st101 ?_
        have CR102 := CRP92.trans R101
        have K102 := KP92.ext E101
        have O102 := OP92.ext E101
        show Go p e below _ _ (mkF m 30 #[rv pg, rv x, iv 0, iv 0, iv (ds.getD 0 0)] [(.ref sa101), (.ref b)])
        have F104 := (Bp0.ext E101)
        have F105 := (Bp1.ext E101)
        have F106 := (Bp2.ext E101)
        have F107 := (Bp3.ext E101)
        have F108 := (Bp4.ext E101)
        have F109 := (Bp5.ext E101)
        refine zcv Y B hZ101 hown101 (ow78 hw) (ow79 hw) (notFace_of_selects (args := #[]) (mvT hZ101 (ow81 hw))) (ow81 hw) (ow80 hw) (ow52 hw) (ow82 hw) (by decide) F104 (rm_sbappS l Z a0 hw [] b v kv 16 tx sa101 sb101 kb101 BS2 G1 h101 n0 (Nat.le_trans Z0 K102.1) F104 F105 F106 F107 F108 F109 PE101 PC101 PV101 PA101 (by (try simp only [List.length_append, List.length_cons, List.length_nil, HELP_len, TYP_len, BS2_len, BSN_len]) <;> omega) (by decide) (g_v) (g_b) O2 P5 O102) e101 hml opd_30 rfl o649 rfl rfl rfl rfl rfl fun _ T103 _ Y hQ => ?_
        obtain ⟨rfl, N103q, K103q, P103_0, P103_1, P103_2, P103_3, P103_4, P103_5⟩ := hQ
        have N103 := Fr.app N98 N103q
        have Sf111 : Safe Z EL T101.vm h101 v := (R101.safe Bp5.lt (RP92.safe B5.lt Sfv))
        have R110 := CHr.keep K103q (allS (Safe.exa hZ101.alike F104 (by decide) (by decide)) (allS Sf111 all0)) CR102.1
        have CR110 := CR102.trans R110
        have K110 := K102.trans K103q (allS (Or.inl (List.mem_of_getElem? (i := 0) rfl)) (allS (Or.inl (List.mem_of_getElem? (i := 1) rfl)) all0))
        have O110 := O102.keep K103q (allS g_b (allS g_v all0))
        refine zpop Y B o650 rfl <| zgo Y B j42 <| zinc Y B o651 rfl (v := 1) rfl (s3 rfl) <| zgo Y B j43 ?_
        exact E1 _ _ _ _ _ (tx ++ BS2) (ds.getD 0 0) (Stand_grow Y (by decide) (by decide)) rfl N103 K110 O110 hS101 (Nat.le_trans hk101 K103q.1) hZ101 hown101 (hh ▸ CR110) P103_0 P103_1 P103_2 P103_3 P103_4 P103_5 (by rw [HU, escL_take hk, esc_bs h92, List.append_assoc]; first | done | rfl) (by (try simp only [List.length_append, List.length_cons, List.length_nil, HELP_len, TYP_len, BS2_len, BSN_len]) <;> omega)
      · refine zCY Y B j41 (feq h92).2 ?_
        refine zil Y B o652 rfl <| zbp Y B o653 (v := 34) rfl ?_
        by_cases h34 : (ds.getD 0 0) = (34 : Int32)
        · refine zCN Y B o654 (teq h34).2 ?_
          refine zilN Y B o655 rfl <| zY Y B j45 (by decide) ?_
          refine zil Y B o656 rfl <| zbp Y B o657 (v := 10) rfl ?_
          by_cases h10 : (ds.getD 0 0) = (10 : Int32)
          · refine zCN Y B o658 (teq h10).2 ?_
            refine zalN Y B o659 rfl ?_
            have F113 := (Q1.keep KP92 (ninS (ne_exa Q0 B0 (by decide)) (ninS (ne_exa Q0 B5 (by decide)) nin0)))
            refine zgf Y B hZ92 hown92 (ow68 hw) Via.refl e98 F113 o660 fun _ Y e112 => ?_
            obtain ⟨sa114, T114, h114, k114, sb114, kb114, Y, e114, E114, hS114, hk114, hZ114, hown114, PE114, PC114, PV114, PA114, la114, lb114, R114, LT114, SF114, st114⟩ := ldcCH Y B.1 hZ92 hown92 (ow296 hw) (ostr hw) e112 hS92 (Nat.le_trans hk92 (Nat.le_refl _)) (hEW hw) (List.mem_of_getElem? (i := 4) rfl) CRP92.1 (vs := ((([92, 110] : List Int32).map (fun c => c.toInt8.toInt32)).map Value.int)) (z := (2 : Int32)) (by decide +kernel) (by decide) (by decide) (g := (mkF m 72 #[rv pg, rv x, iv 0, iv 0, iv (ds.getD 0 0)] [(.ref b)])) rfl (hb B.2 o661.1) (n := 8) (by decide) (by decide) (by decide) (by decide)
            refine Go.by st114 ?_
            have CR115 := CRP92.trans R114
            have K115 := KP92.ext E114
            have O115 := OP92.ext E114
            show Go p e below _ _ (mkF m 74 #[rv pg, rv x, iv 0, iv 0, iv (ds.getD 0 0)] [(.ref sa114), (.ref b)])
            have F117 := (Bp0.ext E114)
            have F118 := (Bp1.ext E114)
            have F119 := (Bp2.ext E114)
            have F120 := (Bp3.ext E114)
            have F121 := (Bp4.ext E114)
            have F122 := (Bp5.ext E114)
            refine zcv Y B hZ114 hown114 (ow78 hw) (ow79 hw) (notFace_of_selects (args := #[]) (mvT hZ114 (ow81 hw))) (ow81 hw) (ow80 hw) (ow52 hw) (ow82 hw) (by decide) F117 (rm_sbappS l Z a0 hw [] b v kv 16 tx sa114 sb114 kb114 BSN G1 h114 n0 (Nat.le_trans Z0 K115.1) F117 F118 F119 F120 F121 F122 PE114 PC114 PV114 PA114 (by (try simp only [List.length_append, List.length_cons, List.length_nil, HELP_len, TYP_len, BS2_len, BSN_len]) <;> omega) (by decide) (g_v) (g_b) O2 P5 O115) e114 hml opd_30 rfl o662 rfl rfl rfl rfl rfl fun _ T116 _ Y hQ => ?_
            obtain ⟨rfl, N116q, K116q, P116_0, P116_1, P116_2, P116_3, P116_4, P116_5⟩ := hQ
            have N116 := Fr.app N98 N116q
            have Sf124 : Safe Z EL T114.vm h114 v := (R114.safe Bp5.lt (RP92.safe B5.lt Sfv))
            have R123 := CHr.keep K116q (allS (Safe.exa hZ114.alike F117 (by decide) (by decide)) (allS Sf124 all0)) CR115.1
            have CR123 := CR115.trans R123
            have K123 := K115.trans K116q (allS (Or.inl (List.mem_of_getElem? (i := 0) rfl)) (allS (Or.inl (List.mem_of_getElem? (i := 1) rfl)) all0))
            have O123 := O115.keep K116q (allS g_b (allS g_v all0))
            refine zpop Y B o663 rfl <| zgo Y B j47 <| zinc Y B o651 rfl (v := 1) rfl (s3 rfl) <| zgo Y B j43 ?_
            exact E1 _ _ _ _ _ (tx ++ BSN) (ds.getD 0 0) (Stand_grow Y (by decide) (by decide)) rfl N116 K123 O123 hS114 (Nat.le_trans hk114 K116q.1) hZ114 hown114 (hh ▸ CR123) P116_0 P116_1 P116_2 P116_3 P116_4 P116_5 (by rw [HU, escL_take hk, esc_nl h92 h10, List.append_assoc]; first | done | rfl) (by (try simp only [List.length_append, List.length_cons, List.length_nil, HELP_len, TYP_len, BS2_len, BSN_len]) <;> omega)
          · refine zCY Y B j46 (feq h10).2 ?_
            refine zalN Y B o664 rfl ?_
            have F126 := (Q1.keep KP92 (ninS (ne_exa Q0 B0 (by decide)) (ninS (ne_exa Q0 B5 (by decide)) nin0)))
            refine zgf Y B hZ92 hown92 (ow68 hw) Via.refl e98 F126 o665 fun _ Y e125 => ?_
            refine zil Y B o666 rfl ?_
            refine zcv Y B hZ92 hown92 (ow125 hw) (ow126 hw) (notFace_of_selects (args := #[]) (mvT hZ92 (ow128 hw))) (ow128 hw) (ow127 hw) (ow52 hw) (ow129 hw) (by decide) Bp0 (rm_sbappC l Z a0 hw [] b v kv 16 tx (ds.getD 0 0) G1 hP92 n0 (Nat.le_trans Z0 KP92.1) Bp0 Bp1 Bp2 Bp3 Bp4 Bp5 (by (try simp only [List.length_append, List.length_cons, List.length_nil, HELP_len, TYP_len, BS2_len, BSN_len]) <;> omega) (by decide) (g_v) (g_b) ((getD_lo HLO 0).2) O2 P5 OP92) e125 hml opd_31 rfl o667 rfl rfl rfl rfl rfl fun _ T127 _ Y hQ => ?_
            obtain ⟨rfl, N127q, K127q, P127_0, P127_1, P127_2, P127_3, P127_4, P127_5⟩ := hQ
            have N127 := Fr.app N98 N127q
            have Sf129 : Safe Z EL vm92 hP92 v := (RP92.safe B5.lt Sfv)
            have R128 := CHr.keep K127q (allS (Safe.exa hZ92.alike Bp0 (by decide) (by decide)) (allS Sf129 all0)) CRP92.1
            have CR128 := CRP92.trans R128
            have K128 := KP92.trans K127q (allS (Or.inl (List.mem_of_getElem? (i := 0) rfl)) (allS (Or.inl (List.mem_of_getElem? (i := 1) rfl)) all0))
            have O128 := OP92.keep K127q (allS g_b (allS g_v all0))
            refine zpop Y B o668 rfl <| zinc Y B o651 rfl (v := 1) rfl (s3 rfl) <| zgo Y B j43 ?_
            exact E1 _ _ _ _ _ (tx ++ [(ds.getD 0 0)]) (ds.getD 0 0) (Stand_grow Y (by decide) (by decide)) rfl N127 K128 O128 hS92 (Nat.le_trans hk92 K127q.1) hZ92 hown92 (hh ▸ CR128) P127_0 P127_1 P127_2 P127_3 P127_4 P127_5 (by rw [HU, escL_take hk, esc_no h92 h10, List.append_assoc]; first | done | rfl) (by (try simp only [List.length_append, List.length_cons, List.length_nil, HELP_len, TYP_len, BS2_len, BSN_len]) <;> omega)
        · refine zCY Y B j44 (feq h34).2 ?_
          refine zil Y B o656 rfl <| zbp Y B o657 (v := 10) rfl ?_
          by_cases h10 : (ds.getD 0 0) = (10 : Int32)
          · refine zCN Y B o658 (teq h10).2 ?_
            refine zalN Y B o659 rfl ?_
            have F131 := (Q1.keep KP92 (ninS (ne_exa Q0 B0 (by decide)) (ninS (ne_exa Q0 B5 (by decide)) nin0)))
            refine zgf Y B hZ92 hown92 (ow68 hw) Via.refl e98 F131 o660 fun _ Y e130 => ?_
            obtain ⟨sa132, T132, h132, k132, sb132, kb132, Y, e132, E132, hS132, hk132, hZ132, hown132, PE132, PC132, PV132, PA132, la132, lb132, R132, LT132, SF132, st132⟩ := ldcCH Y B.1 hZ92 hown92 (ow296 hw) (ostr hw) e130 hS92 (Nat.le_trans hk92 (Nat.le_refl _)) (hEW hw) (List.mem_of_getElem? (i := 4) rfl) CRP92.1 (vs := ((([92, 110] : List Int32).map (fun c => c.toInt8.toInt32)).map Value.int)) (z := (2 : Int32)) (by decide +kernel) (by decide) (by decide) (g := (mkF m 72 #[rv pg, rv x, iv 0, iv 0, iv (ds.getD 0 0)] [(.ref b)])) rfl (hb B.2 o661.1) (n := 8) (by decide) (by decide) (by decide) (by decide)
            refine Go.by st132 ?_
            have CR133 := CRP92.trans R132
            have K133 := KP92.ext E132
            have O133 := OP92.ext E132
            show Go p e below _ _ (mkF m 74 #[rv pg, rv x, iv 0, iv 0, iv (ds.getD 0 0)] [(.ref sa132), (.ref b)])
            have F135 := (Bp0.ext E132)
            have F136 := (Bp1.ext E132)
            have F137 := (Bp2.ext E132)
            have F138 := (Bp3.ext E132)
            have F139 := (Bp4.ext E132)
            have F140 := (Bp5.ext E132)
            refine zcv Y B hZ132 hown132 (ow78 hw) (ow79 hw) (notFace_of_selects (args := #[]) (mvT hZ132 (ow81 hw))) (ow81 hw) (ow80 hw) (ow52 hw) (ow82 hw) (by decide) F135 (rm_sbappS l Z a0 hw [] b v kv 16 tx sa132 sb132 kb132 BSN G1 h132 n0 (Nat.le_trans Z0 K133.1) F135 F136 F137 F138 F139 F140 PE132 PC132 PV132 PA132 (by (try simp only [List.length_append, List.length_cons, List.length_nil, HELP_len, TYP_len, BS2_len, BSN_len]) <;> omega) (by decide) (g_v) (g_b) O2 P5 O133) e132 hml opd_30 rfl o662 rfl rfl rfl rfl rfl fun _ T134 _ Y hQ => ?_
            obtain ⟨rfl, N134q, K134q, P134_0, P134_1, P134_2, P134_3, P134_4, P134_5⟩ := hQ
            have N134 := Fr.app N98 N134q
            have Sf142 : Safe Z EL T132.vm h132 v := (R132.safe Bp5.lt (RP92.safe B5.lt Sfv))
            have R141 := CHr.keep K134q (allS (Safe.exa hZ132.alike F135 (by decide) (by decide)) (allS Sf142 all0)) CR133.1
            have CR141 := CR133.trans R141
            have K141 := K133.trans K134q (allS (Or.inl (List.mem_of_getElem? (i := 0) rfl)) (allS (Or.inl (List.mem_of_getElem? (i := 1) rfl)) all0))
            have O141 := O133.keep K134q (allS g_b (allS g_v all0))
            refine zpop Y B o663 rfl <| zgo Y B j47 <| zinc Y B o651 rfl (v := 1) rfl (s3 rfl) <| zgo Y B j43 ?_
            exact E1 _ _ _ _ _ (tx ++ BSN) (ds.getD 0 0) (Stand_grow Y (by decide) (by decide)) rfl N134 K141 O141 hS132 (Nat.le_trans hk132 K134q.1) hZ132 hown132 (hh ▸ CR141) P134_0 P134_1 P134_2 P134_3 P134_4 P134_5 (by rw [HU, escL_take hk, esc_nl h92 h10, List.append_assoc]; first | done | rfl) (by (try simp only [List.length_append, List.length_cons, List.length_nil, HELP_len, TYP_len, BS2_len, BSN_len]) <;> omega)
          · refine zCY Y B j46 (feq h10).2 ?_
            refine zalN Y B o664 rfl ?_
            have F144 := (Q1.keep KP92 (ninS (ne_exa Q0 B0 (by decide)) (ninS (ne_exa Q0 B5 (by decide)) nin0)))
            refine zgf Y B hZ92 hown92 (ow68 hw) Via.refl e98 F144 o665 fun _ Y e143 => ?_
            refine zil Y B o666 rfl ?_
            refine zcv Y B hZ92 hown92 (ow125 hw) (ow126 hw) (notFace_of_selects (args := #[]) (mvT hZ92 (ow128 hw))) (ow128 hw) (ow127 hw) (ow52 hw) (ow129 hw) (by decide) Bp0 (rm_sbappC l Z a0 hw [] b v kv 16 tx (ds.getD 0 0) G1 hP92 n0 (Nat.le_trans Z0 KP92.1) Bp0 Bp1 Bp2 Bp3 Bp4 Bp5 (by (try simp only [List.length_append, List.length_cons, List.length_nil, HELP_len, TYP_len, BS2_len, BSN_len]) <;> omega) (by decide) (g_v) (g_b) ((getD_lo HLO 0).2) O2 P5 OP92) e143 hml opd_31 rfl o667 rfl rfl rfl rfl rfl fun _ T145 _ Y hQ => ?_
            obtain ⟨rfl, N145q, K145q, P145_0, P145_1, P145_2, P145_3, P145_4, P145_5⟩ := hQ
            have N145 := Fr.app N98 N145q
            have Sf147 : Safe Z EL vm92 hP92 v := (RP92.safe B5.lt Sfv)
            have R146 := CHr.keep K145q (allS (Safe.exa hZ92.alike Bp0 (by decide) (by decide)) (allS Sf147 all0)) CRP92.1
            have CR146 := CRP92.trans R146
            have K146 := KP92.trans K145q (allS (Or.inl (List.mem_of_getElem? (i := 0) rfl)) (allS (Or.inl (List.mem_of_getElem? (i := 1) rfl)) all0))
            have O146 := OP92.keep K145q (allS g_b (allS g_v all0))
            refine zpop Y B o668 rfl <| zinc Y B o651 rfl (v := 1) rfl (s3 rfl) <| zgo Y B j43 ?_
            exact E1 _ _ _ _ _ (tx ++ [(ds.getD 0 0)]) (ds.getD 0 0) (Stand_grow Y (by decide) (by decide)) rfl N145 K146 O146 hS92 (Nat.le_trans hk92 K145q.1) hZ92 hown92 (hh ▸ CR146) P145_0 P145_1 P145_2 P145_3 P145_4 P145_5 (by rw [HU, escL_take hk, esc_no h92 h10, List.append_assoc]; first | done | rfl) (by (try simp only [List.length_append, List.length_cons, List.length_nil, HELP_len, TYP_len, BS2_len, BSN_len]) <;> omega)
    · refine zCY Y B j40 (flt hj).2.1 ?_
      have hle : ds.length ≤ 0 := Nat.le_of_not_lt fun q => hj ((lt_on (a := 0) (by decide) (by omega)).mpr q)
      obtain rfl : (cs ++ escL ds) = tx := (show tx = (cs ++ escL ds) from by rw [HU, List.take_of_length_le hle]).symm
      exact Go.ret0W Y B.1 hret hlk (hb B.2 o637.1) hS92 (by rw [e93]; exact (Nat.le_trans hk92 (Nat.le_refl _))) hZ92 (hEW hw) (by rw [e93]; exact CRP92) (by first | (rw [e93]; exact ⟨rfl, N93, KP92, Bp0, Bp1, Bp2, Bp3, Bp4, Bp5⟩) | exact ⟨rfl, N93, KP92, Bp0, Bp1, Bp2, Bp3, Bp4, Bp5⟩) (by decide) (by decide)
  refine zc0 Y B o669 <| zisN Y B o670 (s3 rfl) ?_
  exact E0 _ _ _ _ _ cs (Stand_grow Y (by decide) (by decide)) e0 N0 K0 X00 hS0 (Nat.le_trans (Nat.le_refl _) (Nat.le_refl _)) hZ hown (CHr.refl hCH) B0 B1 B2 B3 B4 B5 (by simp [escL]) (by omega)
def Q_fam0 (Z : State) (pg b v : Addr) (kv : ClassId) (x t : Addr) (kt : ClassId) (ns : List Int32) (ty wx wt : Addr) (wk : ClassId) (wd : List Int32) (xh th : Addr) (kh : ClassId) (hs : List Int32) (G1 : Int32) (G3 : Value) (h0 : Heap) (n0 : Nat) : QT := fun rv hE LE => ∃ v' : Addr, ∃ kv' : ClassId, rv = none ∧ Fr n0 LE ∧ Keep h0 hE [pg, b, v] ∧ (h0.size ≤ v') ∧ (Exa Z hE pg ss6) ∧ (Fld Z hE pg ss6 "page" ss11 (.ref b)) ∧ (Fld Z hE pg ss6 ss18 ss9 (.ref x)) ∧ (Exa Z hE b ss4) ∧ (Fld Z hE b ss1 ss2 "B" (.int 0)) ∧ (Fld Z hE b ss1 ss3 "[B" (.ref v')) ∧ (Fld Z hE b ss1 ss5 "I" (.int (Int32.ofNat ((((((((((([] : List Int32) ++ HELP) ++ ns) ++ [(32 : Int32)]) ++ escL hs) ++ [(10 : Int32)]) ++ TYP) ++ ns) ++ [(32 : Int32)]) ++ wd) ++ [(10 : Int32)]).length))) ∧ (Arv Z hE v' kv' .byte (Int32.ofNat 34) (B8 ((((((((((([] : List Int32) ++ HELP) ++ ns) ++ [(32 : Int32)]) ++ escL hs) ++ [(10 : Int32)]) ++ TYP) ++ ns) ++ [(32 : Int32)]) ++ wd) ++ [(10 : Int32)])) (.int 0)) ∧ (Exa Z hE v' "[B")
theorem rm_fam0 (l : Launch) (Z : State) (a0 : Array Value) (hw : HW a0 Z) (ws : List Jvm.Cond) (pg b v : Addr) (kv : ClassId) (x t : Addr) (kt : ClassId) (ns : List Int32) (ty wx wt : Addr) (wk : ClassId) (wd : List Int32) (xh th : Addr) (kh : ClassId) (hs : List Int32) (G1 : Int32) (G3 : Value) (h0 : Heap) (n0 : Nat) (Z0 : n0 ≤ h0.size) (Q0 : Exa Z h0 pg ss6) (Q1 : Fld Z h0 pg ss6 "page" ss11 (.ref b)) (Q2 : Fld Z h0 pg ss6 ss18 ss9 .null) (B0 : Exa Z h0 b ss4) (B1 : Fld Z h0 b ss1 ss2 "B" (.int 0)) (B2 : Fld Z h0 b ss1 ss3 "[B" (.ref v)) (B3 : Fld Z h0 b ss1 ss5 "I" (.int (Int32.ofNat ([] : List Int32).length))) (B4 : Arv Z h0 v kv .byte (Int32.ofNat 16) (B8 ([] : List Int32)) (.int 0)) (B5 : Exa Z h0 v "[B") (S0 : Exa Z h0 x ss0) (S1 : Fld Z h0 x ss0 ss2 "B" (.int 0)) (S2 : Fld Z h0 x ss0 ss3 "[B" (.ref t)) (S3 : Arv Z h0 t kt .byte (Int32.ofNat ns.length) (B8 ns) (.int 0)) (W0 : Exa Z Z.heap ty ss8) (W1 : Fld Z Z.heap ty ss8 "word" ss9 (.ref wx)) (W2 : Exa Z Z.heap wx ss0) (W3 : Fld Z Z.heap wx ss0 ss2 "B" (.int 0)) (W4 : Fld Z Z.heap wx ss0 ss3 "[B" (.ref wt)) (W5 : Arv Z Z.heap wt wk .byte (Int32.ofNat wd.length) (B8 wd) (.int 0)) (H0 : Exa Z h0 xh ss0) (H1 : Fld Z h0 xh ss0 ss2 "B" (.int 0)) (H2 : Fld Z h0 xh ss0 ss3 "[B" (.ref th)) (H3 : Arv Z h0 th kh .byte (Int32.ofNat hs.length) (B8 hs) (.int 0)) (HN2 : ns.length = 2) (HH2 : hs.length ≤ 2) (HLH : Lo hs) (HWL : (escL hs).length + wd.length ≤ 12) (NVT : v ≠ t) (NVH : v ≠ th) (g_pg : n0 ≤ pg) (g_b : n0 ≤ b) (g_v : n0 ≤ v) (O2 : Sta Z Z.heap ss0 ss7 "Z" (.int G1)) (P5 : ¬ (G1 = (0 : Int32))) (X00 : Old Z n0 h0) (O4 : Sta Z Z.heap ss10 ss12 ss13 G3) (rG3 : G3.isRef = true) :
    MetFree l mn48 (head1 (Jvm.Cond.code mn48 cB48 4 (Option.none : Option Jvm.ClassFile.FieldType) :: ws) Ro36) (fun ar_ U => ar_ = #[(.ref pg), (.ref x), (.ref ty), (.ref xh)] ∧ Z.Warmed39 U.vm ∧ U.heap = h0 ∧ CHv Z EL U.vm h0) (fun _ _ _ _ _ => True) (fun _ U o_ U' => OutW Z EL U (Q_fam0 Z pg b v kv x t kt ns ty wx wt wk wd xh th kh hs G1 G3 h0 n0) Ro36.cells Ro36.slots o_ U') := by
  refine MetFree.of_bodySF (plainFor_of_name opn_9) hisR ?_
  intro p e s m args below meth c s₁ Bd hml0 hP hK
  obtain ⟨rfl, hZ, hh, hCH⟩ := hP
  have B : HB p c _ := ⟨Bd.exec, Bd.bytes⟩
  have hml : c.maxLocals = 4 := hml0
  have hret := Bd.returns
  have hlk : meth.locks = false := BodyLoose.notSynchronized Bd
  have hown : s.vm.findClass ss6 = some m.cls := findClass_of_methodNamed Bd.named
  have hnm := (name_of_methodNamed Bd.named Bd.method).1
  have Y : Stand p l e Ro36 (s.setVm s.vm) m #[(.ref pg), (.ref x), (.ref ty), (.ref xh)] below meth c s₁ [] 0 0 := Stand.of_body Bd
  have e0 : s₁.heap = h0 := by rw [← hh, Bd.state]; rfl
  have N0 := Fr.nil n0
  have hS0 : s.Since s.vm h0.size := (State.WarmedH.refl s).since _
  have CR0 : CHr Z EL s.vm s.heap s.vm h0 := by rw [hh]; exact CHr.refl hCH
  have K0 : Keep h0 h0 [pg, b, v] := Keep.refl h0 _
  show Go p e below (OutW Z EL s (Q_fam0 Z pg b v kv x t kt ns ty wx wt wk wd xh th kh hs G1 G3 h0 n0) Ro36.cells Ro36.slots) s₁ (entryFrame m #[(.ref pg), (.ref x), (.ref ty), (.ref xh)] 4)
  refine Go.cast (oef_fam0 m pg x ty xh) ?_
  show Go p e below _ _ (mkF m 0 #[rv pg, rv x, rv ty, rv xh] [])
  have hE := escL_len hs
  have Sfv : Safe Z EL s.vm h0 v := safe_len hZ (hEWs hw) B4 (by decide) (by decide)
  refine zalN Y B o671 rfl <| zalN Y B o672 rfl ?_
  refine Go.b3 (putF Y B.1 hZ hown (host := "") (Or.inl (ow75 hw)) Via.refl e0 Q2 Q0 (Or.inl (ow76 hw)) (ow44 hw) (ty := (.object ss0)) (by decide) rfl rfl rfl rfl (hb B.2 o673.1)) fun T30 h30 Y e30 W30 => ?_
  have N30 := Fr.snoc Y N0 g_pg
  have R31 := CHr.wr W30 (Safe.exa hZ.alike Q0 (by decide) (by decide)) CR0.1
  have CR31 := CR0.trans R31
  have K31 := K0.wr W30 (Or.inl (List.mem_of_getElem? (i := 0) rfl))
  have O31 := X00.wr W30 g_pg
  refine zalN Y B o674 rfl ?_
  have F33 := (Q1.other W30 (Or.inr (slot_ne (Or.inr (ow69 hw)) (Or.inl (ow76 hw)) (by decide) (t := (.object ss4)) (t' := (.object ss0)) (by decide) (by decide))))
  refine zgf Y B hZ hown (ow68 hw) Via.refl e30 F33 o675 fun _ Y e32 => ?_
  obtain ⟨sa34, T34, h34, k34, sb34, kb34, Y, e34, E34, hS34, hk34, hZ34, hown34, PE34, PC34, PV34, PA34, la34, lb34, R34, LT34, SF34, st34⟩ := ldcCH Y B.1 hZ hown (ow77 hw) (ostr hw) e32 hS0 (Nat.le_trans (Nat.le_refl _) K31.1) (hEW hw) (List.mem_of_getElem? (i := 0) rfl) CR31.1 (vs := ((([35, 32, 72, 69, 76, 80, 32] : List Int32).map (fun c => c.toInt8.toInt32)).map Value.int)) (z := (7 : Int32)) (by decide +kernel) (by decide) (by decide) (g := (mkF m 9 #[rv pg, rv x, rv ty, rv xh] [(.ref b)])) rfl (hb B.2 o676.1) (n := 28) (by decide) (by decide) (by decide) (by decide)
  refine Go.by st34 ?_
  have CR35 := CR31.trans R34
  have K35 := K31.ext E34
  have O35 := O31.ext E34
  show Go p e below _ _ (mkF m 11 #[rv pg, rv x, rv ty, rv xh] [(.ref sa34), (.ref b)])
  have F37 := ((B0.wr W30).ext E34)
  have F38 := ((B1.other W30 (Or.inl (ne_exa B0 Q0 (by decide)))).ext E34)
  have F39 := ((B2.other W30 (Or.inl (ne_exa B0 Q0 (by decide)))).ext E34)
  have F40 := ((B3.other W30 (Or.inl (ne_exa B0 Q0 (by decide)))).ext E34)
  have F41 := ((B4.other W30 (ne_exa B5 Q0 (by decide))).ext E34)
  have F42 := ((B5.wr W30).ext E34)
  refine zcv Y B hZ34 hown34 (ow78 hw) (ow79 hw) (notFace_of_selects (args := #[]) (mvT hZ34 (ow81 hw))) (ow81 hw) (ow80 hw) (ow52 hw) (ow82 hw) (by decide) F37 (rm_sbappS l Z a0 hw [] b v kv 16 ([] : List Int32) sa34 sb34 kb34 HELP G1 h34 n0 (Nat.le_trans Z0 K35.1) F37 F38 F39 F40 F41 F42 PE34 PC34 PV34 PA34 (by (try simp only [List.length_append, List.length_cons, List.length_nil, HELP_len, TYP_len, BS2_len, BSN_len]) <;> omega) (by decide) (g_v) (g_b) O2 P5 O35) e34 hml opd_30 rfl o677 rfl rfl rfl rfl rfl fun _ T36 _ Y hQ => ?_
  obtain ⟨rfl, N36q, K36q, P36_0, P36_1, P36_2, P36_3, P36_4, P36_5⟩ := hQ
  have N36 := Fr.app N30 N36q
  have Sf44 : Safe Z EL T34.vm h34 v := (R34.safe (B5.wr W30).lt (R31.safe B5.lt Sfv))
  have R43 := CHr.keep K36q (allS (Safe.exa hZ34.alike F37 (by decide) (by decide)) (allS Sf44 all0)) CR35.1
  have CR43 := CR35.trans R43
  have K43 := K35.trans K36q (allS (Or.inl (List.mem_of_getElem? (i := 1) rfl)) (allS (Or.inl (List.mem_of_getElem? (i := 2) rfl)) all0))
  have O43 := O35.keep K36q (allS g_b (allS g_v all0))
  refine zalN Y B o678 rfl ?_
  have F46 := (((S0.wr W30).ext E34).keep K36q)
  have F47 := (((S1.other W30 (Or.inl (ne_exa S0 Q0 (by decide)))).ext E34).keep K36q (ninS (ne_exa S0 B0 (by decide)) (ninS (ne_exa S0 B5 (by decide)) nin0)))
  have F48 := (((S2.other W30 (Or.inl (ne_exa S0 Q0 (by decide)))).ext E34).keep K36q (ninS (ne_exa S0 B0 (by decide)) (ninS (ne_exa S0 B5 (by decide)) nin0)))
  have F49 := (((S3.other W30 (Ne.symm (ne_arv Q0 (ow44 hw) S3))).ext E34).keep K36q (ninS (Ne.symm (ne_arv B0 (ow51 hw) S3)) (ninS (Ne.symm NVT) nin0)))
  refine zcv Y B hZ34 hown34 (ow78 hw) (ow79 hw) (notFace_of_selects (args := #[]) (mvT hZ34 (ow81 hw))) (ow81 hw) (ow80 hw) (ow52 hw) (ow82 hw) (by decide) P36_0 (rm_sbappS l Z a0 hw [] b v kv 16 (([] : List Int32) ++ HELP) x t kt ns G1 T36.heap n0 (Nat.le_trans Z0 K43.1) P36_0 P36_1 P36_2 P36_3 P36_4 P36_5 F46 F47 F48 F49 (by (try simp only [List.length_append, List.length_cons, List.length_nil, HELP_len, TYP_len, BS2_len, BSN_len]) <;> omega) (by decide) (g_v) (g_b) O2 P5 O43) rfl hml opd_30 rfl o679 rfl rfl rfl rfl rfl fun _ T45 _ Y hQ => ?_
  obtain ⟨rfl, N45q, K45q, P45_0, P45_1, P45_2, P45_3, P45_4, P45_5⟩ := hQ
  have N45 := Fr.app N36 N45q
  have Sf51 : Safe Z EL T34.vm T36.heap v := (R43.safe F42.lt Sf44)
  have R50 := CHr.keep K45q (allS (Safe.exa hZ34.alike P36_0 (by decide) (by decide)) (allS Sf51 all0)) CR43.1
  have CR50 := CR43.trans R50
  have K50 := K43.trans K45q (allS (Or.inl (List.mem_of_getElem? (i := 1) rfl)) (allS (Or.inl (List.mem_of_getElem? (i := 2) rfl)) all0))
  have O50 := O43.keep K45q (allS g_b (allS g_v all0))
  refine zbp Y B o680 (v := 32) rfl ?_
  refine zcv Y B hZ34 hown34 (ow125 hw) (ow126 hw) (notFace_of_selects (args := #[]) (mvT hZ34 (ow128 hw))) (ow128 hw) (ow127 hw) (ow52 hw) (ow129 hw) (by decide) P45_0 (rm_sbappC l Z a0 hw [] b v kv 16 ((([] : List Int32) ++ HELP) ++ ns) (32 : Int32) G1 T45.heap n0 (Nat.le_trans Z0 K50.1) P45_0 P45_1 P45_2 P45_3 P45_4 P45_5 (by (try simp only [List.length_append, List.length_cons, List.length_nil, HELP_len, TYP_len, BS2_len, BSN_len]) <;> omega) (by decide) (g_v) (g_b) (by decide) O2 P5 O50) rfl hml opd_31 rfl o681 rfl rfl rfl rfl rfl fun _ T52 _ Y hQ => ?_
  obtain ⟨rfl, N52q, K52q, P52_0, P52_1, P52_2, P52_3, P52_4, P52_5⟩ := hQ
  have N52 := Fr.app N45 N52q
  have Sf54 : Safe Z EL T34.vm T45.heap v := (R50.safe P36_5.lt Sf51)
  have R53 := CHr.keep K52q (allS (Safe.exa hZ34.alike P45_0 (by decide) (by decide)) (allS Sf54 all0)) CR50.1
  have CR53 := CR50.trans R53
  have K53 := K50.trans K52q (allS (Or.inl (List.mem_of_getElem? (i := 1) rfl)) (allS (Or.inl (List.mem_of_getElem? (i := 2) rfl)) all0))
  have O53 := O50.keep K52q (allS g_b (allS g_v all0))
  refine zpop Y B o682 rfl <| zalN Y B o683 rfl <| zalN Y B o684 rfl <| zc0 Y B o685 ?_
  have F56 := (((((Q0.wr W30).ext E34).keep K36q).keep K45q).keep K52q)
  have F57 := ((((F33.ext E34).keep K36q (ninS (ne_exa Q0 B0 (by decide)) (ninS (ne_exa Q0 B5 (by decide)) nin0))).keep K45q (ninS (ne_exa Q0 B0 (by decide)) (ninS (ne_exa Q0 B5 (by decide)) nin0))).keep K52q (ninS (ne_exa Q0 B0 (by decide)) (ninS (ne_exa Q0 B5 (by decide)) nin0)))
  have F58 := (((((H0.wr W30).ext E34).keep K36q).keep K45q).keep K52q)
  have F59 := (((((H1.other W30 (Or.inl (ne_exa H0 Q0 (by decide)))).ext E34).keep K36q (ninS (ne_exa H0 B0 (by decide)) (ninS (ne_exa H0 B5 (by decide)) nin0))).keep K45q (ninS (ne_exa H0 B0 (by decide)) (ninS (ne_exa H0 B5 (by decide)) nin0))).keep K52q (ninS (ne_exa H0 B0 (by decide)) (ninS (ne_exa H0 B5 (by decide)) nin0)))
  have F60 := (((((H2.other W30 (Or.inl (ne_exa H0 Q0 (by decide)))).ext E34).keep K36q (ninS (ne_exa H0 B0 (by decide)) (ninS (ne_exa H0 B5 (by decide)) nin0))).keep K45q (ninS (ne_exa H0 B0 (by decide)) (ninS (ne_exa H0 B5 (by decide)) nin0))).keep K52q (ninS (ne_exa H0 B0 (by decide)) (ninS (ne_exa H0 B5 (by decide)) nin0)))
  have F61 := (((((H3.other W30 (Ne.symm (ne_arv Q0 (ow44 hw) H3))).ext E34).keep K36q (ninS (Ne.symm (ne_arv B0 (ow51 hw) H3)) (ninS (Ne.symm NVH) nin0))).keep K45q (ninS (Ne.symm (ne_arv B0 (ow51 hw) H3)) (ninS (Ne.symm NVH) nin0))).keep K52q (ninS (Ne.symm (ne_arv B0 (ow51 hw) H3)) (ninS (Ne.symm NVH) nin0)))
  obtain ⟨cq55, kq55, q55a, q55b, cl55, q55c, q55d, q55f⟩ := isOf hZ34 rfl F56
  obtain ⟨_, _, ⟨T55, L55, k55, n55⟩, -, XX55, hSn55, hgn55, ⟨Lc55, hQ55, l55, y55, z55, RQ55⟩, st55⟩ := Y.privateBackS B.1 (y := mn47) hown34 (mvT hZ34 (ow143 hw)) (mvT hZ34 (ow144 hw)) (mvT hZ34 (own_selp2 (ow144 hw) (ow145 hw) (ow73 hw) rfl (by decide))) (Cond.privateMethod_at (args := #[]) (mvP hZ34 (ow145 hw))) (mvT hZ34 (ow146 hw)) (by decide) (backOfSH (W := 0) (rm_escd l Z a0 hw [] pg b v kv (((([] : List Int32) ++ HELP) ++ ns) ++ [(32 : Int32)]) xh th kh hs G1 G3 T52.heap n0 (Nat.le_trans Z0 K53.1) F56 F57 P52_0 P52_1 P52_2 P52_3 P52_4 P52_5 F58 F59 F60 F61 (by (try simp only [List.length_append, List.length_cons, List.length_nil, HELP_len, TYP_len, BS2_len, BSN_len]) <;> omega) (HH2) (HLH) (NVH) g_b g_v O2 P5 O53 O4 rG3) hZ34 (ow146 hw) (ow45 hw) (by decide) (by decide) (hEW hw) CR53.1) (g := (mkF m 27 #[rv pg, rv x, rv ty, rv xh] [(.int 0), (.ref xh), (.ref pg)])) rfl (by rw [hml]; rfl) (Steps.refl _) (a := pg) (cell := cl55) q55c (fun q hq => by rw [hq] at q55f; cases q55f) (argsL := [(.ref xh), (.int 0)]) (rest := []) (lenOf opd_32 rfl) rfl (by show 2 * 0 + _ ≤ _; exact Nat.le_of_eq rfl) (hb B.2 o686.1) (fun _ _ => ⟨rfl, rfl, (by decide : 2 + 4 ≤ _), (by decide : 32 + 24 ≤ _)⟩)
  dsimp only [Pt.U, Pt.locs, Pt.cells, Pt.slots] at XX55 hSn55 hgn55 l55 y55 z55 st55 hQ55 RQ55
  subst l55 y55 z55
  obtain ⟨Y, hS55, hZ55, hown55⟩ := rebS hS34 (Nat.le_trans hk34 (Nat.le_trans (Nat.le_trans K36q.1 K45q.1) K52q.1)) XX55 hSn55 hgn55 hZ34 hown34
  obtain ⟨rfl, N55q, K55q, P55_0, P55_1, P55_2, P55_3, P55_4, P55_5⟩ := hQ55
  have N55 := Fr.app N52 N55q
  refine Go.tr st55 ?_
  have CR62 := CR53.trans RQ55
  have K62 := K53.trans K55q (allS (Or.inl (List.mem_of_getElem? (i := 1) rfl)) (allS (Or.inl (List.mem_of_getElem? (i := 2) rfl)) all0))
  have O62 := O53.keep K55q (allS g_b (allS g_v all0))
  refine zalN Y B o687 rfl ?_
  have F64 := (F57.keep K55q (ninS (ne_exa Q0 B0 (by decide)) (ninS (ne_exa Q0 B5 (by decide)) nin0)))
  refine zgf Y B hZ55 hown55 (ow68 hw) Via.refl rfl F64 o688 fun _ Y e63 => ?_
  refine zbp Y B o689 (v := 10) rfl ?_
  refine zcv Y B hZ55 hown55 (ow125 hw) (ow126 hw) (notFace_of_selects (args := #[]) (mvT hZ55 (ow128 hw))) (ow128 hw) (ow127 hw) (ow52 hw) (ow129 hw) (by decide) P55_0 (rm_sbappC l Z a0 hw [] b v kv 16 ((((([] : List Int32) ++ HELP) ++ ns) ++ [(32 : Int32)]) ++ escL hs) (10 : Int32) G1 T55.heap n0 (Nat.le_trans Z0 K62.1) P55_0 P55_1 P55_2 P55_3 P55_4 P55_5 (by (try simp only [List.length_append, List.length_cons, List.length_nil, HELP_len, TYP_len, BS2_len, BSN_len]) <;> omega) (by decide) (g_v) (g_b) (by decide) O2 P5 O62) e63 hml opd_31 rfl o690 rfl rfl rfl rfl rfl fun _ T65 _ Y hQ => ?_
  obtain ⟨rfl, N65q, K65q, P65_0, P65_1, P65_2, P65_3, P65_4, P65_5⟩ := hQ
  have N65 := Fr.app N55 N65q
  have Sf67 : Safe Z EL T55.vm T55.heap v := (RQ55.safe P52_5.lt (R53.safe P45_5.lt Sf54))
  have R66 := CHr.keep K65q (allS (Safe.exa hZ55.alike P55_0 (by decide) (by decide)) (allS Sf67 all0)) CR62.1
  have CR66 := CR62.trans R66
  have K66 := K62.trans K65q (allS (Or.inl (List.mem_of_getElem? (i := 1) rfl)) (allS (Or.inl (List.mem_of_getElem? (i := 2) rfl)) all0))
  have O66 := O62.keep K65q (allS g_b (allS g_v all0))
  refine zpop Y B o691 rfl <| zalN Y B o692 rfl ?_
  have F69 := (F64.keep K65q (ninS (ne_exa Q0 B0 (by decide)) (ninS (ne_exa Q0 B5 (by decide)) nin0)))
  refine zgf Y B hZ55 hown55 (ow68 hw) Via.refl rfl F69 o693 fun _ Y e68 => ?_
  obtain ⟨sa70, T70, h70, k70, sb70, kb70, Y, e70, E70, hS70, hk70, hZ70, hown70, PE70, PC70, PV70, PA70, la70, lb70, R70, LT70, SF70, st70⟩ := ldcCH Y B.1 hZ55 hown55 (ow148 hw) (ostr hw) e68 hS55 (Nat.le_trans (Nat.le_refl _) K65q.1) (hEW hw) (List.mem_of_getElem? (i := 1) rfl) CR66.1 (vs := ((([35, 32, 84, 89, 80, 69, 32] : List Int32).map (fun c => c.toInt8.toInt32)).map Value.int)) (z := (7 : Int32)) (by decide +kernel) (by decide) (by decide) (g := (mkF m 44 #[rv pg, rv x, rv ty, rv xh] [(.ref b)])) rfl (hb B.2 o694.1) (n := 28) (by decide) (by decide) (by decide) (by decide)
  refine Go.by st70 ?_
  have CR71 := CR66.trans R70
  have K71 := K66.ext E70
  have O71 := O66.ext E70
  show Go p e below _ _ (mkF m 46 #[rv pg, rv x, rv ty, rv xh] [(.ref sa70), (.ref b)])
  have F73 := (P65_0.ext E70)
  have F74 := (P65_1.ext E70)
  have F75 := (P65_2.ext E70)
  have F76 := (P65_3.ext E70)
  have F77 := (P65_4.ext E70)
  have F78 := (P65_5.ext E70)
  refine zcv Y B hZ70 hown70 (ow78 hw) (ow79 hw) (notFace_of_selects (args := #[]) (mvT hZ70 (ow81 hw))) (ow81 hw) (ow80 hw) (ow52 hw) (ow82 hw) (by decide) F73 (rm_sbappS1 l Z a0 hw [] b v kv 16 (((((([] : List Int32) ++ HELP) ++ ns) ++ [(32 : Int32)]) ++ escL hs) ++ [(10 : Int32)]) sa70 sb70 kb70 TYP G1 h70 n0 (Nat.le_trans Z0 K71.1) F73 F74 F75 F76 F77 F78 PE70 PC70 PV70 PA70 (by refine ⟨?_, ?_⟩ <;> (try simp only [List.length_append, List.length_cons, List.length_nil, HELP_len, TYP_len, BS2_len, BSN_len]) <;> omega) (by unfold newCap; (try simp only [List.length_append, List.length_cons, List.length_nil, HELP_len, TYP_len, BS2_len, BSN_len]) <;> omega) (by (try simp only [List.length_append, List.length_cons, List.length_nil, HELP_len, TYP_len, BS2_len, BSN_len]) <;> omega) (g_b) O2 P5 O71) e70 hml opd_30 rfl o695 rfl rfl rfl rfl rfl fun _ T72 _ Y hQ => ?_
  obtain ⟨tn_72, kn_72, rfl, N72q, K72q, P72_0, P72_1, P72_2, P72_3, P72_4, P72_5, P72_6⟩ := hQ
  have N72 := Fr.app N65 N72q
  have R79 := CHr.keep K72q (allS (Safe.exa hZ70.alike F73 (by decide) (by decide)) all0) CR71.1
  have CR79 := CR71.trans R79
  have K79 := K71.trans K72q (allS (Or.inl (List.mem_of_getElem? (i := 1) rfl)) all0)
  have O79 := O71.keep K72q (allS g_b all0)
  have Sf80 : Safe Z EL T70.vm T72.heap tn_72 := Safe.keep K72q (allS (Safe.exa hZ70.alike F73 (by decide) (by decide)) all0) CR71.1 (Safe.new P72_0)
  have F81 : Arv Z T72.heap tn_72 kn_72 .byte (Int32.ofNat 34) (B8 ((((((([] : List Int32) ++ HELP) ++ ns) ++ [(32 : Int32)]) ++ escL hs) ++ [(10 : Int32)]) ++ TYP)) (.int 0) := by have q := P72_5; rw [show newCap 16 ((((((([] : List Int32) ++ HELP) ++ ns) ++ [(32 : Int32)]) ++ escL hs) ++ [(10 : Int32)]).length + TYP.length) = 34 from by unfold newCap; (try simp only [List.length_append, List.length_cons, List.length_nil, HELP_len, TYP_len, BS2_len, BSN_len]) <;> omega] at q; exact q
  refine zalN Y B o696 rfl ?_
  have F83 := ((((((F46.keep K45q).keep K52q).keep K55q).keep K65q).ext E70).keep K72q)
  have F84 := ((((((F47.keep K45q (ninS (ne_exa S0 B0 (by decide)) (ninS (ne_exa S0 B5 (by decide)) nin0))).keep K52q (ninS (ne_exa S0 B0 (by decide)) (ninS (ne_exa S0 B5 (by decide)) nin0))).keep K55q (ninS (ne_exa S0 B0 (by decide)) (ninS (ne_exa S0 B5 (by decide)) nin0))).keep K65q (ninS (ne_exa S0 B0 (by decide)) (ninS (ne_exa S0 B5 (by decide)) nin0))).ext E70).keep K72q (ninS (ne_exa S0 B0 (by decide)) nin0))
  have F85 := ((((((F48.keep K45q (ninS (ne_exa S0 B0 (by decide)) (ninS (ne_exa S0 B5 (by decide)) nin0))).keep K52q (ninS (ne_exa S0 B0 (by decide)) (ninS (ne_exa S0 B5 (by decide)) nin0))).keep K55q (ninS (ne_exa S0 B0 (by decide)) (ninS (ne_exa S0 B5 (by decide)) nin0))).keep K65q (ninS (ne_exa S0 B0 (by decide)) (ninS (ne_exa S0 B5 (by decide)) nin0))).ext E70).keep K72q (ninS (ne_exa S0 B0 (by decide)) nin0))
  have F86 := ((((((F49.keep K45q (ninS (Ne.symm (ne_arv B0 (ow51 hw) S3)) (ninS (Ne.symm NVT) nin0))).keep K52q (ninS (Ne.symm (ne_arv B0 (ow51 hw) S3)) (ninS (Ne.symm NVT) nin0))).keep K55q (ninS (Ne.symm (ne_arv B0 (ow51 hw) S3)) (ninS (Ne.symm NVT) nin0))).keep K65q (ninS (Ne.symm (ne_arv B0 (ow51 hw) S3)) (ninS (Ne.symm NVT) nin0))).ext E70).keep K72q (ninS (Ne.symm (ne_arv B0 (ow51 hw) S3)) nin0))
  refine zcv Y B hZ70 hown70 (ow78 hw) (ow79 hw) (notFace_of_selects (args := #[]) (mvT hZ70 (ow81 hw))) (ow81 hw) (ow80 hw) (ow52 hw) (ow82 hw) (by decide) P72_1 (rm_sbappS l Z a0 hw [] b tn_72 kn_72 34 ((((((([] : List Int32) ++ HELP) ++ ns) ++ [(32 : Int32)]) ++ escL hs) ++ [(10 : Int32)]) ++ TYP) x t kt ns G1 T72.heap n0 (Nat.le_trans Z0 K79.1) P72_1 P72_2 P72_3 P72_4 F81 P72_6 F83 F84 F85 F86 (by (try simp only [List.length_append, List.length_cons, List.length_nil, HELP_len, TYP_len, BS2_len, BSN_len]) <;> omega) (by decide) ((Nat.le_trans (Nat.le_trans Z0 K71.1) P72_0)) (g_b) O2 P5 O79) rfl hml opd_30 rfl o697 rfl rfl rfl rfl rfl fun _ T82 _ Y hQ => ?_
  obtain ⟨rfl, N82q, K82q, P82_0, P82_1, P82_2, P82_3, P82_4, P82_5⟩ := hQ
  have N82 := Fr.app N72 N82q
  have R87 := CHr.keep K82q (allS (Safe.exa hZ70.alike P72_1 (by decide) (by decide)) (allS Sf80 all0)) CR79.1
  have CR87 := CR79.trans R87
  have K87 := K79.trans K82q (allS (Or.inl (List.mem_of_getElem? (i := 1) rfl)) (allS (Or.inr (Nat.le_trans K71.1 P72_0)) all0))
  have O87 := O79.keep K82q (allS g_b (allS (Nat.le_trans (Nat.le_trans Z0 K71.1) P72_0) all0))
  refine zbp Y B o698 (v := 32) rfl ?_
  refine zcv Y B hZ70 hown70 (ow125 hw) (ow126 hw) (notFace_of_selects (args := #[]) (mvT hZ70 (ow128 hw))) (ow128 hw) (ow127 hw) (ow52 hw) (ow129 hw) (by decide) P82_0 (rm_sbappC l Z a0 hw [] b tn_72 kn_72 34 (((((((([] : List Int32) ++ HELP) ++ ns) ++ [(32 : Int32)]) ++ escL hs) ++ [(10 : Int32)]) ++ TYP) ++ ns) (32 : Int32) G1 T82.heap n0 (Nat.le_trans Z0 K87.1) P82_0 P82_1 P82_2 P82_3 P82_4 P82_5 (by (try simp only [List.length_append, List.length_cons, List.length_nil, HELP_len, TYP_len, BS2_len, BSN_len]) <;> omega) (by decide) ((Nat.le_trans (Nat.le_trans Z0 K71.1) P72_0)) (g_b) (by decide) O2 P5 O87) rfl hml opd_31 rfl o699 rfl rfl rfl rfl rfl fun _ T88 _ Y hQ => ?_
  obtain ⟨rfl, N88q, K88q, P88_0, P88_1, P88_2, P88_3, P88_4, P88_5⟩ := hQ
  have N88 := Fr.app N82 N88q
  have Sf90 : Safe Z EL T70.vm T82.heap tn_72 := (R87.safe P72_6.lt Sf80)
  have R89 := CHr.keep K88q (allS (Safe.exa hZ70.alike P82_0 (by decide) (by decide)) (allS Sf90 all0)) CR87.1
  have CR89 := CR87.trans R89
  have K89 := K87.trans K88q (allS (Or.inl (List.mem_of_getElem? (i := 1) rfl)) (allS (Or.inr (Nat.le_trans K71.1 P72_0)) all0))
  have O89 := O87.keep K88q (allS g_b (allS (Nat.le_trans (Nat.le_trans Z0 K71.1) P72_0) all0))
  refine zalN Y B o700 rfl ?_
  obtain ⟨T91, Y, e91, st91⟩ := own_getRef Y B.1 hZ70 hown70 (ow172 hw) rfl (W1.ext O89.2) (g := (mkF m 59 #[rv pg, rv x, rv ty, rv xh] [(.ref ty), (.ref b)])) rfl rfl (hb B.2 o701.1)
  refine Go.by st91 ?_
  show Go p e below _ _ (mkF m 62 #[rv pg, rv x, rv ty, rv xh] [(.ref wx), (.ref b)])
  refine zcv Y B hZ70 hown70 (ow78 hw) (ow79 hw) (notFace_of_selects (args := #[]) (mvT hZ70 (ow81 hw))) (ow81 hw) (ow80 hw) (ow52 hw) (ow82 hw) (by decide) P88_0 (rm_sbappS l Z a0 hw [] b tn_72 kn_72 34 ((((((((([] : List Int32) ++ HELP) ++ ns) ++ [(32 : Int32)]) ++ escL hs) ++ [(10 : Int32)]) ++ TYP) ++ ns) ++ [(32 : Int32)]) wx wt wk wd G1 T88.heap n0 (Nat.le_trans Z0 K89.1) P88_0 P88_1 P88_2 P88_3 P88_4 P88_5 (W2.ext O89.2) (W3.ext O89.2) (W4.ext O89.2) (W5.ext O89.2) (by (try simp only [List.length_append, List.length_cons, List.length_nil, HELP_len, TYP_len, BS2_len, BSN_len]) <;> omega) (by decide) ((Nat.le_trans (Nat.le_trans Z0 K71.1) P72_0)) (g_b) O2 P5 O89) e91 hml opd_30 rfl o702 rfl rfl rfl rfl rfl fun _ T92 _ Y hQ => ?_
  obtain ⟨rfl, N92q, K92q, P92_0, P92_1, P92_2, P92_3, P92_4, P92_5⟩ := hQ
  have N92 := Fr.app N88 N92q
  have Sf94 : Safe Z EL T70.vm T88.heap tn_72 := (R89.safe P82_5.lt Sf90)
  have R93 := CHr.keep K92q (allS (Safe.exa hZ70.alike P88_0 (by decide) (by decide)) (allS Sf94 all0)) CR89.1
  have CR93 := CR89.trans R93
  have K93 := K89.trans K92q (allS (Or.inl (List.mem_of_getElem? (i := 1) rfl)) (allS (Or.inr (Nat.le_trans K71.1 P72_0)) all0))
  have O93 := O89.keep K92q (allS g_b (allS (Nat.le_trans (Nat.le_trans Z0 K71.1) P72_0) all0))
  refine zbp Y B o703 (v := 10) rfl ?_
  refine zcv Y B hZ70 hown70 (ow125 hw) (ow126 hw) (notFace_of_selects (args := #[]) (mvT hZ70 (ow128 hw))) (ow128 hw) (ow127 hw) (ow52 hw) (ow129 hw) (by decide) P92_0 (rm_sbappC l Z a0 hw [] b tn_72 kn_72 34 (((((((((([] : List Int32) ++ HELP) ++ ns) ++ [(32 : Int32)]) ++ escL hs) ++ [(10 : Int32)]) ++ TYP) ++ ns) ++ [(32 : Int32)]) ++ wd) (10 : Int32) G1 T92.heap n0 (Nat.le_trans Z0 K93.1) P92_0 P92_1 P92_2 P92_3 P92_4 P92_5 (by (try simp only [List.length_append, List.length_cons, List.length_nil, HELP_len, TYP_len, BS2_len, BSN_len]) <;> omega) (by decide) ((Nat.le_trans (Nat.le_trans Z0 K71.1) P72_0)) (g_b) (by decide) O2 P5 O93) rfl hml opd_31 rfl o704 rfl rfl rfl rfl rfl fun _ T95 _ Y hQ => ?_
  obtain ⟨rfl, N95q, K95q, P95_0, P95_1, P95_2, P95_3, P95_4, P95_5⟩ := hQ
  have N95 := Fr.app N92 N95q
  have Sf97 : Safe Z EL T70.vm T92.heap tn_72 := (R93.safe P88_5.lt Sf94)
  have R96 := CHr.keep K95q (allS (Safe.exa hZ70.alike P92_0 (by decide) (by decide)) (allS Sf97 all0)) CR93.1
  have CR96 := CR93.trans R96
  have K96 := K93.trans K95q (allS (Or.inl (List.mem_of_getElem? (i := 1) rfl)) (allS (Or.inr (Nat.le_trans K71.1 P72_0)) all0))
  have O96 := O93.keep K95q (allS g_b (allS (Nat.le_trans (Nat.le_trans Z0 K71.1) P72_0) all0))
  refine zpop Y B o705 rfl ?_
  have F98 := ((((((((F56.keep K55q).keep K65q).ext E70).keep K72q).keep K82q).keep K88q).keep K92q).keep K95q)
  have F99 := ((((((F69.ext E70).keep K72q (ninS (ne_exa Q0 B0 (by decide)) nin0)).keep K82q (ninS (ne_exa Q0 B0 (by decide)) (ninS (Nat.ne_of_lt (Nat.lt_of_lt_of_le (((F56.keep K55q).keep K65q).ext E70).lt P72_0)) nin0))).keep K88q (ninS (ne_exa Q0 B0 (by decide)) (ninS (Nat.ne_of_lt (Nat.lt_of_lt_of_le (((F56.keep K55q).keep K65q).ext E70).lt P72_0)) nin0))).keep K92q (ninS (ne_exa Q0 B0 (by decide)) (ninS (Nat.ne_of_lt (Nat.lt_of_lt_of_le (((F56.keep K55q).keep K65q).ext E70).lt P72_0)) nin0))).keep K95q (ninS (ne_exa Q0 B0 (by decide)) (ninS (Nat.ne_of_lt (Nat.lt_of_lt_of_le (((F56.keep K55q).keep K65q).ext E70).lt P72_0)) nin0)))
  have F100 := (((((((((((((Q2.same W30).ext E34).keep K36q (ninS (ne_exa Q0 B0 (by decide)) (ninS (ne_exa Q0 B5 (by decide)) nin0))).keep K45q (ninS (ne_exa Q0 B0 (by decide)) (ninS (ne_exa Q0 B5 (by decide)) nin0))).keep K52q (ninS (ne_exa Q0 B0 (by decide)) (ninS (ne_exa Q0 B5 (by decide)) nin0))).keep K55q (ninS (ne_exa Q0 B0 (by decide)) (ninS (ne_exa Q0 B5 (by decide)) nin0))).keep K65q (ninS (ne_exa Q0 B0 (by decide)) (ninS (ne_exa Q0 B5 (by decide)) nin0))).ext E70).keep K72q (ninS (ne_exa Q0 B0 (by decide)) nin0)).keep K82q (ninS (ne_exa Q0 B0 (by decide)) (ninS (Nat.ne_of_lt (Nat.lt_of_lt_of_le (((F56.keep K55q).keep K65q).ext E70).lt P72_0)) nin0))).keep K88q (ninS (ne_exa Q0 B0 (by decide)) (ninS (Nat.ne_of_lt (Nat.lt_of_lt_of_le (((F56.keep K55q).keep K65q).ext E70).lt P72_0)) nin0))).keep K92q (ninS (ne_exa Q0 B0 (by decide)) (ninS (Nat.ne_of_lt (Nat.lt_of_lt_of_le (((F56.keep K55q).keep K65q).ext E70).lt P72_0)) nin0))).keep K95q (ninS (ne_exa Q0 B0 (by decide)) (ninS (Nat.ne_of_lt (Nat.lt_of_lt_of_le (((F56.keep K55q).keep K65q).ext E70).lt P72_0)) nin0)))
  exact Go.ret0W Y B.1 hret hlk (hb B.2 o706.1) hS70 (Nat.le_trans hk70 (Nat.le_trans (Nat.le_trans (Nat.le_trans (Nat.le_trans K72q.1 K82q.1) K88q.1) K92q.1) K95q.1)) hZ70 (hEW hw) CR96 ⟨tn_72, kn_72, rfl, N95, K96, (Nat.le_trans K71.1 P72_0), F98, F99, F100, P95_0, P95_1, P95_2, P95_3, P95_4, P95_5⟩ (by decide) (by decide)
def Q_fam1 (Z : State) (pg b v : Addr) (kv : ClassId) (x t : Addr) (kt : ClassId) (ns : List Int32) (ty wx wt : Addr) (wk : ClassId) (wd : List Int32) (xh th : Addr) (kh : ClassId) (hs : List Int32) (G1 : Int32) (G3 : Value) (h0 : Heap) (n0 : Nat) : QT := fun rv hE LE => ∃ v' : Addr, ∃ kv' : ClassId, rv = none ∧ Fr n0 LE ∧ Keep h0 hE [pg, b, v] ∧ (h0.size ≤ v') ∧ (Exa Z hE pg ss6) ∧ (Fld Z hE pg ss6 "page" ss11 (.ref b)) ∧ (Fld Z hE pg ss6 ss18 ss9 (.ref x)) ∧ (Exa Z hE b ss4) ∧ (Fld Z hE b ss1 ss2 "B" (.int 0)) ∧ (Fld Z hE b ss1 ss3 "[B" (.ref v')) ∧ (Fld Z hE b ss1 ss5 "I" (.int (Int32.ofNat ((((((((((([] : List Int32) ++ HELP) ++ ns) ++ [(32 : Int32)]) ++ escL hs) ++ [(10 : Int32)]) ++ TYP) ++ ns) ++ [(32 : Int32)]) ++ wd) ++ [(10 : Int32)]).length))) ∧ (Arv Z hE v' kv' .byte (Int32.ofNat 70) (B8 ((((((((((([] : List Int32) ++ HELP) ++ ns) ++ [(32 : Int32)]) ++ escL hs) ++ [(10 : Int32)]) ++ TYP) ++ ns) ++ [(32 : Int32)]) ++ wd) ++ [(10 : Int32)])) (.int 0)) ∧ (Exa Z hE v' "[B")
theorem rm_fam1 (l : Launch) (Z : State) (a0 : Array Value) (hw : HW a0 Z) (ws : List Jvm.Cond) (pg b v : Addr) (kv : ClassId) (x t : Addr) (kt : ClassId) (ns : List Int32) (ty wx wt : Addr) (wk : ClassId) (wd : List Int32) (xh th : Addr) (kh : ClassId) (hs : List Int32) (G1 : Int32) (G3 : Value) (h0 : Heap) (n0 : Nat) (Z0 : n0 ≤ h0.size) (Q0 : Exa Z h0 pg ss6) (Q1 : Fld Z h0 pg ss6 "page" ss11 (.ref b)) (Q2 : Fld Z h0 pg ss6 ss18 ss9 .null) (B0 : Exa Z h0 b ss4) (B1 : Fld Z h0 b ss1 ss2 "B" (.int 0)) (B2 : Fld Z h0 b ss1 ss3 "[B" (.ref v)) (B3 : Fld Z h0 b ss1 ss5 "I" (.int (Int32.ofNat ([] : List Int32).length))) (B4 : Arv Z h0 v kv .byte (Int32.ofNat 16) (B8 ([] : List Int32)) (.int 0)) (B5 : Exa Z h0 v "[B") (S0 : Exa Z h0 x ss0) (S1 : Fld Z h0 x ss0 ss2 "B" (.int 0)) (S2 : Fld Z h0 x ss0 ss3 "[B" (.ref t)) (S3 : Arv Z h0 t kt .byte (Int32.ofNat ns.length) (B8 ns) (.int 0)) (W0 : Exa Z Z.heap ty ss8) (W1 : Fld Z Z.heap ty ss8 "word" ss9 (.ref wx)) (W2 : Exa Z Z.heap wx ss0) (W3 : Fld Z Z.heap wx ss0 ss2 "B" (.int 0)) (W4 : Fld Z Z.heap wx ss0 ss3 "[B" (.ref wt)) (W5 : Arv Z Z.heap wt wk .byte (Int32.ofNat wd.length) (B8 wd) (.int 0)) (H0 : Exa Z h0 xh ss0) (H1 : Fld Z h0 xh ss0 ss2 "B" (.int 0)) (H2 : Fld Z h0 xh ss0 ss3 "[B" (.ref th)) (H3 : Arv Z h0 th kh .byte (Int32.ofNat hs.length) (B8 hs) (.int 0)) (HN2 : ns.length = 2) (HH2 : hs.length ≤ 2) (HLH : Lo hs) (HWL : (escL hs).length + wd.length = 13) (NVT : v ≠ t) (NVH : v ≠ th) (g_pg : n0 ≤ pg) (g_b : n0 ≤ b) (g_v : n0 ≤ v) (O2 : Sta Z Z.heap ss0 ss7 "Z" (.int G1)) (P5 : ¬ (G1 = (0 : Int32))) (X00 : Old Z n0 h0) (O4 : Sta Z Z.heap ss10 ss12 ss13 G3) (rG3 : G3.isRef = true) :
    MetFree l mn48 (head1 (Jvm.Cond.code mn48 cB48 4 (Option.none : Option Jvm.ClassFile.FieldType) :: ws) Ro37) (fun ar_ U => ar_ = #[(.ref pg), (.ref x), (.ref ty), (.ref xh)] ∧ Z.Warmed39 U.vm ∧ U.heap = h0 ∧ CHv Z EL U.vm h0) (fun _ _ _ _ _ => True) (fun _ U o_ U' => OutW Z EL U (Q_fam1 Z pg b v kv x t kt ns ty wx wt wk wd xh th kh hs G1 G3 h0 n0) Ro37.cells Ro37.slots o_ U') := by
  refine MetFree.of_bodySF (plainFor_of_name opn_9) hisR ?_
  intro p e s m args below meth c s₁ Bd hml0 hP hK
  obtain ⟨rfl, hZ, hh, hCH⟩ := hP
  have B : HB p c _ := ⟨Bd.exec, Bd.bytes⟩
  have hml : c.maxLocals = 4 := hml0
  have hret := Bd.returns
  have hlk : meth.locks = false := BodyLoose.notSynchronized Bd
  have hown : s.vm.findClass ss6 = some m.cls := findClass_of_methodNamed Bd.named
  have hnm := (name_of_methodNamed Bd.named Bd.method).1
  have Y : Stand p l e Ro37 (s.setVm s.vm) m #[(.ref pg), (.ref x), (.ref ty), (.ref xh)] below meth c s₁ [] 0 0 := Stand.of_body Bd
  have e0 : s₁.heap = h0 := by rw [← hh, Bd.state]; rfl
  have N0 := Fr.nil n0
  have hS0 : s.Since s.vm h0.size := (State.WarmedH.refl s).since _
  have CR0 : CHr Z EL s.vm s.heap s.vm h0 := by rw [hh]; exact CHr.refl hCH
  have K0 : Keep h0 h0 [pg, b, v] := Keep.refl h0 _
  show Go p e below (OutW Z EL s (Q_fam1 Z pg b v kv x t kt ns ty wx wt wk wd xh th kh hs G1 G3 h0 n0) Ro37.cells Ro37.slots) s₁ (entryFrame m #[(.ref pg), (.ref x), (.ref ty), (.ref xh)] 4)
  refine Go.cast (oef_fam1 m pg x ty xh) ?_
  show Go p e below _ _ (mkF m 0 #[rv pg, rv x, rv ty, rv xh] [])
  have hE := escL_len hs
  have Sfv : Safe Z EL s.vm h0 v := safe_len hZ (hEWs hw) B4 (by decide) (by decide)
  refine zalN Y B o671 rfl <| zalN Y B o672 rfl ?_
  refine Go.b3 (putF Y B.1 hZ hown (host := "") (Or.inl (ow75 hw)) Via.refl e0 Q2 Q0 (Or.inl (ow76 hw)) (ow44 hw) (ty := (.object ss0)) (by decide) rfl rfl rfl rfl (hb B.2 o673.1)) fun T30 h30 Y e30 W30 => ?_
  have N30 := Fr.snoc Y N0 g_pg
  have R31 := CHr.wr W30 (Safe.exa hZ.alike Q0 (by decide) (by decide)) CR0.1
  have CR31 := CR0.trans R31
  have K31 := K0.wr W30 (Or.inl (List.mem_of_getElem? (i := 0) rfl))
  have O31 := X00.wr W30 g_pg
  refine zalN Y B o674 rfl ?_
  have F33 := (Q1.other W30 (Or.inr (slot_ne (Or.inr (ow69 hw)) (Or.inl (ow76 hw)) (by decide) (t := (.object ss4)) (t' := (.object ss0)) (by decide) (by decide))))
  refine zgf Y B hZ hown (ow68 hw) Via.refl e30 F33 o675 fun _ Y e32 => ?_
  obtain ⟨sa34, T34, h34, k34, sb34, kb34, Y, e34, E34, hS34, hk34, hZ34, hown34, PE34, PC34, PV34, PA34, la34, lb34, R34, LT34, SF34, st34⟩ := ldcCH Y B.1 hZ hown (ow77 hw) (ostr hw) e32 hS0 (Nat.le_trans (Nat.le_refl _) K31.1) (hEW hw) (List.mem_of_getElem? (i := 0) rfl) CR31.1 (vs := ((([35, 32, 72, 69, 76, 80, 32] : List Int32).map (fun c => c.toInt8.toInt32)).map Value.int)) (z := (7 : Int32)) (by decide +kernel) (by decide) (by decide) (g := (mkF m 9 #[rv pg, rv x, rv ty, rv xh] [(.ref b)])) rfl (hb B.2 o676.1) (n := 28) (by decide) (by decide) (by decide) (by decide)
  refine Go.by st34 ?_
  have CR35 := CR31.trans R34
  have K35 := K31.ext E34
  have O35 := O31.ext E34
  show Go p e below _ _ (mkF m 11 #[rv pg, rv x, rv ty, rv xh] [(.ref sa34), (.ref b)])
  have F37 := ((B0.wr W30).ext E34)
  have F38 := ((B1.other W30 (Or.inl (ne_exa B0 Q0 (by decide)))).ext E34)
  have F39 := ((B2.other W30 (Or.inl (ne_exa B0 Q0 (by decide)))).ext E34)
  have F40 := ((B3.other W30 (Or.inl (ne_exa B0 Q0 (by decide)))).ext E34)
  have F41 := ((B4.other W30 (ne_exa B5 Q0 (by decide))).ext E34)
  have F42 := ((B5.wr W30).ext E34)
  refine zcv Y B hZ34 hown34 (ow78 hw) (ow79 hw) (notFace_of_selects (args := #[]) (mvT hZ34 (ow81 hw))) (ow81 hw) (ow80 hw) (ow52 hw) (ow82 hw) (by decide) F37 (rm_sbappS l Z a0 hw [] b v kv 16 ([] : List Int32) sa34 sb34 kb34 HELP G1 h34 n0 (Nat.le_trans Z0 K35.1) F37 F38 F39 F40 F41 F42 PE34 PC34 PV34 PA34 (by (try simp only [List.length_append, List.length_cons, List.length_nil, HELP_len, TYP_len, BS2_len, BSN_len]) <;> omega) (by decide) (g_v) (g_b) O2 P5 O35) e34 hml opd_30 rfl o677 rfl rfl rfl rfl rfl fun _ T36 _ Y hQ => ?_
  obtain ⟨rfl, N36q, K36q, P36_0, P36_1, P36_2, P36_3, P36_4, P36_5⟩ := hQ
  have N36 := Fr.app N30 N36q
  have Sf44 : Safe Z EL T34.vm h34 v := (R34.safe (B5.wr W30).lt (R31.safe B5.lt Sfv))
  have R43 := CHr.keep K36q (allS (Safe.exa hZ34.alike F37 (by decide) (by decide)) (allS Sf44 all0)) CR35.1
  have CR43 := CR35.trans R43
  have K43 := K35.trans K36q (allS (Or.inl (List.mem_of_getElem? (i := 1) rfl)) (allS (Or.inl (List.mem_of_getElem? (i := 2) rfl)) all0))
  have O43 := O35.keep K36q (allS g_b (allS g_v all0))
  refine zalN Y B o678 rfl ?_
  have F46 := (((S0.wr W30).ext E34).keep K36q)
  have F47 := (((S1.other W30 (Or.inl (ne_exa S0 Q0 (by decide)))).ext E34).keep K36q (ninS (ne_exa S0 B0 (by decide)) (ninS (ne_exa S0 B5 (by decide)) nin0)))
  have F48 := (((S2.other W30 (Or.inl (ne_exa S0 Q0 (by decide)))).ext E34).keep K36q (ninS (ne_exa S0 B0 (by decide)) (ninS (ne_exa S0 B5 (by decide)) nin0)))
  have F49 := (((S3.other W30 (Ne.symm (ne_arv Q0 (ow44 hw) S3))).ext E34).keep K36q (ninS (Ne.symm (ne_arv B0 (ow51 hw) S3)) (ninS (Ne.symm NVT) nin0)))
  refine zcv Y B hZ34 hown34 (ow78 hw) (ow79 hw) (notFace_of_selects (args := #[]) (mvT hZ34 (ow81 hw))) (ow81 hw) (ow80 hw) (ow52 hw) (ow82 hw) (by decide) P36_0 (rm_sbappS l Z a0 hw [] b v kv 16 (([] : List Int32) ++ HELP) x t kt ns G1 T36.heap n0 (Nat.le_trans Z0 K43.1) P36_0 P36_1 P36_2 P36_3 P36_4 P36_5 F46 F47 F48 F49 (by (try simp only [List.length_append, List.length_cons, List.length_nil, HELP_len, TYP_len, BS2_len, BSN_len]) <;> omega) (by decide) (g_v) (g_b) O2 P5 O43) rfl hml opd_30 rfl o679 rfl rfl rfl rfl rfl fun _ T45 _ Y hQ => ?_
  obtain ⟨rfl, N45q, K45q, P45_0, P45_1, P45_2, P45_3, P45_4, P45_5⟩ := hQ
  have N45 := Fr.app N36 N45q
  have Sf51 : Safe Z EL T34.vm T36.heap v := (R43.safe F42.lt Sf44)
  have R50 := CHr.keep K45q (allS (Safe.exa hZ34.alike P36_0 (by decide) (by decide)) (allS Sf51 all0)) CR43.1
  have CR50 := CR43.trans R50
  have K50 := K43.trans K45q (allS (Or.inl (List.mem_of_getElem? (i := 1) rfl)) (allS (Or.inl (List.mem_of_getElem? (i := 2) rfl)) all0))
  have O50 := O43.keep K45q (allS g_b (allS g_v all0))
  refine zbp Y B o680 (v := 32) rfl ?_
  refine zcv Y B hZ34 hown34 (ow125 hw) (ow126 hw) (notFace_of_selects (args := #[]) (mvT hZ34 (ow128 hw))) (ow128 hw) (ow127 hw) (ow52 hw) (ow129 hw) (by decide) P45_0 (rm_sbappC l Z a0 hw [] b v kv 16 ((([] : List Int32) ++ HELP) ++ ns) (32 : Int32) G1 T45.heap n0 (Nat.le_trans Z0 K50.1) P45_0 P45_1 P45_2 P45_3 P45_4 P45_5 (by (try simp only [List.length_append, List.length_cons, List.length_nil, HELP_len, TYP_len, BS2_len, BSN_len]) <;> omega) (by decide) (g_v) (g_b) (by decide) O2 P5 O50) rfl hml opd_31 rfl o681 rfl rfl rfl rfl rfl fun _ T52 _ Y hQ => ?_
  obtain ⟨rfl, N52q, K52q, P52_0, P52_1, P52_2, P52_3, P52_4, P52_5⟩ := hQ
  have N52 := Fr.app N45 N52q
  have Sf54 : Safe Z EL T34.vm T45.heap v := (R50.safe P36_5.lt Sf51)
  have R53 := CHr.keep K52q (allS (Safe.exa hZ34.alike P45_0 (by decide) (by decide)) (allS Sf54 all0)) CR50.1
  have CR53 := CR50.trans R53
  have K53 := K50.trans K52q (allS (Or.inl (List.mem_of_getElem? (i := 1) rfl)) (allS (Or.inl (List.mem_of_getElem? (i := 2) rfl)) all0))
  have O53 := O50.keep K52q (allS g_b (allS g_v all0))
  refine zpop Y B o682 rfl <| zalN Y B o683 rfl <| zalN Y B o684 rfl <| zc0 Y B o685 ?_
  have F56 := (((((Q0.wr W30).ext E34).keep K36q).keep K45q).keep K52q)
  have F57 := ((((F33.ext E34).keep K36q (ninS (ne_exa Q0 B0 (by decide)) (ninS (ne_exa Q0 B5 (by decide)) nin0))).keep K45q (ninS (ne_exa Q0 B0 (by decide)) (ninS (ne_exa Q0 B5 (by decide)) nin0))).keep K52q (ninS (ne_exa Q0 B0 (by decide)) (ninS (ne_exa Q0 B5 (by decide)) nin0)))
  have F58 := (((((H0.wr W30).ext E34).keep K36q).keep K45q).keep K52q)
  have F59 := (((((H1.other W30 (Or.inl (ne_exa H0 Q0 (by decide)))).ext E34).keep K36q (ninS (ne_exa H0 B0 (by decide)) (ninS (ne_exa H0 B5 (by decide)) nin0))).keep K45q (ninS (ne_exa H0 B0 (by decide)) (ninS (ne_exa H0 B5 (by decide)) nin0))).keep K52q (ninS (ne_exa H0 B0 (by decide)) (ninS (ne_exa H0 B5 (by decide)) nin0)))
  have F60 := (((((H2.other W30 (Or.inl (ne_exa H0 Q0 (by decide)))).ext E34).keep K36q (ninS (ne_exa H0 B0 (by decide)) (ninS (ne_exa H0 B5 (by decide)) nin0))).keep K45q (ninS (ne_exa H0 B0 (by decide)) (ninS (ne_exa H0 B5 (by decide)) nin0))).keep K52q (ninS (ne_exa H0 B0 (by decide)) (ninS (ne_exa H0 B5 (by decide)) nin0)))
  have F61 := (((((H3.other W30 (Ne.symm (ne_arv Q0 (ow44 hw) H3))).ext E34).keep K36q (ninS (Ne.symm (ne_arv B0 (ow51 hw) H3)) (ninS (Ne.symm NVH) nin0))).keep K45q (ninS (Ne.symm (ne_arv B0 (ow51 hw) H3)) (ninS (Ne.symm NVH) nin0))).keep K52q (ninS (Ne.symm (ne_arv B0 (ow51 hw) H3)) (ninS (Ne.symm NVH) nin0)))
  obtain ⟨cq55, kq55, q55a, q55b, cl55, q55c, q55d, q55f⟩ := isOf hZ34 rfl F56
  obtain ⟨_, _, ⟨T55, L55, k55, n55⟩, -, XX55, hSn55, hgn55, ⟨Lc55, hQ55, l55, y55, z55, RQ55⟩, st55⟩ := Y.privateBackS B.1 (y := mn47) hown34 (mvT hZ34 (ow143 hw)) (mvT hZ34 (ow144 hw)) (mvT hZ34 (own_selp2 (ow144 hw) (ow145 hw) (ow73 hw) rfl (by decide))) (Cond.privateMethod_at (args := #[]) (mvP hZ34 (ow145 hw))) (mvT hZ34 (ow146 hw)) (by decide) (backOfSH (W := 0) (rm_escd l Z a0 hw [] pg b v kv (((([] : List Int32) ++ HELP) ++ ns) ++ [(32 : Int32)]) xh th kh hs G1 G3 T52.heap n0 (Nat.le_trans Z0 K53.1) F56 F57 P52_0 P52_1 P52_2 P52_3 P52_4 P52_5 F58 F59 F60 F61 (by (try simp only [List.length_append, List.length_cons, List.length_nil, HELP_len, TYP_len, BS2_len, BSN_len]) <;> omega) (HH2) (HLH) (NVH) g_b g_v O2 P5 O53 O4 rG3) hZ34 (ow146 hw) (ow45 hw) (by decide) (by decide) (hEW hw) CR53.1) (g := (mkF m 27 #[rv pg, rv x, rv ty, rv xh] [(.int 0), (.ref xh), (.ref pg)])) rfl (by rw [hml]; rfl) (Steps.refl _) (a := pg) (cell := cl55) q55c (fun q hq => by rw [hq] at q55f; cases q55f) (argsL := [(.ref xh), (.int 0)]) (rest := []) (lenOf opd_32 rfl) rfl (by show 2 * 0 + _ ≤ _; exact Nat.le_of_eq rfl) (hb B.2 o686.1) (fun _ _ => ⟨rfl, rfl, (by decide : 2 + 4 ≤ _), (by decide : 32 + 24 ≤ _)⟩)
  dsimp only [Pt.U, Pt.locs, Pt.cells, Pt.slots] at XX55 hSn55 hgn55 l55 y55 z55 st55 hQ55 RQ55
  subst l55 y55 z55
  obtain ⟨Y, hS55, hZ55, hown55⟩ := rebS hS34 (Nat.le_trans hk34 (Nat.le_trans (Nat.le_trans K36q.1 K45q.1) K52q.1)) XX55 hSn55 hgn55 hZ34 hown34
  obtain ⟨rfl, N55q, K55q, P55_0, P55_1, P55_2, P55_3, P55_4, P55_5⟩ := hQ55
  have N55 := Fr.app N52 N55q
  refine Go.tr st55 ?_
  have CR62 := CR53.trans RQ55
  have K62 := K53.trans K55q (allS (Or.inl (List.mem_of_getElem? (i := 1) rfl)) (allS (Or.inl (List.mem_of_getElem? (i := 2) rfl)) all0))
  have O62 := O53.keep K55q (allS g_b (allS g_v all0))
  refine zalN Y B o687 rfl ?_
  have F64 := (F57.keep K55q (ninS (ne_exa Q0 B0 (by decide)) (ninS (ne_exa Q0 B5 (by decide)) nin0)))
  refine zgf Y B hZ55 hown55 (ow68 hw) Via.refl rfl F64 o688 fun _ Y e63 => ?_
  refine zbp Y B o689 (v := 10) rfl ?_
  refine zcv Y B hZ55 hown55 (ow125 hw) (ow126 hw) (notFace_of_selects (args := #[]) (mvT hZ55 (ow128 hw))) (ow128 hw) (ow127 hw) (ow52 hw) (ow129 hw) (by decide) P55_0 (rm_sbappC l Z a0 hw [] b v kv 16 ((((([] : List Int32) ++ HELP) ++ ns) ++ [(32 : Int32)]) ++ escL hs) (10 : Int32) G1 T55.heap n0 (Nat.le_trans Z0 K62.1) P55_0 P55_1 P55_2 P55_3 P55_4 P55_5 (by (try simp only [List.length_append, List.length_cons, List.length_nil, HELP_len, TYP_len, BS2_len, BSN_len]) <;> omega) (by decide) (g_v) (g_b) (by decide) O2 P5 O62) e63 hml opd_31 rfl o690 rfl rfl rfl rfl rfl fun _ T65 _ Y hQ => ?_
  obtain ⟨rfl, N65q, K65q, P65_0, P65_1, P65_2, P65_3, P65_4, P65_5⟩ := hQ
  have N65 := Fr.app N55 N65q
  have Sf67 : Safe Z EL T55.vm T55.heap v := (RQ55.safe P52_5.lt (R53.safe P45_5.lt Sf54))
  have R66 := CHr.keep K65q (allS (Safe.exa hZ55.alike P55_0 (by decide) (by decide)) (allS Sf67 all0)) CR62.1
  have CR66 := CR62.trans R66
  have K66 := K62.trans K65q (allS (Or.inl (List.mem_of_getElem? (i := 1) rfl)) (allS (Or.inl (List.mem_of_getElem? (i := 2) rfl)) all0))
  have O66 := O62.keep K65q (allS g_b (allS g_v all0))
  refine zpop Y B o691 rfl <| zalN Y B o692 rfl ?_
  have F69 := (F64.keep K65q (ninS (ne_exa Q0 B0 (by decide)) (ninS (ne_exa Q0 B5 (by decide)) nin0)))
  refine zgf Y B hZ55 hown55 (ow68 hw) Via.refl rfl F69 o693 fun _ Y e68 => ?_
  obtain ⟨sa70, T70, h70, k70, sb70, kb70, Y, e70, E70, hS70, hk70, hZ70, hown70, PE70, PC70, PV70, PA70, la70, lb70, R70, LT70, SF70, st70⟩ := ldcCH Y B.1 hZ55 hown55 (ow148 hw) (ostr hw) e68 hS55 (Nat.le_trans (Nat.le_refl _) K65q.1) (hEW hw) (List.mem_of_getElem? (i := 1) rfl) CR66.1 (vs := ((([35, 32, 84, 89, 80, 69, 32] : List Int32).map (fun c => c.toInt8.toInt32)).map Value.int)) (z := (7 : Int32)) (by decide +kernel) (by decide) (by decide) (g := (mkF m 44 #[rv pg, rv x, rv ty, rv xh] [(.ref b)])) rfl (hb B.2 o694.1) (n := 28) (by decide) (by decide) (by decide) (by decide)
  refine Go.by st70 ?_
  have CR71 := CR66.trans R70
  have K71 := K66.ext E70
  have O71 := O66.ext E70
  show Go p e below _ _ (mkF m 46 #[rv pg, rv x, rv ty, rv xh] [(.ref sa70), (.ref b)])
  have F73 := (P65_0.ext E70)
  have F74 := (P65_1.ext E70)
  have F75 := (P65_2.ext E70)
  have F76 := (P65_3.ext E70)
  have F77 := (P65_4.ext E70)
  have F78 := (P65_5.ext E70)
  refine zcv Y B hZ70 hown70 (ow78 hw) (ow79 hw) (notFace_of_selects (args := #[]) (mvT hZ70 (ow81 hw))) (ow81 hw) (ow80 hw) (ow52 hw) (ow82 hw) (by decide) F73 (rm_sbappS1 l Z a0 hw [] b v kv 16 (((((([] : List Int32) ++ HELP) ++ ns) ++ [(32 : Int32)]) ++ escL hs) ++ [(10 : Int32)]) sa70 sb70 kb70 TYP G1 h70 n0 (Nat.le_trans Z0 K71.1) F73 F74 F75 F76 F77 F78 PE70 PC70 PV70 PA70 (by refine ⟨?_, ?_⟩ <;> (try simp only [List.length_append, List.length_cons, List.length_nil, HELP_len, TYP_len, BS2_len, BSN_len]) <;> omega) (by unfold newCap; (try simp only [List.length_append, List.length_cons, List.length_nil, HELP_len, TYP_len, BS2_len, BSN_len]) <;> omega) (by (try simp only [List.length_append, List.length_cons, List.length_nil, HELP_len, TYP_len, BS2_len, BSN_len]) <;> omega) (g_b) O2 P5 O71) e70 hml opd_30 rfl o695 rfl rfl rfl rfl rfl fun _ T72 _ Y hQ => ?_
  obtain ⟨tn_72, kn_72, rfl, N72q, K72q, P72_0, P72_1, P72_2, P72_3, P72_4, P72_5, P72_6⟩ := hQ
  have N72 := Fr.app N65 N72q
  have R79 := CHr.keep K72q (allS (Safe.exa hZ70.alike F73 (by decide) (by decide)) all0) CR71.1
  have CR79 := CR71.trans R79
  have K79 := K71.trans K72q (allS (Or.inl (List.mem_of_getElem? (i := 1) rfl)) all0)
  have O79 := O71.keep K72q (allS g_b all0)
  have Sf80 : Safe Z EL T70.vm T72.heap tn_72 := Safe.keep K72q (allS (Safe.exa hZ70.alike F73 (by decide) (by decide)) all0) CR71.1 (Safe.new P72_0)
  have F81 : Arv Z T72.heap tn_72 kn_72 .byte (Int32.ofNat 34) (B8 ((((((([] : List Int32) ++ HELP) ++ ns) ++ [(32 : Int32)]) ++ escL hs) ++ [(10 : Int32)]) ++ TYP)) (.int 0) := by have q := P72_5; rw [show newCap 16 ((((((([] : List Int32) ++ HELP) ++ ns) ++ [(32 : Int32)]) ++ escL hs) ++ [(10 : Int32)]).length + TYP.length) = 34 from by unfold newCap; (try simp only [List.length_append, List.length_cons, List.length_nil, HELP_len, TYP_len, BS2_len, BSN_len]) <;> omega] at q; exact q
  refine zalN Y B o696 rfl ?_
  have F83 := ((((((F46.keep K45q).keep K52q).keep K55q).keep K65q).ext E70).keep K72q)
  have F84 := ((((((F47.keep K45q (ninS (ne_exa S0 B0 (by decide)) (ninS (ne_exa S0 B5 (by decide)) nin0))).keep K52q (ninS (ne_exa S0 B0 (by decide)) (ninS (ne_exa S0 B5 (by decide)) nin0))).keep K55q (ninS (ne_exa S0 B0 (by decide)) (ninS (ne_exa S0 B5 (by decide)) nin0))).keep K65q (ninS (ne_exa S0 B0 (by decide)) (ninS (ne_exa S0 B5 (by decide)) nin0))).ext E70).keep K72q (ninS (ne_exa S0 B0 (by decide)) nin0))
  have F85 := ((((((F48.keep K45q (ninS (ne_exa S0 B0 (by decide)) (ninS (ne_exa S0 B5 (by decide)) nin0))).keep K52q (ninS (ne_exa S0 B0 (by decide)) (ninS (ne_exa S0 B5 (by decide)) nin0))).keep K55q (ninS (ne_exa S0 B0 (by decide)) (ninS (ne_exa S0 B5 (by decide)) nin0))).keep K65q (ninS (ne_exa S0 B0 (by decide)) (ninS (ne_exa S0 B5 (by decide)) nin0))).ext E70).keep K72q (ninS (ne_exa S0 B0 (by decide)) nin0))
  have F86 := ((((((F49.keep K45q (ninS (Ne.symm (ne_arv B0 (ow51 hw) S3)) (ninS (Ne.symm NVT) nin0))).keep K52q (ninS (Ne.symm (ne_arv B0 (ow51 hw) S3)) (ninS (Ne.symm NVT) nin0))).keep K55q (ninS (Ne.symm (ne_arv B0 (ow51 hw) S3)) (ninS (Ne.symm NVT) nin0))).keep K65q (ninS (Ne.symm (ne_arv B0 (ow51 hw) S3)) (ninS (Ne.symm NVT) nin0))).ext E70).keep K72q (ninS (Ne.symm (ne_arv B0 (ow51 hw) S3)) nin0))
  refine zcv Y B hZ70 hown70 (ow78 hw) (ow79 hw) (notFace_of_selects (args := #[]) (mvT hZ70 (ow81 hw))) (ow81 hw) (ow80 hw) (ow52 hw) (ow82 hw) (by decide) P72_1 (rm_sbappS l Z a0 hw [] b tn_72 kn_72 34 ((((((([] : List Int32) ++ HELP) ++ ns) ++ [(32 : Int32)]) ++ escL hs) ++ [(10 : Int32)]) ++ TYP) x t kt ns G1 T72.heap n0 (Nat.le_trans Z0 K79.1) P72_1 P72_2 P72_3 P72_4 F81 P72_6 F83 F84 F85 F86 (by (try simp only [List.length_append, List.length_cons, List.length_nil, HELP_len, TYP_len, BS2_len, BSN_len]) <;> omega) (by decide) ((Nat.le_trans (Nat.le_trans Z0 K71.1) P72_0)) (g_b) O2 P5 O79) rfl hml opd_30 rfl o697 rfl rfl rfl rfl rfl fun _ T82 _ Y hQ => ?_
  obtain ⟨rfl, N82q, K82q, P82_0, P82_1, P82_2, P82_3, P82_4, P82_5⟩ := hQ
  have N82 := Fr.app N72 N82q
  have R87 := CHr.keep K82q (allS (Safe.exa hZ70.alike P72_1 (by decide) (by decide)) (allS Sf80 all0)) CR79.1
  have CR87 := CR79.trans R87
  have K87 := K79.trans K82q (allS (Or.inl (List.mem_of_getElem? (i := 1) rfl)) (allS (Or.inr (Nat.le_trans K71.1 P72_0)) all0))
  have O87 := O79.keep K82q (allS g_b (allS (Nat.le_trans (Nat.le_trans Z0 K71.1) P72_0) all0))
  refine zbp Y B o698 (v := 32) rfl ?_
  refine zcv Y B hZ70 hown70 (ow125 hw) (ow126 hw) (notFace_of_selects (args := #[]) (mvT hZ70 (ow128 hw))) (ow128 hw) (ow127 hw) (ow52 hw) (ow129 hw) (by decide) P82_0 (rm_sbappC l Z a0 hw [] b tn_72 kn_72 34 (((((((([] : List Int32) ++ HELP) ++ ns) ++ [(32 : Int32)]) ++ escL hs) ++ [(10 : Int32)]) ++ TYP) ++ ns) (32 : Int32) G1 T82.heap n0 (Nat.le_trans Z0 K87.1) P82_0 P82_1 P82_2 P82_3 P82_4 P82_5 (by (try simp only [List.length_append, List.length_cons, List.length_nil, HELP_len, TYP_len, BS2_len, BSN_len]) <;> omega) (by decide) ((Nat.le_trans (Nat.le_trans Z0 K71.1) P72_0)) (g_b) (by decide) O2 P5 O87) rfl hml opd_31 rfl o699 rfl rfl rfl rfl rfl fun _ T88 _ Y hQ => ?_
  obtain ⟨rfl, N88q, K88q, P88_0, P88_1, P88_2, P88_3, P88_4, P88_5⟩ := hQ
  have N88 := Fr.app N82 N88q
  have Sf90 : Safe Z EL T70.vm T82.heap tn_72 := (R87.safe P72_6.lt Sf80)
  have R89 := CHr.keep K88q (allS (Safe.exa hZ70.alike P82_0 (by decide) (by decide)) (allS Sf90 all0)) CR87.1
  have CR89 := CR87.trans R89
  have K89 := K87.trans K88q (allS (Or.inl (List.mem_of_getElem? (i := 1) rfl)) (allS (Or.inr (Nat.le_trans K71.1 P72_0)) all0))
  have O89 := O87.keep K88q (allS g_b (allS (Nat.le_trans (Nat.le_trans Z0 K71.1) P72_0) all0))
  refine zalN Y B o700 rfl ?_
  obtain ⟨T91, Y, e91, st91⟩ := own_getRef Y B.1 hZ70 hown70 (ow172 hw) rfl (W1.ext O89.2) (g := (mkF m 59 #[rv pg, rv x, rv ty, rv xh] [(.ref ty), (.ref b)])) rfl rfl (hb B.2 o701.1)
  refine Go.by st91 ?_
  show Go p e below _ _ (mkF m 62 #[rv pg, rv x, rv ty, rv xh] [(.ref wx), (.ref b)])
  refine zcv Y B hZ70 hown70 (ow78 hw) (ow79 hw) (notFace_of_selects (args := #[]) (mvT hZ70 (ow81 hw))) (ow81 hw) (ow80 hw) (ow52 hw) (ow82 hw) (by decide) P88_0 (rm_sbappS l Z a0 hw [] b tn_72 kn_72 34 ((((((((([] : List Int32) ++ HELP) ++ ns) ++ [(32 : Int32)]) ++ escL hs) ++ [(10 : Int32)]) ++ TYP) ++ ns) ++ [(32 : Int32)]) wx wt wk wd G1 T88.heap n0 (Nat.le_trans Z0 K89.1) P88_0 P88_1 P88_2 P88_3 P88_4 P88_5 (W2.ext O89.2) (W3.ext O89.2) (W4.ext O89.2) (W5.ext O89.2) (by (try simp only [List.length_append, List.length_cons, List.length_nil, HELP_len, TYP_len, BS2_len, BSN_len]) <;> omega) (by decide) ((Nat.le_trans (Nat.le_trans Z0 K71.1) P72_0)) (g_b) O2 P5 O89) e91 hml opd_30 rfl o702 rfl rfl rfl rfl rfl fun _ T92 _ Y hQ => ?_
  obtain ⟨rfl, N92q, K92q, P92_0, P92_1, P92_2, P92_3, P92_4, P92_5⟩ := hQ
  have N92 := Fr.app N88 N92q
  have Sf94 : Safe Z EL T70.vm T88.heap tn_72 := (R89.safe P82_5.lt Sf90)
  have R93 := CHr.keep K92q (allS (Safe.exa hZ70.alike P88_0 (by decide) (by decide)) (allS Sf94 all0)) CR89.1
  have CR93 := CR89.trans R93
  have K93 := K89.trans K92q (allS (Or.inl (List.mem_of_getElem? (i := 1) rfl)) (allS (Or.inr (Nat.le_trans K71.1 P72_0)) all0))
  have O93 := O89.keep K92q (allS g_b (allS (Nat.le_trans (Nat.le_trans Z0 K71.1) P72_0) all0))
  refine zbp Y B o703 (v := 10) rfl ?_
  refine zcv Y B hZ70 hown70 (ow125 hw) (ow126 hw) (notFace_of_selects (args := #[]) (mvT hZ70 (ow128 hw))) (ow128 hw) (ow127 hw) (ow52 hw) (ow129 hw) (by decide) P92_0 (rm_sbappC1 l Z a0 hw [] b tn_72 kn_72 34 (((((((((([] : List Int32) ++ HELP) ++ ns) ++ [(32 : Int32)]) ++ escL hs) ++ [(10 : Int32)]) ++ TYP) ++ ns) ++ [(32 : Int32)]) ++ wd) (10 : Int32) G1 T92.heap n0 (Nat.le_trans Z0 K93.1) P92_0 P92_1 P92_2 P92_3 P92_4 P92_5 (by refine ⟨?_, ?_⟩ <;> (try simp only [List.length_append, List.length_cons, List.length_nil, HELP_len, TYP_len, BS2_len, BSN_len]) <;> omega) (by unfold newCap; (try simp only [List.length_append, List.length_cons, List.length_nil, HELP_len, TYP_len, BS2_len, BSN_len]) <;> omega) (by (try simp only [List.length_append, List.length_cons, List.length_nil, HELP_len, TYP_len, BS2_len, BSN_len]) <;> omega) (g_b) (by decide) O2 P5 O93) rfl hml opd_31 rfl o704 rfl rfl rfl rfl rfl fun _ T95 _ Y hQ => ?_
  obtain ⟨tn_95, kn_95, rfl, N95q, K95q, P95_0, P95_1, P95_2, P95_3, P95_4, P95_5, P95_6⟩ := hQ
  have N95 := Fr.app N92 N95q
  have R96 := CHr.keep K95q (allS (Safe.exa hZ70.alike P92_0 (by decide) (by decide)) all0) CR93.1
  have CR96 := CR93.trans R96
  have K96 := K93.trans K95q (allS (Or.inl (List.mem_of_getElem? (i := 1) rfl)) all0)
  have O96 := O93.keep K95q (allS g_b all0)
  have Sf97 : Safe Z EL T70.vm T95.heap tn_95 := Safe.keep K95q (allS (Safe.exa hZ70.alike P92_0 (by decide) (by decide)) all0) CR93.1 (Safe.new P95_0)
  have F98 : Arv Z T95.heap tn_95 kn_95 .byte (Int32.ofNat 70) (B8 ((((((((((([] : List Int32) ++ HELP) ++ ns) ++ [(32 : Int32)]) ++ escL hs) ++ [(10 : Int32)]) ++ TYP) ++ ns) ++ [(32 : Int32)]) ++ wd) ++ [(10 : Int32)])) (.int 0) := by have q := P95_5; rw [show newCap 34 ((((((((((([] : List Int32) ++ HELP) ++ ns) ++ [(32 : Int32)]) ++ escL hs) ++ [(10 : Int32)]) ++ TYP) ++ ns) ++ [(32 : Int32)]) ++ wd).length + 1) = 70 from by unfold newCap; (try simp only [List.length_append, List.length_cons, List.length_nil, HELP_len, TYP_len, BS2_len, BSN_len]) <;> omega] at q; exact q
  refine zpop Y B o705 rfl ?_
  have F99 := ((((((((F56.keep K55q).keep K65q).ext E70).keep K72q).keep K82q).keep K88q).keep K92q).keep K95q)
  have F100 := ((((((F69.ext E70).keep K72q (ninS (ne_exa Q0 B0 (by decide)) nin0)).keep K82q (ninS (ne_exa Q0 B0 (by decide)) (ninS (Nat.ne_of_lt (Nat.lt_of_lt_of_le (((F56.keep K55q).keep K65q).ext E70).lt P72_0)) nin0))).keep K88q (ninS (ne_exa Q0 B0 (by decide)) (ninS (Nat.ne_of_lt (Nat.lt_of_lt_of_le (((F56.keep K55q).keep K65q).ext E70).lt P72_0)) nin0))).keep K92q (ninS (ne_exa Q0 B0 (by decide)) (ninS (Nat.ne_of_lt (Nat.lt_of_lt_of_le (((F56.keep K55q).keep K65q).ext E70).lt P72_0)) nin0))).keep K95q (ninS (ne_exa Q0 B0 (by decide)) nin0))
  have F101 := (((((((((((((Q2.same W30).ext E34).keep K36q (ninS (ne_exa Q0 B0 (by decide)) (ninS (ne_exa Q0 B5 (by decide)) nin0))).keep K45q (ninS (ne_exa Q0 B0 (by decide)) (ninS (ne_exa Q0 B5 (by decide)) nin0))).keep K52q (ninS (ne_exa Q0 B0 (by decide)) (ninS (ne_exa Q0 B5 (by decide)) nin0))).keep K55q (ninS (ne_exa Q0 B0 (by decide)) (ninS (ne_exa Q0 B5 (by decide)) nin0))).keep K65q (ninS (ne_exa Q0 B0 (by decide)) (ninS (ne_exa Q0 B5 (by decide)) nin0))).ext E70).keep K72q (ninS (ne_exa Q0 B0 (by decide)) nin0)).keep K82q (ninS (ne_exa Q0 B0 (by decide)) (ninS (Nat.ne_of_lt (Nat.lt_of_lt_of_le (((F56.keep K55q).keep K65q).ext E70).lt P72_0)) nin0))).keep K88q (ninS (ne_exa Q0 B0 (by decide)) (ninS (Nat.ne_of_lt (Nat.lt_of_lt_of_le (((F56.keep K55q).keep K65q).ext E70).lt P72_0)) nin0))).keep K92q (ninS (ne_exa Q0 B0 (by decide)) (ninS (Nat.ne_of_lt (Nat.lt_of_lt_of_le (((F56.keep K55q).keep K65q).ext E70).lt P72_0)) nin0))).keep K95q (ninS (ne_exa Q0 B0 (by decide)) nin0))
  exact Go.ret0W Y B.1 hret hlk (hb B.2 o706.1) hS70 (Nat.le_trans hk70 (Nat.le_trans (Nat.le_trans (Nat.le_trans (Nat.le_trans K72q.1 K82q.1) K88q.1) K92q.1) K95q.1)) hZ70 (hEW hw) CR96 ⟨tn_95, kn_95, rfl, N95, K96, (Nat.le_trans K93.1 P95_0), F99, F100, F101, P95_1, P95_2, P95_3, P95_4, F98, P95_6⟩ (by decide) (by decide)
def Q_sname0 (Z : State) (pg b v : Addr) (kv : ClassId) (cap : Nat) (cs : List Int32) (x t : Addr) (kt : ClassId) (ns : List Int32) (sx st : Addr) (sk : ClassId) (la : Addr) (lk : ClassId) (G1 : Int32) (h0 : Heap) (n0 : Nat) : QT := fun rv hE LE => rv = none ∧ Fr n0 LE ∧ Keep h0 hE [b, v] ∧ (Exa Z hE b ss4) ∧ (Fld Z hE b ss1 ss2 "B" (.int 0)) ∧ (Fld Z hE b ss1 ss3 "[B" (.ref v)) ∧ (Fld Z hE b ss1 ss5 "I" (.int (Int32.ofNat (((cs ++ ns) ++ ([] : List Int32)) ++ [(32 : Int32)]).length))) ∧ (Arv Z hE v kv .byte (Int32.ofNat cap) (B8 (((cs ++ ns) ++ ([] : List Int32)) ++ [(32 : Int32)])) (.int 0)) ∧ (Exa Z hE v "[B")
theorem rm_sname0 (l : Launch) (Z : State) (a0 : Array Value) (hw : HW a0 Z) (ws : List Jvm.Cond) (pg b v : Addr) (kv : ClassId) (cap : Nat) (cs : List Int32) (x t : Addr) (kt : ClassId) (ns : List Int32) (sx st : Addr) (sk : ClassId) (la : Addr) (lk : ClassId) (G1 : Int32) (h0 : Heap) (n0 : Nat) (Z0 : n0 ≤ h0.size) (Q0 : Exa Z h0 pg ss6) (Q1 : Fld Z h0 pg ss6 "page" ss11 (.ref b)) (Q2 : Fld Z h0 pg ss6 ss18 ss9 (.ref x)) (B0 : Exa Z h0 b ss4) (B1 : Fld Z h0 b ss1 ss2 "B" (.int 0)) (B2 : Fld Z h0 b ss1 ss3 "[B" (.ref v)) (B3 : Fld Z h0 b ss1 ss5 "I" (.int (Int32.ofNat cs.length))) (B4 : Arv Z h0 v kv .byte (Int32.ofNat cap) (B8 cs) (.int 0)) (B5 : Exa Z h0 v "[B") (S0 : Exa Z h0 x ss0) (S1 : Fld Z h0 x ss0 ss2 "B" (.int 0)) (S2 : Fld Z h0 x ss0 ss3 "[B" (.ref t)) (S3 : Arv Z h0 t kt .byte (Int32.ofNat ns.length) (B8 ns) (.int 0)) (LA : Arv Z h0 la lk (.object ss0) (0 : Int32) ([]) .null) (HN2 : ns.length = 2) (NVT : v ≠ t) (HCP : 16 ≤ cap ∧ cap < 100000) (g_b : n0 ≤ b) (g_v : n0 ≤ v) (Xs0 : Exa Z h0 sx ss0) (Xs1 : Fld Z h0 sx ss0 ss2 "B" (.int 0)) (Xs2 : Fld Z h0 sx ss0 ss3 "[B" (.ref st)) (Xs3 : Arv Z h0 st sk .byte (Int32.ofNat ([] : List Int32).length) (B8 ([] : List Int32)) (.int 0)) (NVX : v ≠ st) (HRD : cs.length + 3 ≤ cap) (O2 : Sta Z Z.heap ss0 ss7 "Z" (.int G1)) (P5 : ¬ (G1 = (0 : Int32))) (X00 : Old Z n0 h0) :
    MF l Z mn49 (Jvm.Cond.code mn49 cB49 4 (Option.none : Option Jvm.ClassFile.FieldType)) ws Ro38 #[(.ref pg), (.ref sx), (.ref la)] h0 (Q_sname0 Z pg b v kv cap cs x t kt ns sx st sk la lk G1 h0 n0) := by
  refine MF.of ss6 rfl #[rv pg, rv sx, rv la, un] (plainFor_of_name opn_9) (fun _ => rfl) ?_
  intro p e s m below meth c _ hZ hh B hml hret hlk hown hnm Y e0
  have N0 := Fr.nil n0
  have K0 := Keep.refl h0 [b, v]
  refine zalN Y B o707 rfl ?_
  refine zln Y B hZ e0 LA o708 ?_
  refine zc2 Y B o709 ?_
  refine Go.by (fun _ kq_ => iremM Y B.1 rfl (hb B.2 o710.1) rfl (by decide) kq_) ?_
  show Go p e below _ _ (mkF m 4 #[rv pg, rv sx, rv la, un] [(.int 0)])
  refine zY Y B j48 (by decide) ?_
  refine zalN Y B o711 rfl ?_
  refine zgf Y B hZ hown (ow68 hw) Via.refl e0 Q1 o712 fun _ Y e31 => ?_
  refine zalN Y B o713 rfl ?_
  refine zgf Y B hZ hown (ow75 hw) Via.refl e31 Q2 o714 fun _ Y e32 => ?_
  refine zcv Y B hZ hown (ow78 hw) (ow79 hw) (notFace_of_selects (args := #[]) (mvT hZ (ow81 hw))) (ow81 hw) (ow80 hw) (ow52 hw) (ow82 hw) (by decide) B0 (rm_sbappS l Z a0 hw [] b v kv cap cs x t kt ns G1 h0 n0 (Nat.le_trans Z0 (Nat.le_refl _)) B0 B1 B2 B3 B4 B5 S0 S1 S2 S3 (by (try simp only [List.length_append, List.length_cons, List.length_nil, HELP_len, TYP_len, BS2_len, BSN_len]) <;> omega) (by omega) (g_v) (g_b) O2 P5 X00) e32 hml opd_30 rfl o715 rfl rfl rfl rfl rfl fun _ T33 _ Y hQ => ?_
  obtain ⟨rfl, N33q, K33q, P33_0, P33_1, P33_2, P33_3, P33_4, P33_5⟩ := hQ
  have N33 := Fr.app N0 N33q
  have K34 := K0.trans K33q (allS (Or.inl (List.mem_of_getElem? (i := 0) rfl)) (allS (Or.inl (List.mem_of_getElem? (i := 1) rfl)) all0))
  have O34 := X00.keep K33q (allS g_b (allS g_v all0))
  refine zalN Y B o716 rfl ?_
  have F36 := (Xs0.keep K33q)
  have F37 := (Xs1.keep K33q (ninS (ne_exa Xs0 B0 (by decide)) (ninS (ne_exa Xs0 B5 (by decide)) nin0)))
  have F38 := (Xs2.keep K33q (ninS (ne_exa Xs0 B0 (by decide)) (ninS (ne_exa Xs0 B5 (by decide)) nin0)))
  have F39 := (Xs3.keep K33q (ninS (Ne.symm (ne_arv B0 (ow51 hw) Xs3)) (ninS (Ne.symm NVX) nin0)))
  refine zcv Y B hZ hown (ow78 hw) (ow79 hw) (notFace_of_selects (args := #[]) (mvT hZ (ow81 hw))) (ow81 hw) (ow80 hw) (ow52 hw) (ow82 hw) (by decide) P33_0 (rm_sbappS l Z a0 hw [] b v kv cap (cs ++ ns) sx st sk ([] : List Int32) G1 T33.heap n0 (Nat.le_trans Z0 K34.1) P33_0 P33_1 P33_2 P33_3 P33_4 P33_5 F36 F37 F38 F39 (by (try simp only [List.length_append, List.length_cons, List.length_nil, HELP_len, TYP_len, BS2_len, BSN_len]) <;> omega) (by omega) (g_v) (g_b) O2 P5 O34) rfl hml opd_30 rfl o717 rfl rfl rfl rfl rfl fun _ T35 _ Y hQ => ?_
  obtain ⟨rfl, N35q, K35q, P35_0, P35_1, P35_2, P35_3, P35_4, P35_5⟩ := hQ
  have N35 := Fr.app N33 N35q
  have K40 := K34.trans K35q (allS (Or.inl (List.mem_of_getElem? (i := 0) rfl)) (allS (Or.inl (List.mem_of_getElem? (i := 1) rfl)) all0))
  have O40 := O34.keep K35q (allS g_b (allS g_v all0))
  refine zpop Y B o718 rfl <| zalN Y B o719 rfl ?_
  have F42 := ((LA.keep K33q (ninS (Ne.symm (ne_arv B0 (ow51 hw) LA)) (ninS (ne_arvt LA B4 (by decide)) nin0))).keep K35q (ninS (Ne.symm (ne_arv B0 (ow51 hw) LA)) (ninS (ne_arvt LA B4 (by decide)) nin0)))
  refine zln Y B hZ rfl F42 o720 ?_
  refine zY Y B j49 (by decide) ?_
  refine zalN Y B o721 rfl ?_
  have F44 := ((Q1.keep K33q (ninS (ne_exa Q0 B0 (by decide)) (ninS (ne_exa Q0 B5 (by decide)) nin0))).keep K35q (ninS (ne_exa Q0 B0 (by decide)) (ninS (ne_exa Q0 B5 (by decide)) nin0)))
  refine zgf Y B hZ hown (ow68 hw) Via.refl rfl F44 o722 fun _ Y e43 => ?_
  refine zbp Y B o723 (v := 32) rfl ?_
  refine zcv Y B hZ hown (ow125 hw) (ow126 hw) (notFace_of_selects (args := #[]) (mvT hZ (ow128 hw))) (ow128 hw) (ow127 hw) (ow52 hw) (ow129 hw) (by decide) P35_0 (rm_sbappC l Z a0 hw [] b v kv cap ((cs ++ ns) ++ ([] : List Int32)) (32 : Int32) G1 T35.heap n0 (Nat.le_trans Z0 K40.1) P35_0 P35_1 P35_2 P35_3 P35_4 P35_5 (by (try simp only [List.length_append, List.length_cons, List.length_nil, HELP_len, TYP_len, BS2_len, BSN_len]) <;> omega) (by omega) (g_v) (g_b) (by decide) O2 P5 O40) e43 hml opd_31 rfl o724 rfl rfl rfl rfl rfl fun _ T45 _ Y hQ => ?_
  obtain ⟨rfl, N45q, K45q, P45_0, P45_1, P45_2, P45_3, P45_4, P45_5⟩ := hQ
  have N45 := Fr.app N35 N45q
  have K46 := K40.trans K45q (allS (Or.inl (List.mem_of_getElem? (i := 0) rfl)) (allS (Or.inl (List.mem_of_getElem? (i := 1) rfl)) all0))
  have O46 := O40.keep K45q (allS g_b (allS g_v all0))
  refine zpop Y B o725 rfl ?_
  exact zr0 Y B hret hlk o726 rfl ⟨rfl, N45, K46, P45_0, P45_1, P45_2, P45_3, P45_4, P45_5⟩ rfl rfl
def Q_snameB (Z : State) (pg b v : Addr) (kv : ClassId) (cap : Nat) (cs : List Int32) (x t : Addr) (kt : ClassId) (ns : List Int32) (sx st : Addr) (sk : ClassId) (la : Addr) (lk : ClassId) (G1 : Int32) (h0 : Heap) (n0 : Nat) : QT := fun rv hE LE => ∃ v' : Addr, ∃ kv' : ClassId, rv = none ∧ Fr n0 LE ∧ Keep h0 hE [b, v] ∧ (h0.size ≤ v') ∧ (Exa Z hE b ss4) ∧ (Fld Z hE b ss1 ss2 "B" (.int 0)) ∧ (Fld Z hE b ss1 ss3 "[B" (.ref v')) ∧ (Fld Z hE b ss1 ss5 "I" (.int (Int32.ofNat (((cs ++ ns) ++ ([] : List Int32)) ++ [(32 : Int32)]).length))) ∧ (Arv Z hE v' kv' .byte (Int32.ofNat 70) (B8 (((cs ++ ns) ++ ([] : List Int32)) ++ [(32 : Int32)])) (.int 0)) ∧ (Exa Z hE v' "[B")
theorem rm_snameB (l : Launch) (Z : State) (a0 : Array Value) (hw : HW a0 Z) (ws : List Jvm.Cond) (pg b v : Addr) (kv : ClassId) (cap : Nat) (cs : List Int32) (x t : Addr) (kt : ClassId) (ns : List Int32) (sx st : Addr) (sk : ClassId) (la : Addr) (lk : ClassId) (G1 : Int32) (h0 : Heap) (n0 : Nat) (Z0 : n0 ≤ h0.size) (Q0 : Exa Z h0 pg ss6) (Q1 : Fld Z h0 pg ss6 "page" ss11 (.ref b)) (Q2 : Fld Z h0 pg ss6 ss18 ss9 (.ref x)) (B0 : Exa Z h0 b ss4) (B1 : Fld Z h0 b ss1 ss2 "B" (.int 0)) (B2 : Fld Z h0 b ss1 ss3 "[B" (.ref v)) (B3 : Fld Z h0 b ss1 ss5 "I" (.int (Int32.ofNat cs.length))) (B4 : Arv Z h0 v kv .byte (Int32.ofNat cap) (B8 cs) (.int 0)) (B5 : Exa Z h0 v "[B") (S0 : Exa Z h0 x ss0) (S1 : Fld Z h0 x ss0 ss2 "B" (.int 0)) (S2 : Fld Z h0 x ss0 ss3 "[B" (.ref t)) (S3 : Arv Z h0 t kt .byte (Int32.ofNat ns.length) (B8 ns) (.int 0)) (LA : Arv Z h0 la lk (.object ss0) (0 : Int32) ([]) .null) (HN2 : ns.length = 2) (NVT : v ≠ t) (HCP : 16 ≤ cap ∧ cap < 100000) (g_b : n0 ≤ b) (g_v : n0 ≤ v) (Xs0 : Exa Z h0 sx ss0) (Xs1 : Fld Z h0 sx ss0 ss2 "B" (.int 0)) (Xs2 : Fld Z h0 sx ss0 ss3 "[B" (.ref st)) (Xs3 : Arv Z h0 st sk .byte (Int32.ofNat ([] : List Int32).length) (B8 ([] : List Int32)) (.int 0)) (NVX : v ≠ st) (HRD : cap = 34 ∧ 32 < cs.length ∧ cs.length ≤ 34) (O2 : Sta Z Z.heap ss0 ss7 "Z" (.int G1)) (P5 : ¬ (G1 = (0 : Int32))) (X00 : Old Z n0 h0) :
    MF l Z mn49 (Jvm.Cond.code mn49 cB49 4 (Option.none : Option Jvm.ClassFile.FieldType)) ws Ro39 #[(.ref pg), (.ref sx), (.ref la)] h0 (Q_snameB Z pg b v kv cap cs x t kt ns sx st sk la lk G1 h0 n0) := by
  refine MF.of ss6 rfl #[rv pg, rv sx, rv la, un] (plainFor_of_name opn_9) (fun _ => rfl) ?_
  intro p e s m below meth c _ hZ hh B hml hret hlk hown hnm Y e0
  have N0 := Fr.nil n0
  have K0 := Keep.refl h0 [b, v]
  obtain rfl : 34 = cap := (show cap = 34 from HRD.1).symm
  refine zalN Y B o707 rfl ?_
  refine zln Y B hZ e0 LA o708 ?_
  refine zc2 Y B o709 ?_
  refine Go.by (fun _ kq_ => iremM Y B.1 rfl (hb B.2 o710.1) rfl (by decide) kq_) ?_
  show Go p e below _ _ (mkF m 4 #[rv pg, rv sx, rv la, un] [(.int 0)])
  refine zY Y B j48 (by decide) ?_
  refine zalN Y B o711 rfl ?_
  refine zgf Y B hZ hown (ow68 hw) Via.refl e0 Q1 o712 fun _ Y e31 => ?_
  refine zalN Y B o713 rfl ?_
  refine zgf Y B hZ hown (ow75 hw) Via.refl e31 Q2 o714 fun _ Y e32 => ?_
  refine zcv Y B hZ hown (ow78 hw) (ow79 hw) (notFace_of_selects (args := #[]) (mvT hZ (ow81 hw))) (ow81 hw) (ow80 hw) (ow52 hw) (ow82 hw) (by decide) B0 (rm_sbappS1 l Z a0 hw [] b v kv 34 cs x t kt ns G1 h0 n0 (Nat.le_trans Z0 (Nat.le_refl _)) B0 B1 B2 B3 B4 B5 S0 S1 S2 S3 (by refine ⟨?_, ?_⟩ <;> (try simp only [List.length_append, List.length_cons, List.length_nil, HELP_len, TYP_len, BS2_len, BSN_len]) <;> omega) (by unfold newCap; (try simp only [List.length_append, List.length_cons, List.length_nil, HELP_len, TYP_len, BS2_len, BSN_len]) <;> omega) (by (try simp only [List.length_append, List.length_cons, List.length_nil, HELP_len, TYP_len, BS2_len, BSN_len]) <;> omega) (g_b) O2 P5 X00) e32 hml opd_30 rfl o715 rfl rfl rfl rfl rfl fun _ T33 _ Y hQ => ?_
  obtain ⟨tn_33, kn_33, rfl, N33q, K33q, P33_0, P33_1, P33_2, P33_3, P33_4, P33_5, P33_6⟩ := hQ
  have N33 := Fr.app N0 N33q
  have K34 := K0.trans K33q (allS (Or.inl (List.mem_of_getElem? (i := 0) rfl)) all0)
  have O34 := X00.keep K33q (allS g_b all0)
  have F35 : Arv Z T33.heap tn_33 kn_33 .byte (Int32.ofNat 70) (B8 (cs ++ ns)) (.int 0) := by have q := P33_5; rw [show newCap 34 (cs.length + ns.length) = 70 from by unfold newCap; (try simp only [List.length_append, List.length_cons, List.length_nil, HELP_len, TYP_len, BS2_len, BSN_len]) <;> omega] at q; exact q
  refine zalN Y B o716 rfl ?_
  have F37 := (Xs0.keep K33q)
  have F38 := (Xs1.keep K33q (ninS (ne_exa Xs0 B0 (by decide)) nin0))
  have F39 := (Xs2.keep K33q (ninS (ne_exa Xs0 B0 (by decide)) nin0))
  have F40 := (Xs3.keep K33q (ninS (Ne.symm (ne_arv B0 (ow51 hw) Xs3)) nin0))
  refine zcv Y B hZ hown (ow78 hw) (ow79 hw) (notFace_of_selects (args := #[]) (mvT hZ (ow81 hw))) (ow81 hw) (ow80 hw) (ow52 hw) (ow82 hw) (by decide) P33_1 (rm_sbappS l Z a0 hw [] b tn_33 kn_33 70 (cs ++ ns) sx st sk ([] : List Int32) G1 T33.heap n0 (Nat.le_trans Z0 K34.1) P33_1 P33_2 P33_3 P33_4 F35 P33_6 F37 F38 F39 F40 (by (try simp only [List.length_append, List.length_cons, List.length_nil, HELP_len, TYP_len, BS2_len, BSN_len]) <;> omega) (by omega) ((Nat.le_trans (Nat.le_trans Z0 (Nat.le_refl _)) P33_0)) (g_b) O2 P5 O34) rfl hml opd_30 rfl o717 rfl rfl rfl rfl rfl fun _ T36 _ Y hQ => ?_
  obtain ⟨rfl, N36q, K36q, P36_0, P36_1, P36_2, P36_3, P36_4, P36_5⟩ := hQ
  have N36 := Fr.app N33 N36q
  have K41 := K34.trans K36q (allS (Or.inl (List.mem_of_getElem? (i := 0) rfl)) (allS (Or.inr (Nat.le_trans (Nat.le_refl _) P33_0)) all0))
  have O41 := O34.keep K36q (allS g_b (allS (Nat.le_trans (Nat.le_trans Z0 (Nat.le_refl _)) P33_0) all0))
  refine zpop Y B o718 rfl <| zalN Y B o719 rfl ?_
  have F43 := ((LA.keep K33q (ninS (Ne.symm (ne_arv B0 (ow51 hw) LA)) nin0)).keep K36q (ninS (Ne.symm (ne_arv B0 (ow51 hw) LA)) (ninS (Nat.ne_of_lt (Nat.lt_of_lt_of_le LA.lt P33_0)) nin0)))
  refine zln Y B hZ rfl F43 o720 ?_
  refine zY Y B j49 (by decide) ?_
  refine zalN Y B o721 rfl ?_
  have F45 := ((Q1.keep K33q (ninS (ne_exa Q0 B0 (by decide)) nin0)).keep K36q (ninS (ne_exa Q0 B0 (by decide)) (ninS (Nat.ne_of_lt (Nat.lt_of_lt_of_le Q0.lt P33_0)) nin0)))
  refine zgf Y B hZ hown (ow68 hw) Via.refl rfl F45 o722 fun _ Y e44 => ?_
  refine zbp Y B o723 (v := 32) rfl ?_
  refine zcv Y B hZ hown (ow125 hw) (ow126 hw) (notFace_of_selects (args := #[]) (mvT hZ (ow128 hw))) (ow128 hw) (ow127 hw) (ow52 hw) (ow129 hw) (by decide) P36_0 (rm_sbappC l Z a0 hw [] b tn_33 kn_33 70 ((cs ++ ns) ++ ([] : List Int32)) (32 : Int32) G1 T36.heap n0 (Nat.le_trans Z0 K41.1) P36_0 P36_1 P36_2 P36_3 P36_4 P36_5 (by (try simp only [List.length_append, List.length_cons, List.length_nil, HELP_len, TYP_len, BS2_len, BSN_len]) <;> omega) (by omega) ((Nat.le_trans (Nat.le_trans Z0 (Nat.le_refl _)) P33_0)) (g_b) (by decide) O2 P5 O41) e44 hml opd_31 rfl o724 rfl rfl rfl rfl rfl fun _ T46 _ Y hQ => ?_
  obtain ⟨rfl, N46q, K46q, P46_0, P46_1, P46_2, P46_3, P46_4, P46_5⟩ := hQ
  have N46 := Fr.app N36 N46q
  have K47 := K41.trans K46q (allS (Or.inl (List.mem_of_getElem? (i := 0) rfl)) (allS (Or.inr (Nat.le_trans (Nat.le_refl _) P33_0)) all0))
  have O47 := O41.keep K46q (allS g_b (allS (Nat.le_trans (Nat.le_trans Z0 (Nat.le_refl _)) P33_0) all0))
  refine zpop Y B o725 rfl ?_
  exact zr0 Y B hret hlk o726 rfl ⟨tn_33, kn_33, rfl, N46, K47, (Nat.le_trans (Nat.le_refl _) P33_0), P46_0, P46_1, P46_2, P46_3, P46_4, P46_5⟩ rfl rfl
def Q_snameC (Z : State) (pg b v : Addr) (kv : ClassId) (cap : Nat) (cs : List Int32) (x t : Addr) (kt : ClassId) (ns : List Int32) (sx st : Addr) (sk : ClassId) (la : Addr) (lk : ClassId) (G1 : Int32) (h0 : Heap) (n0 : Nat) : QT := fun rv hE LE => ∃ v' : Addr, ∃ kv' : ClassId, rv = none ∧ Fr n0 LE ∧ Keep h0 hE [b, v] ∧ (h0.size ≤ v') ∧ (Exa Z hE b ss4) ∧ (Fld Z hE b ss1 ss2 "B" (.int 0)) ∧ (Fld Z hE b ss1 ss3 "[B" (.ref v')) ∧ (Fld Z hE b ss1 ss5 "I" (.int (Int32.ofNat (((cs ++ ns) ++ ([] : List Int32)) ++ [(32 : Int32)]).length))) ∧ (Arv Z hE v' kv' .byte (Int32.ofNat 70) (B8 (((cs ++ ns) ++ ([] : List Int32)) ++ [(32 : Int32)])) (.int 0)) ∧ (Exa Z hE v' "[B")
theorem rm_snameC (l : Launch) (Z : State) (a0 : Array Value) (hw : HW a0 Z) (ws : List Jvm.Cond) (pg b v : Addr) (kv : ClassId) (cap : Nat) (cs : List Int32) (x t : Addr) (kt : ClassId) (ns : List Int32) (sx st : Addr) (sk : ClassId) (la : Addr) (lk : ClassId) (G1 : Int32) (h0 : Heap) (n0 : Nat) (Z0 : n0 ≤ h0.size) (Q0 : Exa Z h0 pg ss6) (Q1 : Fld Z h0 pg ss6 "page" ss11 (.ref b)) (Q2 : Fld Z h0 pg ss6 ss18 ss9 (.ref x)) (B0 : Exa Z h0 b ss4) (B1 : Fld Z h0 b ss1 ss2 "B" (.int 0)) (B2 : Fld Z h0 b ss1 ss3 "[B" (.ref v)) (B3 : Fld Z h0 b ss1 ss5 "I" (.int (Int32.ofNat cs.length))) (B4 : Arv Z h0 v kv .byte (Int32.ofNat cap) (B8 cs) (.int 0)) (B5 : Exa Z h0 v "[B") (S0 : Exa Z h0 x ss0) (S1 : Fld Z h0 x ss0 ss2 "B" (.int 0)) (S2 : Fld Z h0 x ss0 ss3 "[B" (.ref t)) (S3 : Arv Z h0 t kt .byte (Int32.ofNat ns.length) (B8 ns) (.int 0)) (LA : Arv Z h0 la lk (.object ss0) (0 : Int32) ([]) .null) (HN2 : ns.length = 2) (NVT : v ≠ t) (HCP : 16 ≤ cap ∧ cap < 100000) (g_b : n0 ≤ b) (g_v : n0 ≤ v) (Xs0 : Exa Z h0 sx ss0) (Xs1 : Fld Z h0 sx ss0 ss2 "B" (.int 0)) (Xs2 : Fld Z h0 sx ss0 ss3 "[B" (.ref st)) (Xs3 : Arv Z h0 st sk .byte (Int32.ofNat ([] : List Int32).length) (B8 ([] : List Int32)) (.int 0)) (NVX : v ≠ st) (HRD : cap = 34 ∧ cs.length = 32) (O2 : Sta Z Z.heap ss0 ss7 "Z" (.int G1)) (P5 : ¬ (G1 = (0 : Int32))) (X00 : Old Z n0 h0) :
    MF l Z mn49 (Jvm.Cond.code mn49 cB49 4 (Option.none : Option Jvm.ClassFile.FieldType)) ws Ro40 #[(.ref pg), (.ref sx), (.ref la)] h0 (Q_snameC Z pg b v kv cap cs x t kt ns sx st sk la lk G1 h0 n0) := by
  refine MF.of ss6 rfl #[rv pg, rv sx, rv la, un] (plainFor_of_name opn_9) (fun _ => rfl) ?_
  intro p e s m below meth c _ hZ hh B hml hret hlk hown hnm Y e0
  have N0 := Fr.nil n0
  have K0 := Keep.refl h0 [b, v]
  obtain rfl : 34 = cap := (show cap = 34 from HRD.1).symm
  refine zalN Y B o707 rfl ?_
  refine zln Y B hZ e0 LA o708 ?_
  refine zc2 Y B o709 ?_
  refine Go.by (fun _ kq_ => iremM Y B.1 rfl (hb B.2 o710.1) rfl (by decide) kq_) ?_
  show Go p e below _ _ (mkF m 4 #[rv pg, rv sx, rv la, un] [(.int 0)])
  refine zY Y B j48 (by decide) ?_
  refine zalN Y B o711 rfl ?_
  refine zgf Y B hZ hown (ow68 hw) Via.refl e0 Q1 o712 fun _ Y e31 => ?_
  refine zalN Y B o713 rfl ?_
  refine zgf Y B hZ hown (ow75 hw) Via.refl e31 Q2 o714 fun _ Y e32 => ?_
  refine zcv Y B hZ hown (ow78 hw) (ow79 hw) (notFace_of_selects (args := #[]) (mvT hZ (ow81 hw))) (ow81 hw) (ow80 hw) (ow52 hw) (ow82 hw) (by decide) B0 (rm_sbappS l Z a0 hw [] b v kv 34 cs x t kt ns G1 h0 n0 (Nat.le_trans Z0 (Nat.le_refl _)) B0 B1 B2 B3 B4 B5 S0 S1 S2 S3 (by (try simp only [List.length_append, List.length_cons, List.length_nil, HELP_len, TYP_len, BS2_len, BSN_len]) <;> omega) (by omega) (g_v) (g_b) O2 P5 X00) e32 hml opd_30 rfl o715 rfl rfl rfl rfl rfl fun _ T33 _ Y hQ => ?_
  obtain ⟨rfl, N33q, K33q, P33_0, P33_1, P33_2, P33_3, P33_4, P33_5⟩ := hQ
  have N33 := Fr.app N0 N33q
  have K34 := K0.trans K33q (allS (Or.inl (List.mem_of_getElem? (i := 0) rfl)) (allS (Or.inl (List.mem_of_getElem? (i := 1) rfl)) all0))
  have O34 := X00.keep K33q (allS g_b (allS g_v all0))
  refine zalN Y B o716 rfl ?_
  have F36 := (Xs0.keep K33q)
  have F37 := (Xs1.keep K33q (ninS (ne_exa Xs0 B0 (by decide)) (ninS (ne_exa Xs0 B5 (by decide)) nin0)))
  have F38 := (Xs2.keep K33q (ninS (ne_exa Xs0 B0 (by decide)) (ninS (ne_exa Xs0 B5 (by decide)) nin0)))
  have F39 := (Xs3.keep K33q (ninS (Ne.symm (ne_arv B0 (ow51 hw) Xs3)) (ninS (Ne.symm NVX) nin0)))
  refine zcv Y B hZ hown (ow78 hw) (ow79 hw) (notFace_of_selects (args := #[]) (mvT hZ (ow81 hw))) (ow81 hw) (ow80 hw) (ow52 hw) (ow82 hw) (by decide) P33_0 (rm_sbappS l Z a0 hw [] b v kv 34 (cs ++ ns) sx st sk ([] : List Int32) G1 T33.heap n0 (Nat.le_trans Z0 K34.1) P33_0 P33_1 P33_2 P33_3 P33_4 P33_5 F36 F37 F38 F39 (by (try simp only [List.length_append, List.length_cons, List.length_nil, HELP_len, TYP_len, BS2_len, BSN_len]) <;> omega) (by omega) (g_v) (g_b) O2 P5 O34) rfl hml opd_30 rfl o717 rfl rfl rfl rfl rfl fun _ T35 _ Y hQ => ?_
  obtain ⟨rfl, N35q, K35q, P35_0, P35_1, P35_2, P35_3, P35_4, P35_5⟩ := hQ
  have N35 := Fr.app N33 N35q
  have K40 := K34.trans K35q (allS (Or.inl (List.mem_of_getElem? (i := 0) rfl)) (allS (Or.inl (List.mem_of_getElem? (i := 1) rfl)) all0))
  have O40 := O34.keep K35q (allS g_b (allS g_v all0))
  refine zpop Y B o718 rfl <| zalN Y B o719 rfl ?_
  have F42 := ((LA.keep K33q (ninS (Ne.symm (ne_arv B0 (ow51 hw) LA)) (ninS (ne_arvt LA B4 (by decide)) nin0))).keep K35q (ninS (Ne.symm (ne_arv B0 (ow51 hw) LA)) (ninS (ne_arvt LA B4 (by decide)) nin0)))
  refine zln Y B hZ rfl F42 o720 ?_
  refine zY Y B j49 (by decide) ?_
  refine zalN Y B o721 rfl ?_
  have F44 := ((Q1.keep K33q (ninS (ne_exa Q0 B0 (by decide)) (ninS (ne_exa Q0 B5 (by decide)) nin0))).keep K35q (ninS (ne_exa Q0 B0 (by decide)) (ninS (ne_exa Q0 B5 (by decide)) nin0)))
  refine zgf Y B hZ hown (ow68 hw) Via.refl rfl F44 o722 fun _ Y e43 => ?_
  refine zbp Y B o723 (v := 32) rfl ?_
  refine zcv Y B hZ hown (ow125 hw) (ow126 hw) (notFace_of_selects (args := #[]) (mvT hZ (ow128 hw))) (ow128 hw) (ow127 hw) (ow52 hw) (ow129 hw) (by decide) P35_0 (rm_sbappC1 l Z a0 hw [] b v kv 34 ((cs ++ ns) ++ ([] : List Int32)) (32 : Int32) G1 T35.heap n0 (Nat.le_trans Z0 K40.1) P35_0 P35_1 P35_2 P35_3 P35_4 P35_5 (by refine ⟨?_, ?_⟩ <;> (try simp only [List.length_append, List.length_cons, List.length_nil, HELP_len, TYP_len, BS2_len, BSN_len]) <;> omega) (by unfold newCap; (try simp only [List.length_append, List.length_cons, List.length_nil, HELP_len, TYP_len, BS2_len, BSN_len]) <;> omega) (by (try simp only [List.length_append, List.length_cons, List.length_nil, HELP_len, TYP_len, BS2_len, BSN_len]) <;> omega) (g_b) (by decide) O2 P5 O40) e43 hml opd_31 rfl o724 rfl rfl rfl rfl rfl fun _ T45 _ Y hQ => ?_
  obtain ⟨tn_45, kn_45, rfl, N45q, K45q, P45_0, P45_1, P45_2, P45_3, P45_4, P45_5, P45_6⟩ := hQ
  have N45 := Fr.app N35 N45q
  have K46 := K40.trans K45q (allS (Or.inl (List.mem_of_getElem? (i := 0) rfl)) all0)
  have O46 := O40.keep K45q (allS g_b all0)
  have F47 : Arv Z T45.heap tn_45 kn_45 .byte (Int32.ofNat 70) (B8 (((cs ++ ns) ++ ([] : List Int32)) ++ [(32 : Int32)])) (.int 0) := by have q := P45_5; rw [show newCap 34 (((cs ++ ns) ++ ([] : List Int32)).length + 1) = 70 from by unfold newCap; (try simp only [List.length_append, List.length_cons, List.length_nil, HELP_len, TYP_len, BS2_len, BSN_len]) <;> omega] at q; exact q
  refine zpop Y B o725 rfl ?_
  exact zr0 Y B hret hlk o726 rfl ⟨tn_45, kn_45, rfl, N45, K46, (Nat.le_trans K40.1 P45_0), P45_1, P45_2, P45_3, P45_4, F47, P45_6⟩ rfl rfl
def Q_sample0 (Z : State) (pg b v : Addr) (kv : ClassId) (cap : Nat) (cs : List Int32) (x t : Addr) (kt : ClassId) (ns : List Int32) (la : Addr) (lk : ClassId) (on : Addr) (ko : ClassId) (G1 : Int32) (h0 : Heap) (n0 : Nat) : QT := fun rv hE LE => rv = none ∧ Fr n0 LE ∧ Keep h0 hE [b, v] ∧ (Exa Z hE b ss4) ∧ (Fld Z hE b ss1 ss2 "B" (.int 0)) ∧ (Fld Z hE b ss1 ss3 "[B" (.ref v)) ∧ (Fld Z hE b ss1 ss5 "I" (.int (Int32.ofNat (((((cs ++ ns) ++ ([] : List Int32)) ++ [(32 : Int32)]) ++ [(55 : Int32)]) ++ [(10 : Int32)]).length))) ∧ (Arv Z hE v kv .byte (Int32.ofNat cap) (B8 (((((cs ++ ns) ++ ([] : List Int32)) ++ [(32 : Int32)]) ++ [(55 : Int32)]) ++ [(10 : Int32)])) (.int 0)) ∧ (Exa Z hE v "[B")
theorem rm_sample0 (l : Launch) (Z : State) (a0 : Array Value) (hw : HW a0 Z) (ws : List Jvm.Cond) (pg b v : Addr) (kv : ClassId) (cap : Nat) (cs : List Int32) (x t : Addr) (kt : ClassId) (ns : List Int32) (la : Addr) (lk : ClassId) (on : Addr) (ko : ClassId) (G1 : Int32) (h0 : Heap) (n0 : Nat) (Z0 : n0 ≤ h0.size) (Q0 : Exa Z h0 pg ss6) (Q1 : Fld Z h0 pg ss6 "page" ss11 (.ref b)) (Q2 : Fld Z h0 pg ss6 ss18 ss9 (.ref x)) (B0 : Exa Z h0 b ss4) (B1 : Fld Z h0 b ss1 ss2 "B" (.int 0)) (B2 : Fld Z h0 b ss1 ss3 "[B" (.ref v)) (B3 : Fld Z h0 b ss1 ss5 "I" (.int (Int32.ofNat cs.length))) (B4 : Arv Z h0 v kv .byte (Int32.ofNat cap) (B8 cs) (.int 0)) (B5 : Exa Z h0 v "[B") (S0 : Exa Z h0 x ss0) (S1 : Fld Z h0 x ss0 ss2 "B" (.int 0)) (S2 : Fld Z h0 x ss0 ss3 "[B" (.ref t)) (S3 : Arv Z h0 t kt .byte (Int32.ofNat ns.length) (B8 ns) (.int 0)) (LA : Arv Z h0 la lk (.object ss0) (0 : Int32) ([]) .null) (HN2 : ns.length = 2) (NVT : v ≠ t) (HCP : 16 ≤ cap ∧ cap < 100000) (g_b : n0 ≤ b) (g_v : n0 ≤ v) (HRD : cs.length + 5 ≤ cap) (OS1 : Sta Z Z.heap ss14 ss15 "[B" (.ref on)) (OD1 : Arv Z Z.heap on ko .byte (100 : Int32) ONES (.int 0)) (O2 : Sta Z Z.heap ss0 ss7 "Z" (.int G1)) (P5 : ¬ (G1 = (0 : Int32))) (X00 : Old Z n0 h0) :
    MetFree l mn50 (head1 (Jvm.Cond.code mn50 cB50 4 (Option.none : Option Jvm.ClassFile.FieldType) :: ws) Ro41) (fun ar_ U => ar_ = #[(.ref pg), (.long (7 : Int64)), (.ref la)] ∧ Z.Warmed39 U.vm ∧ U.heap = h0 ∧ CHv Z EL U.vm h0) (fun _ _ _ _ _ => True) (fun _ U o_ U' => OutW Z EL U (Q_sample0 Z pg b v kv cap cs x t kt ns la lk on ko G1 h0 n0) Ro41.cells Ro41.slots o_ U') := by
  refine MetFree.of_bodySF (plainFor_of_name opn_9) hisR ?_
  intro p e s m args below meth c s₁ Bd hml0 hP hK
  obtain ⟨rfl, hZ, hh, hCH⟩ := hP
  have B : HB p c _ := ⟨Bd.exec, Bd.bytes⟩
  have hml : c.maxLocals = 4 := hml0
  have hret := Bd.returns
  have hlk : meth.locks = false := BodyLoose.notSynchronized Bd
  have hown : s.vm.findClass ss6 = some m.cls := findClass_of_methodNamed Bd.named
  have hnm := (name_of_methodNamed Bd.named Bd.method).1
  have Y : Stand p l e Ro41 (s.setVm s.vm) m #[(.ref pg), (.long (7 : Int64)), (.ref la)] below meth c s₁ [] 0 0 := Stand.of_body Bd
  have e0 : s₁.heap = h0 := by rw [← hh, Bd.state]; rfl
  have N0 := Fr.nil n0
  have hS0 : s.Since s.vm h0.size := (State.WarmedH.refl s).since _
  have CR0 : CHr Z EL s.vm s.heap s.vm h0 := by rw [hh]; exact CHr.refl hCH
  have K0 : Keep h0 h0 [b, v] := Keep.refl h0 _
  show Go p e below (OutW Z EL s (Q_sample0 Z pg b v kv cap cs x t kt ns la lk on ko G1 h0 n0) Ro41.cells Ro41.slots) s₁ (entryFrame m #[(.ref pg), (.long (7 : Int64)), (.ref la)] 4)
  refine Go.cast (oef_sample0 m pg (7 : Int64) la) ?_
  show Go p e below _ _ (mkF m 0 #[rv pg, .val (.long (7 : Int64)), .second, rv la] [])
  have Sfv : Safe Z EL s.vm h0 v := safe_len hZ (hEWs hw) B4 (by omega) (by omega)
  refine zalN Y B o727 rfl ?_
  obtain ⟨sa30, T30, h30, k30, sb30, kb30, Y, e30, E30, hS30, hk30, hZ30, hown30, PE30, PC30, PV30, PA30, la30, lb30, R30, LT30, SF30, st30⟩ := ldcCH Y B.1 hZ hown (ow180 hw) (ostr hw) e0 hS0 (Nat.le_trans (Nat.le_refl _) (Nat.le_refl _)) (hEW hw) (List.mem_of_getElem? (i := 2) rfl) CR0.1 (vs := ((([] : List Int32).map (fun c => c.toInt8.toInt32)).map Value.int)) (z := (0 : Int32)) (by decide +kernel) (by decide) (by decide) (g := (mkF m 1 #[rv pg, .val (.long (7 : Int64)), .second, rv la] [(.ref pg)])) rfl (hb B.2 o728.1) (n := 0) (by decide) (by decide) (by decide) (by decide)
  refine Go.by st30 ?_
  have CR31 := CR0.trans R30
  have K31 := K0.ext E30
  have O31 := X00.ext E30
  show Go p e below _ _ (mkF m 3 #[rv pg, .val (.long (7 : Int64)), .second, rv la] [(.ref sa30), (.ref pg)])
  refine zalN Y B o729 rfl ?_
  have F33 := (Q0.ext E30)
  have F34 := (Q1.ext E30)
  have F35 := (Q2.ext E30)
  have F36 := (B0.ext E30)
  have F37 := (B1.ext E30)
  have F38 := (B2.ext E30)
  have F39 := (B3.ext E30)
  have F40 := (B4.ext E30)
  have F41 := (B5.ext E30)
  have F42 := (S0.ext E30)
  have F43 := (S1.ext E30)
  have F44 := (S2.ext E30)
  have F45 := (S3.ext E30)
  have F46 := (LA.ext E30)
  refine zcp Y B hZ30 hown30 (ow181 hw) (ow182 hw) (own_selp2 (ow182 hw) (ow183 hw) (ow73 hw) rfl (by decide)) (ow183 hw) (ow45 hw) (ow184 hw) (by decide) F33 (rm_sname0 l Z a0 hw [] pg b v kv cap cs x t kt ns sa30 sb30 kb30 la lk G1 h30 n0 (Nat.le_trans Z0 K31.1) F33 F34 F35 F36 F37 F38 F39 F40 F41 F42 F43 F44 F45 F46 HN2 NVT (by omega) g_b g_v PE30 PC30 PV30 PA30 ((SF30 v (R30.safe B5.lt Sfv)).2) (by omega) O2 P5 O31) e30 hml opd_33 rfl o730 rfl rfl rfl rfl rfl fun _ T32 _ Y hQ => ?_
  obtain ⟨rfl, N32q, K32q, P32_0, P32_1, P32_2, P32_3, P32_4, P32_5⟩ := hQ
  have N32 := Fr.app N0 N32q
  have Sf48 : Safe Z EL T30.vm h30 v := (R30.safe B5.lt Sfv)
  have R47 := CHr.keep K32q (allS (Safe.exa hZ30.alike F36 (by decide) (by decide)) (allS Sf48 all0)) CR31.1
  have CR47 := CR31.trans R47
  have K47 := K31.trans K32q (allS (Or.inl (List.mem_of_getElem? (i := 0) rfl)) (allS (Or.inl (List.mem_of_getElem? (i := 1) rfl)) all0))
  have O47 := O31.keep K32q (allS g_b (allS g_v all0))
  refine zalN Y B o731 rfl ?_
  have F50 := (F34.keep K32q (ninS (ne_exa Q0 B0 (by decide)) (ninS (ne_exa Q0 B5 (by decide)) nin0)))
  refine zgf Y B hZ30 hown30 (ow68 hw) Via.refl rfl F50 o732 fun _ Y e49 => ?_
  refine zllN Y B o733 rfl ?_
  refine zcv Y B hZ30 hown30 (ow185 hw) (ow186 hw) (notFace_of_selects (args := #[]) (mvT hZ30 (ow188 hw))) (ow188 hw) (ow187 hw) (ow52 hw) (ow189 hw) (by decide) P32_0 (rm_sbappJ0 l Z a0 hw [] b v kv cap (((cs ++ ns) ++ ([] : List Int32)) ++ [(32 : Int32)]) on ko G1 T32.heap n0 (Nat.le_trans Z0 K47.1) P32_0 P32_1 P32_2 P32_3 P32_4 P32_5 (by (try simp only [List.length_append, List.length_cons, List.length_nil, HELP_len, TYP_len, BS2_len, BSN_len]) <;> omega) (by omega) (g_v) (g_b) OS1 OD1 O2 P5 O47) e49 hml opd_34 rfl o734 rfl rfl rfl rfl rfl fun _ T51 _ Y hQ => ?_
  obtain ⟨rfl, N51q, K51q, P51_0, P51_1, P51_2, P51_3, P51_4, P51_5⟩ := hQ
  have N51 := Fr.app N32 N51q
  have Sf53 : Safe Z EL T30.vm T32.heap v := (R47.safe F41.lt Sf48)
  have R52 := CHr.keep K51q (allS (Safe.exa hZ30.alike P32_0 (by decide) (by decide)) (allS Sf53 all0)) CR47.1
  have CR52 := CR47.trans R52
  have K52 := K47.trans K51q (allS (Or.inl (List.mem_of_getElem? (i := 0) rfl)) (allS (Or.inl (List.mem_of_getElem? (i := 1) rfl)) all0))
  have O52 := O47.keep K51q (allS g_b (allS g_v all0))
  refine zbp Y B o735 (v := 10) rfl ?_
  refine zcv Y B hZ30 hown30 (ow125 hw) (ow126 hw) (notFace_of_selects (args := #[]) (mvT hZ30 (ow128 hw))) (ow128 hw) (ow127 hw) (ow52 hw) (ow129 hw) (by decide) P51_0 (rm_sbappC l Z a0 hw [] b v kv cap ((((cs ++ ns) ++ ([] : List Int32)) ++ [(32 : Int32)]) ++ [(55 : Int32)]) (10 : Int32) G1 T51.heap n0 (Nat.le_trans Z0 K52.1) P51_0 P51_1 P51_2 P51_3 P51_4 P51_5 (by (try simp only [List.length_append, List.length_cons, List.length_nil, HELP_len, TYP_len, BS2_len, BSN_len]) <;> omega) (by omega) (g_v) (g_b) (by decide) O2 P5 O52) rfl hml opd_31 rfl o736 rfl rfl rfl rfl rfl fun _ T54 _ Y hQ => ?_
  obtain ⟨rfl, N54q, K54q, P54_0, P54_1, P54_2, P54_3, P54_4, P54_5⟩ := hQ
  have N54 := Fr.app N51 N54q
  have Sf56 : Safe Z EL T30.vm T51.heap v := (R52.safe P32_5.lt Sf53)
  have R55 := CHr.keep K54q (allS (Safe.exa hZ30.alike P51_0 (by decide) (by decide)) (allS Sf56 all0)) CR52.1
  have CR55 := CR52.trans R55
  have K55 := K52.trans K54q (allS (Or.inl (List.mem_of_getElem? (i := 0) rfl)) (allS (Or.inl (List.mem_of_getElem? (i := 1) rfl)) all0))
  have O55 := O52.keep K54q (allS g_b (allS g_v all0))
  refine zpop Y B o737 rfl ?_
  exact Go.ret0W Y B.1 hret hlk (hb B.2 o738.1) hS30 (Nat.le_trans hk30 (Nat.le_trans (Nat.le_trans K32q.1 K51q.1) K54q.1)) hZ30 (hEW hw) CR55 ⟨rfl, N54, K55, P54_0, P54_1, P54_2, P54_3, P54_4, P54_5⟩ (by decide) (by decide)
def Q_sampleB (Z : State) (pg b v : Addr) (kv : ClassId) (cap : Nat) (cs : List Int32) (x t : Addr) (kt : ClassId) (ns : List Int32) (la : Addr) (lk : ClassId) (on : Addr) (ko : ClassId) (G1 : Int32) (h0 : Heap) (n0 : Nat) : QT := fun rv hE LE => ∃ v' : Addr, ∃ kv' : ClassId, rv = none ∧ Fr n0 LE ∧ Keep h0 hE [b, v] ∧ (h0.size ≤ v') ∧ (Exa Z hE b ss4) ∧ (Fld Z hE b ss1 ss2 "B" (.int 0)) ∧ (Fld Z hE b ss1 ss3 "[B" (.ref v')) ∧ (Fld Z hE b ss1 ss5 "I" (.int (Int32.ofNat (((((cs ++ ns) ++ ([] : List Int32)) ++ [(32 : Int32)]) ++ [(55 : Int32)]) ++ [(10 : Int32)]).length))) ∧ (Arv Z hE v' kv' .byte (Int32.ofNat 70) (B8 (((((cs ++ ns) ++ ([] : List Int32)) ++ [(32 : Int32)]) ++ [(55 : Int32)]) ++ [(10 : Int32)])) (.int 0)) ∧ (Exa Z hE v' "[B")
theorem rm_sampleB (l : Launch) (Z : State) (a0 : Array Value) (hw : HW a0 Z) (ws : List Jvm.Cond) (pg b v : Addr) (kv : ClassId) (cap : Nat) (cs : List Int32) (x t : Addr) (kt : ClassId) (ns : List Int32) (la : Addr) (lk : ClassId) (on : Addr) (ko : ClassId) (G1 : Int32) (h0 : Heap) (n0 : Nat) (Z0 : n0 ≤ h0.size) (Q0 : Exa Z h0 pg ss6) (Q1 : Fld Z h0 pg ss6 "page" ss11 (.ref b)) (Q2 : Fld Z h0 pg ss6 ss18 ss9 (.ref x)) (B0 : Exa Z h0 b ss4) (B1 : Fld Z h0 b ss1 ss2 "B" (.int 0)) (B2 : Fld Z h0 b ss1 ss3 "[B" (.ref v)) (B3 : Fld Z h0 b ss1 ss5 "I" (.int (Int32.ofNat cs.length))) (B4 : Arv Z h0 v kv .byte (Int32.ofNat cap) (B8 cs) (.int 0)) (B5 : Exa Z h0 v "[B") (S0 : Exa Z h0 x ss0) (S1 : Fld Z h0 x ss0 ss2 "B" (.int 0)) (S2 : Fld Z h0 x ss0 ss3 "[B" (.ref t)) (S3 : Arv Z h0 t kt .byte (Int32.ofNat ns.length) (B8 ns) (.int 0)) (LA : Arv Z h0 la lk (.object ss0) (0 : Int32) ([]) .null) (HN2 : ns.length = 2) (NVT : v ≠ t) (HCP : 16 ≤ cap ∧ cap < 100000) (g_b : n0 ≤ b) (g_v : n0 ≤ v) (HRD : cap = 34 ∧ 32 < cs.length ∧ cs.length ≤ 34) (OS1 : Sta Z Z.heap ss14 ss15 "[B" (.ref on)) (OD1 : Arv Z Z.heap on ko .byte (100 : Int32) ONES (.int 0)) (O2 : Sta Z Z.heap ss0 ss7 "Z" (.int G1)) (P5 : ¬ (G1 = (0 : Int32))) (X00 : Old Z n0 h0) :
    MetFree l mn50 (head1 (Jvm.Cond.code mn50 cB50 4 (Option.none : Option Jvm.ClassFile.FieldType) :: ws) Ro42) (fun ar_ U => ar_ = #[(.ref pg), (.long (7 : Int64)), (.ref la)] ∧ Z.Warmed39 U.vm ∧ U.heap = h0 ∧ CHv Z EL U.vm h0) (fun _ _ _ _ _ => True) (fun _ U o_ U' => OutW Z EL U (Q_sampleB Z pg b v kv cap cs x t kt ns la lk on ko G1 h0 n0) Ro42.cells Ro42.slots o_ U') := by
  refine MetFree.of_bodySF (plainFor_of_name opn_9) hisR ?_
  intro p e s m args below meth c s₁ Bd hml0 hP hK
  obtain ⟨rfl, hZ, hh, hCH⟩ := hP
  have B : HB p c _ := ⟨Bd.exec, Bd.bytes⟩
  have hml : c.maxLocals = 4 := hml0
  have hret := Bd.returns
  have hlk : meth.locks = false := BodyLoose.notSynchronized Bd
  have hown : s.vm.findClass ss6 = some m.cls := findClass_of_methodNamed Bd.named
  have hnm := (name_of_methodNamed Bd.named Bd.method).1
  have Y : Stand p l e Ro42 (s.setVm s.vm) m #[(.ref pg), (.long (7 : Int64)), (.ref la)] below meth c s₁ [] 0 0 := Stand.of_body Bd
  have e0 : s₁.heap = h0 := by rw [← hh, Bd.state]; rfl
  have N0 := Fr.nil n0
  have hS0 : s.Since s.vm h0.size := (State.WarmedH.refl s).since _
  have CR0 : CHr Z EL s.vm s.heap s.vm h0 := by rw [hh]; exact CHr.refl hCH
  have K0 : Keep h0 h0 [b, v] := Keep.refl h0 _
  show Go p e below (OutW Z EL s (Q_sampleB Z pg b v kv cap cs x t kt ns la lk on ko G1 h0 n0) Ro42.cells Ro42.slots) s₁ (entryFrame m #[(.ref pg), (.long (7 : Int64)), (.ref la)] 4)
  refine Go.cast (oef_sampleB m pg (7 : Int64) la) ?_
  show Go p e below _ _ (mkF m 0 #[rv pg, .val (.long (7 : Int64)), .second, rv la] [])
  have Sfv : Safe Z EL s.vm h0 v := safe_len hZ (hEWs hw) B4 (by omega) (by omega)
  obtain rfl : 34 = cap := (show cap = 34 from HRD.1).symm
  refine zalN Y B o727 rfl ?_
  obtain ⟨sa30, T30, h30, k30, sb30, kb30, Y, e30, E30, hS30, hk30, hZ30, hown30, PE30, PC30, PV30, PA30, la30, lb30, R30, LT30, SF30, st30⟩ := ldcCH Y B.1 hZ hown (ow180 hw) (ostr hw) e0 hS0 (Nat.le_trans (Nat.le_refl _) (Nat.le_refl _)) (hEW hw) (List.mem_of_getElem? (i := 2) rfl) CR0.1 (vs := ((([] : List Int32).map (fun c => c.toInt8.toInt32)).map Value.int)) (z := (0 : Int32)) (by decide +kernel) (by decide) (by decide) (g := (mkF m 1 #[rv pg, .val (.long (7 : Int64)), .second, rv la] [(.ref pg)])) rfl (hb B.2 o728.1) (n := 0) (by decide) (by decide) (by decide) (by decide)
  refine Go.by st30 ?_
  have CR31 := CR0.trans R30
  have K31 := K0.ext E30
  have O31 := X00.ext E30
  show Go p e below _ _ (mkF m 3 #[rv pg, .val (.long (7 : Int64)), .second, rv la] [(.ref sa30), (.ref pg)])
  refine zalN Y B o729 rfl ?_
  have F33 := (Q0.ext E30)
  have F34 := (Q1.ext E30)
  have F35 := (Q2.ext E30)
  have F36 := (B0.ext E30)
  have F37 := (B1.ext E30)
  have F38 := (B2.ext E30)
  have F39 := (B3.ext E30)
  have F40 := (B4.ext E30)
  have F41 := (B5.ext E30)
  have F42 := (S0.ext E30)
  have F43 := (S1.ext E30)
  have F44 := (S2.ext E30)
  have F45 := (S3.ext E30)
  have F46 := (LA.ext E30)
  refine zcp Y B hZ30 hown30 (ow181 hw) (ow182 hw) (own_selp2 (ow182 hw) (ow183 hw) (ow73 hw) rfl (by decide)) (ow183 hw) (ow45 hw) (ow184 hw) (by decide) F33 (rm_snameB l Z a0 hw [] pg b v kv 34 cs x t kt ns sa30 sb30 kb30 la lk G1 h30 n0 (Nat.le_trans Z0 K31.1) F33 F34 F35 F36 F37 F38 F39 F40 F41 F42 F43 F44 F45 F46 HN2 NVT (by omega) g_b g_v PE30 PC30 PV30 PA30 ((SF30 v (R30.safe B5.lt Sfv)).2) (by omega) O2 P5 O31) e30 hml opd_33 rfl o730 rfl rfl rfl rfl rfl fun _ T32 _ Y hQ => ?_
  obtain ⟨v'_32, kv'_32, rfl, N32q, K32q, P32_0, P32_1, P32_2, P32_3, P32_4, P32_5, P32_6⟩ := hQ
  have N32 := Fr.app N0 N32q
  have Sf48 : Safe Z EL T30.vm h30 v := (R30.safe B5.lt Sfv)
  have R47 := CHr.keep K32q (allS (Safe.exa hZ30.alike F36 (by decide) (by decide)) (allS Sf48 all0)) CR31.1
  have CR47 := CR31.trans R47
  have K47 := K31.trans K32q (allS (Or.inl (List.mem_of_getElem? (i := 0) rfl)) (allS (Or.inl (List.mem_of_getElem? (i := 1) rfl)) all0))
  have O47 := O31.keep K32q (allS g_b (allS g_v all0))
  have Sf49 : Safe Z EL T30.vm T32.heap v'_32 := Safe.keep K32q (allS (Safe.exa hZ30.alike F36 (by decide) (by decide)) (allS Sf48 all0)) CR31.1 (Safe.new P32_0)
  refine zalN Y B o731 rfl ?_
  have F51 := (F34.keep K32q (ninS (ne_exa Q0 B0 (by decide)) (ninS (ne_exa Q0 B5 (by decide)) nin0)))
  refine zgf Y B hZ30 hown30 (ow68 hw) Via.refl rfl F51 o732 fun _ Y e50 => ?_
  refine zllN Y B o733 rfl ?_
  refine zcv Y B hZ30 hown30 (ow185 hw) (ow186 hw) (notFace_of_selects (args := #[]) (mvT hZ30 (ow188 hw))) (ow188 hw) (ow187 hw) (ow52 hw) (ow189 hw) (by decide) P32_1 (rm_sbappJ0 l Z a0 hw [] b v'_32 kv'_32 70 (((cs ++ ns) ++ ([] : List Int32)) ++ [(32 : Int32)]) on ko G1 T32.heap n0 (Nat.le_trans Z0 K47.1) P32_1 P32_2 P32_3 P32_4 P32_5 P32_6 (by (try simp only [List.length_append, List.length_cons, List.length_nil, HELP_len, TYP_len, BS2_len, BSN_len]) <;> omega) (by omega) ((Nat.le_trans (Nat.le_trans Z0 K31.1) P32_0)) (g_b) OS1 OD1 O2 P5 O47) e50 hml opd_34 rfl o734 rfl rfl rfl rfl rfl fun _ T52 _ Y hQ => ?_
  obtain ⟨rfl, N52q, K52q, P52_0, P52_1, P52_2, P52_3, P52_4, P52_5⟩ := hQ
  have N52 := Fr.app N32 N52q
  have R53 := CHr.keep K52q (allS (Safe.exa hZ30.alike P32_1 (by decide) (by decide)) (allS Sf49 all0)) CR47.1
  have CR53 := CR47.trans R53
  have K53 := K47.trans K52q (allS (Or.inl (List.mem_of_getElem? (i := 0) rfl)) (allS (Or.inr (Nat.le_trans K31.1 P32_0)) all0))
  have O53 := O47.keep K52q (allS g_b (allS (Nat.le_trans (Nat.le_trans Z0 K31.1) P32_0) all0))
  refine zbp Y B o735 (v := 10) rfl ?_
  refine zcv Y B hZ30 hown30 (ow125 hw) (ow126 hw) (notFace_of_selects (args := #[]) (mvT hZ30 (ow128 hw))) (ow128 hw) (ow127 hw) (ow52 hw) (ow129 hw) (by decide) P52_0 (rm_sbappC l Z a0 hw [] b v'_32 kv'_32 70 ((((cs ++ ns) ++ ([] : List Int32)) ++ [(32 : Int32)]) ++ [(55 : Int32)]) (10 : Int32) G1 T52.heap n0 (Nat.le_trans Z0 K53.1) P52_0 P52_1 P52_2 P52_3 P52_4 P52_5 (by (try simp only [List.length_append, List.length_cons, List.length_nil, HELP_len, TYP_len, BS2_len, BSN_len]) <;> omega) (by omega) ((Nat.le_trans (Nat.le_trans Z0 K31.1) P32_0)) (g_b) (by decide) O2 P5 O53) rfl hml opd_31 rfl o736 rfl rfl rfl rfl rfl fun _ T54 _ Y hQ => ?_
  obtain ⟨rfl, N54q, K54q, P54_0, P54_1, P54_2, P54_3, P54_4, P54_5⟩ := hQ
  have N54 := Fr.app N52 N54q
  have Sf56 : Safe Z EL T30.vm T52.heap v'_32 := (R53.safe P32_6.lt Sf49)
  have R55 := CHr.keep K54q (allS (Safe.exa hZ30.alike P52_0 (by decide) (by decide)) (allS Sf56 all0)) CR53.1
  have CR55 := CR53.trans R55
  have K55 := K53.trans K54q (allS (Or.inl (List.mem_of_getElem? (i := 0) rfl)) (allS (Or.inr (Nat.le_trans K31.1 P32_0)) all0))
  have O55 := O53.keep K54q (allS g_b (allS (Nat.le_trans (Nat.le_trans Z0 K31.1) P32_0) all0))
  refine zpop Y B o737 rfl ?_
  exact Go.ret0W Y B.1 hret hlk (hb B.2 o738.1) hS30 (Nat.le_trans hk30 (Nat.le_trans (Nat.le_trans K32q.1 K52q.1) K54q.1)) hZ30 (hEW hw) CR55 ⟨v'_32, kv'_32, rfl, N54, K55, (Nat.le_trans K31.1 P32_0), P54_0, P54_1, P54_2, P54_3, P54_4, P54_5⟩ (by decide) (by decide)
def Q_sampleC (Z : State) (pg b v : Addr) (kv : ClassId) (cap : Nat) (cs : List Int32) (x t : Addr) (kt : ClassId) (ns : List Int32) (la : Addr) (lk : ClassId) (on : Addr) (ko : ClassId) (G1 : Int32) (h0 : Heap) (n0 : Nat) : QT := fun rv hE LE => ∃ v' : Addr, ∃ kv' : ClassId, rv = none ∧ Fr n0 LE ∧ Keep h0 hE [b, v] ∧ (h0.size ≤ v') ∧ (Exa Z hE b ss4) ∧ (Fld Z hE b ss1 ss2 "B" (.int 0)) ∧ (Fld Z hE b ss1 ss3 "[B" (.ref v')) ∧ (Fld Z hE b ss1 ss5 "I" (.int (Int32.ofNat (((((cs ++ ns) ++ ([] : List Int32)) ++ [(32 : Int32)]) ++ [(55 : Int32)]) ++ [(10 : Int32)]).length))) ∧ (Arv Z hE v' kv' .byte (Int32.ofNat 70) (B8 (((((cs ++ ns) ++ ([] : List Int32)) ++ [(32 : Int32)]) ++ [(55 : Int32)]) ++ [(10 : Int32)])) (.int 0)) ∧ (Exa Z hE v' "[B")
theorem rm_sampleC (l : Launch) (Z : State) (a0 : Array Value) (hw : HW a0 Z) (ws : List Jvm.Cond) (pg b v : Addr) (kv : ClassId) (cap : Nat) (cs : List Int32) (x t : Addr) (kt : ClassId) (ns : List Int32) (la : Addr) (lk : ClassId) (on : Addr) (ko : ClassId) (G1 : Int32) (h0 : Heap) (n0 : Nat) (Z0 : n0 ≤ h0.size) (Q0 : Exa Z h0 pg ss6) (Q1 : Fld Z h0 pg ss6 "page" ss11 (.ref b)) (Q2 : Fld Z h0 pg ss6 ss18 ss9 (.ref x)) (B0 : Exa Z h0 b ss4) (B1 : Fld Z h0 b ss1 ss2 "B" (.int 0)) (B2 : Fld Z h0 b ss1 ss3 "[B" (.ref v)) (B3 : Fld Z h0 b ss1 ss5 "I" (.int (Int32.ofNat cs.length))) (B4 : Arv Z h0 v kv .byte (Int32.ofNat cap) (B8 cs) (.int 0)) (B5 : Exa Z h0 v "[B") (S0 : Exa Z h0 x ss0) (S1 : Fld Z h0 x ss0 ss2 "B" (.int 0)) (S2 : Fld Z h0 x ss0 ss3 "[B" (.ref t)) (S3 : Arv Z h0 t kt .byte (Int32.ofNat ns.length) (B8 ns) (.int 0)) (LA : Arv Z h0 la lk (.object ss0) (0 : Int32) ([]) .null) (HN2 : ns.length = 2) (NVT : v ≠ t) (HCP : 16 ≤ cap ∧ cap < 100000) (g_b : n0 ≤ b) (g_v : n0 ≤ v) (HRD : cap = 34 ∧ cs.length = 32) (OS1 : Sta Z Z.heap ss14 ss15 "[B" (.ref on)) (OD1 : Arv Z Z.heap on ko .byte (100 : Int32) ONES (.int 0)) (O2 : Sta Z Z.heap ss0 ss7 "Z" (.int G1)) (P5 : ¬ (G1 = (0 : Int32))) (X00 : Old Z n0 h0) :
    MetFree l mn50 (head1 (Jvm.Cond.code mn50 cB50 4 (Option.none : Option Jvm.ClassFile.FieldType) :: ws) Ro43) (fun ar_ U => ar_ = #[(.ref pg), (.long (7 : Int64)), (.ref la)] ∧ Z.Warmed39 U.vm ∧ U.heap = h0 ∧ CHv Z EL U.vm h0) (fun _ _ _ _ _ => True) (fun _ U o_ U' => OutW Z EL U (Q_sampleC Z pg b v kv cap cs x t kt ns la lk on ko G1 h0 n0) Ro43.cells Ro43.slots o_ U') := by
  refine MetFree.of_bodySF (plainFor_of_name opn_9) hisR ?_
  intro p e s m args below meth c s₁ Bd hml0 hP hK
  obtain ⟨rfl, hZ, hh, hCH⟩ := hP
  have B : HB p c _ := ⟨Bd.exec, Bd.bytes⟩
  have hml : c.maxLocals = 4 := hml0
  have hret := Bd.returns
  have hlk : meth.locks = false := BodyLoose.notSynchronized Bd
  have hown : s.vm.findClass ss6 = some m.cls := findClass_of_methodNamed Bd.named
  have hnm := (name_of_methodNamed Bd.named Bd.method).1
  have Y : Stand p l e Ro43 (s.setVm s.vm) m #[(.ref pg), (.long (7 : Int64)), (.ref la)] below meth c s₁ [] 0 0 := Stand.of_body Bd
  have e0 : s₁.heap = h0 := by rw [← hh, Bd.state]; rfl
  have N0 := Fr.nil n0
  have hS0 : s.Since s.vm h0.size := (State.WarmedH.refl s).since _
  have CR0 : CHr Z EL s.vm s.heap s.vm h0 := by rw [hh]; exact CHr.refl hCH
  have K0 : Keep h0 h0 [b, v] := Keep.refl h0 _
  show Go p e below (OutW Z EL s (Q_sampleC Z pg b v kv cap cs x t kt ns la lk on ko G1 h0 n0) Ro43.cells Ro43.slots) s₁ (entryFrame m #[(.ref pg), (.long (7 : Int64)), (.ref la)] 4)
  refine Go.cast (oef_sampleC m pg (7 : Int64) la) ?_
  show Go p e below _ _ (mkF m 0 #[rv pg, .val (.long (7 : Int64)), .second, rv la] [])
  have Sfv : Safe Z EL s.vm h0 v := safe_len hZ (hEWs hw) B4 (by omega) (by omega)
  obtain rfl : 34 = cap := (show cap = 34 from HRD.1).symm
  refine zalN Y B o727 rfl ?_
  obtain ⟨sa30, T30, h30, k30, sb30, kb30, Y, e30, E30, hS30, hk30, hZ30, hown30, PE30, PC30, PV30, PA30, la30, lb30, R30, LT30, SF30, st30⟩ := ldcCH Y B.1 hZ hown (ow180 hw) (ostr hw) e0 hS0 (Nat.le_trans (Nat.le_refl _) (Nat.le_refl _)) (hEW hw) (List.mem_of_getElem? (i := 2) rfl) CR0.1 (vs := ((([] : List Int32).map (fun c => c.toInt8.toInt32)).map Value.int)) (z := (0 : Int32)) (by decide +kernel) (by decide) (by decide) (g := (mkF m 1 #[rv pg, .val (.long (7 : Int64)), .second, rv la] [(.ref pg)])) rfl (hb B.2 o728.1) (n := 0) (by decide) (by decide) (by decide) (by decide)
  refine Go.by st30 ?_
  have CR31 := CR0.trans R30
  have K31 := K0.ext E30
  have O31 := X00.ext E30
  show Go p e below _ _ (mkF m 3 #[rv pg, .val (.long (7 : Int64)), .second, rv la] [(.ref sa30), (.ref pg)])
  refine zalN Y B o729 rfl ?_
  have F33 := (Q0.ext E30)
  have F34 := (Q1.ext E30)
  have F35 := (Q2.ext E30)
  have F36 := (B0.ext E30)
  have F37 := (B1.ext E30)
  have F38 := (B2.ext E30)
  have F39 := (B3.ext E30)
  have F40 := (B4.ext E30)
  have F41 := (B5.ext E30)
  have F42 := (S0.ext E30)
  have F43 := (S1.ext E30)
  have F44 := (S2.ext E30)
  have F45 := (S3.ext E30)
  have F46 := (LA.ext E30)
  refine zcp Y B hZ30 hown30 (ow181 hw) (ow182 hw) (own_selp2 (ow182 hw) (ow183 hw) (ow73 hw) rfl (by decide)) (ow183 hw) (ow45 hw) (ow184 hw) (by decide) F33 (rm_snameC l Z a0 hw [] pg b v kv 34 cs x t kt ns sa30 sb30 kb30 la lk G1 h30 n0 (Nat.le_trans Z0 K31.1) F33 F34 F35 F36 F37 F38 F39 F40 F41 F42 F43 F44 F45 F46 HN2 NVT (by omega) g_b g_v PE30 PC30 PV30 PA30 ((SF30 v (R30.safe B5.lt Sfv)).2) (by omega) O2 P5 O31) e30 hml opd_33 rfl o730 rfl rfl rfl rfl rfl fun _ T32 _ Y hQ => ?_
  obtain ⟨v'_32, kv'_32, rfl, N32q, K32q, P32_0, P32_1, P32_2, P32_3, P32_4, P32_5, P32_6⟩ := hQ
  have N32 := Fr.app N0 N32q
  have Sf48 : Safe Z EL T30.vm h30 v := (R30.safe B5.lt Sfv)
  have R47 := CHr.keep K32q (allS (Safe.exa hZ30.alike F36 (by decide) (by decide)) (allS Sf48 all0)) CR31.1
  have CR47 := CR31.trans R47
  have K47 := K31.trans K32q (allS (Or.inl (List.mem_of_getElem? (i := 0) rfl)) (allS (Or.inl (List.mem_of_getElem? (i := 1) rfl)) all0))
  have O47 := O31.keep K32q (allS g_b (allS g_v all0))
  have Sf49 : Safe Z EL T30.vm T32.heap v'_32 := Safe.keep K32q (allS (Safe.exa hZ30.alike F36 (by decide) (by decide)) (allS Sf48 all0)) CR31.1 (Safe.new P32_0)
  refine zalN Y B o731 rfl ?_
  have F51 := (F34.keep K32q (ninS (ne_exa Q0 B0 (by decide)) (ninS (ne_exa Q0 B5 (by decide)) nin0)))
  refine zgf Y B hZ30 hown30 (ow68 hw) Via.refl rfl F51 o732 fun _ Y e50 => ?_
  refine zllN Y B o733 rfl ?_
  refine zcv Y B hZ30 hown30 (ow185 hw) (ow186 hw) (notFace_of_selects (args := #[]) (mvT hZ30 (ow188 hw))) (ow188 hw) (ow187 hw) (ow52 hw) (ow189 hw) (by decide) P32_1 (rm_sbappJ0 l Z a0 hw [] b v'_32 kv'_32 70 (((cs ++ ns) ++ ([] : List Int32)) ++ [(32 : Int32)]) on ko G1 T32.heap n0 (Nat.le_trans Z0 K47.1) P32_1 P32_2 P32_3 P32_4 P32_5 P32_6 (by (try simp only [List.length_append, List.length_cons, List.length_nil, HELP_len, TYP_len, BS2_len, BSN_len]) <;> omega) (by omega) ((Nat.le_trans (Nat.le_trans Z0 K31.1) P32_0)) (g_b) OS1 OD1 O2 P5 O47) e50 hml opd_34 rfl o734 rfl rfl rfl rfl rfl fun _ T52 _ Y hQ => ?_
  obtain ⟨rfl, N52q, K52q, P52_0, P52_1, P52_2, P52_3, P52_4, P52_5⟩ := hQ
  have N52 := Fr.app N32 N52q
  have R53 := CHr.keep K52q (allS (Safe.exa hZ30.alike P32_1 (by decide) (by decide)) (allS Sf49 all0)) CR47.1
  have CR53 := CR47.trans R53
  have K53 := K47.trans K52q (allS (Or.inl (List.mem_of_getElem? (i := 0) rfl)) (allS (Or.inr (Nat.le_trans K31.1 P32_0)) all0))
  have O53 := O47.keep K52q (allS g_b (allS (Nat.le_trans (Nat.le_trans Z0 K31.1) P32_0) all0))
  refine zbp Y B o735 (v := 10) rfl ?_
  refine zcv Y B hZ30 hown30 (ow125 hw) (ow126 hw) (notFace_of_selects (args := #[]) (mvT hZ30 (ow128 hw))) (ow128 hw) (ow127 hw) (ow52 hw) (ow129 hw) (by decide) P52_0 (rm_sbappC l Z a0 hw [] b v'_32 kv'_32 70 ((((cs ++ ns) ++ ([] : List Int32)) ++ [(32 : Int32)]) ++ [(55 : Int32)]) (10 : Int32) G1 T52.heap n0 (Nat.le_trans Z0 K53.1) P52_0 P52_1 P52_2 P52_3 P52_4 P52_5 (by (try simp only [List.length_append, List.length_cons, List.length_nil, HELP_len, TYP_len, BS2_len, BSN_len]) <;> omega) (by omega) ((Nat.le_trans (Nat.le_trans Z0 K31.1) P32_0)) (g_b) (by decide) O2 P5 O53) rfl hml opd_31 rfl o736 rfl rfl rfl rfl rfl fun _ T54 _ Y hQ => ?_
  obtain ⟨rfl, N54q, K54q, P54_0, P54_1, P54_2, P54_3, P54_4, P54_5⟩ := hQ
  have N54 := Fr.app N52 N54q
  have Sf56 : Safe Z EL T30.vm T52.heap v'_32 := (R53.safe P32_6.lt Sf49)
  have R55 := CHr.keep K54q (allS (Safe.exa hZ30.alike P52_0 (by decide) (by decide)) (allS Sf56 all0)) CR53.1
  have CR55 := CR53.trans R55
  have K55 := K53.trans K54q (allS (Or.inl (List.mem_of_getElem? (i := 0) rfl)) (allS (Or.inr (Nat.le_trans K31.1 P32_0)) all0))
  have O55 := O53.keep K54q (allS g_b (allS (Nat.le_trans (Nat.le_trans Z0 K31.1) P32_0) all0))
  refine zpop Y B o737 rfl ?_
  exact Go.ret0W Y B.1 hret hlk (hb B.2 o738.1) hS30 (Nat.le_trans hk30 (Nat.le_trans (Nat.le_trans K32q.1 K52q.1) K54q.1)) hZ30 (hEW hw) CR55 ⟨v'_32, kv'_32, rfl, N54, K55, (Nat.le_trans K31.1 P32_0), P54_0, P54_1, P54_2, P54_3, P54_4, P54_5⟩ (by decide) (by decide)
def Q_sampleJ (Z : State) (pg b v : Addr) (kv : ClassId) (cap : Nat) (cs : List Int32) (x t : Addr) (kt : ClassId) (ns : List Int32) (la : Addr) (lk : ClassId) (on : Addr) (ko : ClassId) (G1 : Int32) (h0 : Heap) (n0 : Nat) : QT := fun rv hE LE => ∃ v' : Addr, ∃ kv' : ClassId, rv = none ∧ Fr n0 LE ∧ Keep h0 hE [b, v] ∧ (h0.size ≤ v') ∧ (Exa Z hE b ss4) ∧ (Fld Z hE b ss1 ss2 "B" (.int 0)) ∧ (Fld Z hE b ss1 ss3 "[B" (.ref v')) ∧ (Fld Z hE b ss1 ss5 "I" (.int (Int32.ofNat (((((cs ++ ns) ++ ([] : List Int32)) ++ [(32 : Int32)]) ++ [(55 : Int32)]) ++ [(10 : Int32)]).length))) ∧ (Arv Z hE v' kv' .byte (Int32.ofNat 70) (B8 (((((cs ++ ns) ++ ([] : List Int32)) ++ [(32 : Int32)]) ++ [(55 : Int32)]) ++ [(10 : Int32)])) (.int 0)) ∧ (Exa Z hE v' "[B")
theorem rm_sampleJ (l : Launch) (Z : State) (a0 : Array Value) (hw : HW a0 Z) (ws : List Jvm.Cond) (pg b v : Addr) (kv : ClassId) (cap : Nat) (cs : List Int32) (x t : Addr) (kt : ClassId) (ns : List Int32) (la : Addr) (lk : ClassId) (on : Addr) (ko : ClassId) (G1 : Int32) (h0 : Heap) (n0 : Nat) (Z0 : n0 ≤ h0.size) (Q0 : Exa Z h0 pg ss6) (Q1 : Fld Z h0 pg ss6 "page" ss11 (.ref b)) (Q2 : Fld Z h0 pg ss6 ss18 ss9 (.ref x)) (B0 : Exa Z h0 b ss4) (B1 : Fld Z h0 b ss1 ss2 "B" (.int 0)) (B2 : Fld Z h0 b ss1 ss3 "[B" (.ref v)) (B3 : Fld Z h0 b ss1 ss5 "I" (.int (Int32.ofNat cs.length))) (B4 : Arv Z h0 v kv .byte (Int32.ofNat cap) (B8 cs) (.int 0)) (B5 : Exa Z h0 v "[B") (S0 : Exa Z h0 x ss0) (S1 : Fld Z h0 x ss0 ss2 "B" (.int 0)) (S2 : Fld Z h0 x ss0 ss3 "[B" (.ref t)) (S3 : Arv Z h0 t kt .byte (Int32.ofNat ns.length) (B8 ns) (.int 0)) (LA : Arv Z h0 la lk (.object ss0) (0 : Int32) ([]) .null) (HN2 : ns.length = 2) (NVT : v ≠ t) (HCP : 16 ≤ cap ∧ cap < 100000) (g_b : n0 ≤ b) (g_v : n0 ≤ v) (HRD : cap = 34 ∧ cs.length = 31) (OS1 : Sta Z Z.heap ss14 ss15 "[B" (.ref on)) (OD1 : Arv Z Z.heap on ko .byte (100 : Int32) ONES (.int 0)) (O2 : Sta Z Z.heap ss0 ss7 "Z" (.int G1)) (P5 : ¬ (G1 = (0 : Int32))) (X00 : Old Z n0 h0) :
    MetFree l mn50 (head1 (Jvm.Cond.code mn50 cB50 4 (Option.none : Option Jvm.ClassFile.FieldType) :: ws) Ro44) (fun ar_ U => ar_ = #[(.ref pg), (.long (7 : Int64)), (.ref la)] ∧ Z.Warmed39 U.vm ∧ U.heap = h0 ∧ CHv Z EL U.vm h0) (fun _ _ _ _ _ => True) (fun _ U o_ U' => OutW Z EL U (Q_sampleJ Z pg b v kv cap cs x t kt ns la lk on ko G1 h0 n0) Ro44.cells Ro44.slots o_ U') := by
  refine MetFree.of_bodySF (plainFor_of_name opn_9) hisR ?_
  intro p e s m args below meth c s₁ Bd hml0 hP hK
  obtain ⟨rfl, hZ, hh, hCH⟩ := hP
  have B : HB p c _ := ⟨Bd.exec, Bd.bytes⟩
  have hml : c.maxLocals = 4 := hml0
  have hret := Bd.returns
  have hlk : meth.locks = false := BodyLoose.notSynchronized Bd
  have hown : s.vm.findClass ss6 = some m.cls := findClass_of_methodNamed Bd.named
  have hnm := (name_of_methodNamed Bd.named Bd.method).1
  have Y : Stand p l e Ro44 (s.setVm s.vm) m #[(.ref pg), (.long (7 : Int64)), (.ref la)] below meth c s₁ [] 0 0 := Stand.of_body Bd
  have e0 : s₁.heap = h0 := by rw [← hh, Bd.state]; rfl
  have N0 := Fr.nil n0
  have hS0 : s.Since s.vm h0.size := (State.WarmedH.refl s).since _
  have CR0 : CHr Z EL s.vm s.heap s.vm h0 := by rw [hh]; exact CHr.refl hCH
  have K0 : Keep h0 h0 [b, v] := Keep.refl h0 _
  show Go p e below (OutW Z EL s (Q_sampleJ Z pg b v kv cap cs x t kt ns la lk on ko G1 h0 n0) Ro44.cells Ro44.slots) s₁ (entryFrame m #[(.ref pg), (.long (7 : Int64)), (.ref la)] 4)
  refine Go.cast (oef_sampleJ m pg (7 : Int64) la) ?_
  show Go p e below _ _ (mkF m 0 #[rv pg, .val (.long (7 : Int64)), .second, rv la] [])
  have Sfv : Safe Z EL s.vm h0 v := safe_len hZ (hEWs hw) B4 (by omega) (by omega)
  obtain rfl : 34 = cap := (show cap = 34 from HRD.1).symm
  refine zalN Y B o727 rfl ?_
  obtain ⟨sa30, T30, h30, k30, sb30, kb30, Y, e30, E30, hS30, hk30, hZ30, hown30, PE30, PC30, PV30, PA30, la30, lb30, R30, LT30, SF30, st30⟩ := ldcCH Y B.1 hZ hown (ow180 hw) (ostr hw) e0 hS0 (Nat.le_trans (Nat.le_refl _) (Nat.le_refl _)) (hEW hw) (List.mem_of_getElem? (i := 2) rfl) CR0.1 (vs := ((([] : List Int32).map (fun c => c.toInt8.toInt32)).map Value.int)) (z := (0 : Int32)) (by decide +kernel) (by decide) (by decide) (g := (mkF m 1 #[rv pg, .val (.long (7 : Int64)), .second, rv la] [(.ref pg)])) rfl (hb B.2 o728.1) (n := 0) (by decide) (by decide) (by decide) (by decide)
  refine Go.by st30 ?_
  have CR31 := CR0.trans R30
  have K31 := K0.ext E30
  have O31 := X00.ext E30
  show Go p e below _ _ (mkF m 3 #[rv pg, .val (.long (7 : Int64)), .second, rv la] [(.ref sa30), (.ref pg)])
  refine zalN Y B o729 rfl ?_
  have F33 := (Q0.ext E30)
  have F34 := (Q1.ext E30)
  have F35 := (Q2.ext E30)
  have F36 := (B0.ext E30)
  have F37 := (B1.ext E30)
  have F38 := (B2.ext E30)
  have F39 := (B3.ext E30)
  have F40 := (B4.ext E30)
  have F41 := (B5.ext E30)
  have F42 := (S0.ext E30)
  have F43 := (S1.ext E30)
  have F44 := (S2.ext E30)
  have F45 := (S3.ext E30)
  have F46 := (LA.ext E30)
  refine zcp Y B hZ30 hown30 (ow181 hw) (ow182 hw) (own_selp2 (ow182 hw) (ow183 hw) (ow73 hw) rfl (by decide)) (ow183 hw) (ow45 hw) (ow184 hw) (by decide) F33 (rm_sname0 l Z a0 hw [] pg b v kv 34 cs x t kt ns sa30 sb30 kb30 la lk G1 h30 n0 (Nat.le_trans Z0 K31.1) F33 F34 F35 F36 F37 F38 F39 F40 F41 F42 F43 F44 F45 F46 HN2 NVT (by omega) g_b g_v PE30 PC30 PV30 PA30 ((SF30 v (R30.safe B5.lt Sfv)).2) (by omega) O2 P5 O31) e30 hml opd_33 rfl o730 rfl rfl rfl rfl rfl fun _ T32 _ Y hQ => ?_
  obtain ⟨rfl, N32q, K32q, P32_0, P32_1, P32_2, P32_3, P32_4, P32_5⟩ := hQ
  have N32 := Fr.app N0 N32q
  have Sf48 : Safe Z EL T30.vm h30 v := (R30.safe B5.lt Sfv)
  have R47 := CHr.keep K32q (allS (Safe.exa hZ30.alike F36 (by decide) (by decide)) (allS Sf48 all0)) CR31.1
  have CR47 := CR31.trans R47
  have K47 := K31.trans K32q (allS (Or.inl (List.mem_of_getElem? (i := 0) rfl)) (allS (Or.inl (List.mem_of_getElem? (i := 1) rfl)) all0))
  have O47 := O31.keep K32q (allS g_b (allS g_v all0))
  refine zalN Y B o731 rfl ?_
  have F50 := (F34.keep K32q (ninS (ne_exa Q0 B0 (by decide)) (ninS (ne_exa Q0 B5 (by decide)) nin0)))
  refine zgf Y B hZ30 hown30 (ow68 hw) Via.refl rfl F50 o732 fun _ Y e49 => ?_
  refine zllN Y B o733 rfl ?_
  refine zcv Y B hZ30 hown30 (ow185 hw) (ow186 hw) (notFace_of_selects (args := #[]) (mvT hZ30 (ow188 hw))) (ow188 hw) (ow187 hw) (ow52 hw) (ow189 hw) (by decide) P32_0 (rm_sbappJ1 l Z a0 hw [] b v kv 34 (((cs ++ ns) ++ ([] : List Int32)) ++ [(32 : Int32)]) on ko G1 T32.heap n0 (Nat.le_trans Z0 K47.1) P32_0 P32_1 P32_2 P32_3 P32_4 P32_5 (by refine ⟨?_, ?_⟩ <;> (try simp only [List.length_append, List.length_cons, List.length_nil, HELP_len, TYP_len, BS2_len, BSN_len]) <;> omega) (by unfold newCap; (try simp only [List.length_append, List.length_cons, List.length_nil, HELP_len, TYP_len, BS2_len, BSN_len]) <;> omega) (by (try simp only [List.length_append, List.length_cons, List.length_nil, HELP_len, TYP_len, BS2_len, BSN_len]) <;> omega) (g_b) OS1 OD1 O2 P5 O47) e49 hml opd_34 rfl o734 rfl rfl rfl rfl rfl fun _ T51 _ Y hQ => ?_
  obtain ⟨tn_51, kn_51, rfl, N51q, K51q, P51_0, P51_1, P51_2, P51_3, P51_4, P51_5, P51_6⟩ := hQ
  have N51 := Fr.app N32 N51q
  have R52 := CHr.keep K51q (allS (Safe.exa hZ30.alike P32_0 (by decide) (by decide)) all0) CR47.1
  have CR52 := CR47.trans R52
  have K52 := K47.trans K51q (allS (Or.inl (List.mem_of_getElem? (i := 0) rfl)) all0)
  have O52 := O47.keep K51q (allS g_b all0)
  have Sf53 : Safe Z EL T30.vm T51.heap tn_51 := Safe.keep K51q (allS (Safe.exa hZ30.alike P32_0 (by decide) (by decide)) all0) CR47.1 (Safe.new P51_0)
  have F54 : Arv Z T51.heap tn_51 kn_51 .byte (Int32.ofNat 70) (B8 ((((cs ++ ns) ++ ([] : List Int32)) ++ [(32 : Int32)]) ++ [(55 : Int32)])) (.int 0) := by have q := P51_5; rw [show newCap 34 ((((cs ++ ns) ++ ([] : List Int32)) ++ [(32 : Int32)]).length + 1) = 70 from by unfold newCap; (try simp only [List.length_append, List.length_cons, List.length_nil, HELP_len, TYP_len, BS2_len, BSN_len]) <;> omega] at q; exact q
  refine zbp Y B o735 (v := 10) rfl ?_
  refine zcv Y B hZ30 hown30 (ow125 hw) (ow126 hw) (notFace_of_selects (args := #[]) (mvT hZ30 (ow128 hw))) (ow128 hw) (ow127 hw) (ow52 hw) (ow129 hw) (by decide) P51_1 (rm_sbappC l Z a0 hw [] b tn_51 kn_51 70 ((((cs ++ ns) ++ ([] : List Int32)) ++ [(32 : Int32)]) ++ [(55 : Int32)]) (10 : Int32) G1 T51.heap n0 (Nat.le_trans Z0 K52.1) P51_1 P51_2 P51_3 P51_4 F54 P51_6 (by (try simp only [List.length_append, List.length_cons, List.length_nil, HELP_len, TYP_len, BS2_len, BSN_len]) <;> omega) (by omega) ((Nat.le_trans (Nat.le_trans Z0 K47.1) P51_0)) (g_b) (by decide) O2 P5 O52) rfl hml opd_31 rfl o736 rfl rfl rfl rfl rfl fun _ T55 _ Y hQ => ?_
  obtain ⟨rfl, N55q, K55q, P55_0, P55_1, P55_2, P55_3, P55_4, P55_5⟩ := hQ
  have N55 := Fr.app N51 N55q
  have R56 := CHr.keep K55q (allS (Safe.exa hZ30.alike P51_1 (by decide) (by decide)) (allS Sf53 all0)) CR52.1
  have CR56 := CR52.trans R56
  have K56 := K52.trans K55q (allS (Or.inl (List.mem_of_getElem? (i := 0) rfl)) (allS (Or.inr (Nat.le_trans K47.1 P51_0)) all0))
  have O56 := O52.keep K55q (allS g_b (allS (Nat.le_trans (Nat.le_trans Z0 K47.1) P51_0) all0))
  refine zpop Y B o737 rfl ?_
  exact Go.ret0W Y B.1 hret hlk (hb B.2 o738.1) hS30 (Nat.le_trans hk30 (Nat.le_trans (Nat.le_trans K32q.1 K51q.1) K55q.1)) hZ30 (hEW hw) CR56 ⟨tn_51, kn_51, rfl, N55, K56, (Nat.le_trans K47.1 P51_0), P55_0, P55_1, P55_2, P55_3, P55_4, P55_5⟩ (by decide) (by decide)
def Q_sampleN (Z : State) (pg b v : Addr) (kv : ClassId) (cap : Nat) (cs : List Int32) (x t : Addr) (kt : ClassId) (ns : List Int32) (la : Addr) (lk : ClassId) (on : Addr) (ko : ClassId) (G1 : Int32) (h0 : Heap) (n0 : Nat) : QT := fun rv hE LE => ∃ v' : Addr, ∃ kv' : ClassId, rv = none ∧ Fr n0 LE ∧ Keep h0 hE [b, v] ∧ (h0.size ≤ v') ∧ (Exa Z hE b ss4) ∧ (Fld Z hE b ss1 ss2 "B" (.int 0)) ∧ (Fld Z hE b ss1 ss3 "[B" (.ref v')) ∧ (Fld Z hE b ss1 ss5 "I" (.int (Int32.ofNat (((((cs ++ ns) ++ ([] : List Int32)) ++ [(32 : Int32)]) ++ [(55 : Int32)]) ++ [(10 : Int32)]).length))) ∧ (Arv Z hE v' kv' .byte (Int32.ofNat 70) (B8 (((((cs ++ ns) ++ ([] : List Int32)) ++ [(32 : Int32)]) ++ [(55 : Int32)]) ++ [(10 : Int32)])) (.int 0)) ∧ (Exa Z hE v' "[B")
theorem rm_sampleN (l : Launch) (Z : State) (a0 : Array Value) (hw : HW a0 Z) (ws : List Jvm.Cond) (pg b v : Addr) (kv : ClassId) (cap : Nat) (cs : List Int32) (x t : Addr) (kt : ClassId) (ns : List Int32) (la : Addr) (lk : ClassId) (on : Addr) (ko : ClassId) (G1 : Int32) (h0 : Heap) (n0 : Nat) (Z0 : n0 ≤ h0.size) (Q0 : Exa Z h0 pg ss6) (Q1 : Fld Z h0 pg ss6 "page" ss11 (.ref b)) (Q2 : Fld Z h0 pg ss6 ss18 ss9 (.ref x)) (B0 : Exa Z h0 b ss4) (B1 : Fld Z h0 b ss1 ss2 "B" (.int 0)) (B2 : Fld Z h0 b ss1 ss3 "[B" (.ref v)) (B3 : Fld Z h0 b ss1 ss5 "I" (.int (Int32.ofNat cs.length))) (B4 : Arv Z h0 v kv .byte (Int32.ofNat cap) (B8 cs) (.int 0)) (B5 : Exa Z h0 v "[B") (S0 : Exa Z h0 x ss0) (S1 : Fld Z h0 x ss0 ss2 "B" (.int 0)) (S2 : Fld Z h0 x ss0 ss3 "[B" (.ref t)) (S3 : Arv Z h0 t kt .byte (Int32.ofNat ns.length) (B8 ns) (.int 0)) (LA : Arv Z h0 la lk (.object ss0) (0 : Int32) ([]) .null) (HN2 : ns.length = 2) (NVT : v ≠ t) (HCP : 16 ≤ cap ∧ cap < 100000) (g_b : n0 ≤ b) (g_v : n0 ≤ v) (HRD : cap = 34 ∧ cs.length = 30) (OS1 : Sta Z Z.heap ss14 ss15 "[B" (.ref on)) (OD1 : Arv Z Z.heap on ko .byte (100 : Int32) ONES (.int 0)) (O2 : Sta Z Z.heap ss0 ss7 "Z" (.int G1)) (P5 : ¬ (G1 = (0 : Int32))) (X00 : Old Z n0 h0) :
    MetFree l mn50 (head1 (Jvm.Cond.code mn50 cB50 4 (Option.none : Option Jvm.ClassFile.FieldType) :: ws) Ro45) (fun ar_ U => ar_ = #[(.ref pg), (.long (7 : Int64)), (.ref la)] ∧ Z.Warmed39 U.vm ∧ U.heap = h0 ∧ CHv Z EL U.vm h0) (fun _ _ _ _ _ => True) (fun _ U o_ U' => OutW Z EL U (Q_sampleN Z pg b v kv cap cs x t kt ns la lk on ko G1 h0 n0) Ro45.cells Ro45.slots o_ U') := by
  refine MetFree.of_bodySF (plainFor_of_name opn_9) hisR ?_
  intro p e s m args below meth c s₁ Bd hml0 hP hK
  obtain ⟨rfl, hZ, hh, hCH⟩ := hP
  have B : HB p c _ := ⟨Bd.exec, Bd.bytes⟩
  have hml : c.maxLocals = 4 := hml0
  have hret := Bd.returns
  have hlk : meth.locks = false := BodyLoose.notSynchronized Bd
  have hown : s.vm.findClass ss6 = some m.cls := findClass_of_methodNamed Bd.named
  have hnm := (name_of_methodNamed Bd.named Bd.method).1
  have Y : Stand p l e Ro45 (s.setVm s.vm) m #[(.ref pg), (.long (7 : Int64)), (.ref la)] below meth c s₁ [] 0 0 := Stand.of_body Bd
  have e0 : s₁.heap = h0 := by rw [← hh, Bd.state]; rfl
  have N0 := Fr.nil n0
  have hS0 : s.Since s.vm h0.size := (State.WarmedH.refl s).since _
  have CR0 : CHr Z EL s.vm s.heap s.vm h0 := by rw [hh]; exact CHr.refl hCH
  have K0 : Keep h0 h0 [b, v] := Keep.refl h0 _
  show Go p e below (OutW Z EL s (Q_sampleN Z pg b v kv cap cs x t kt ns la lk on ko G1 h0 n0) Ro45.cells Ro45.slots) s₁ (entryFrame m #[(.ref pg), (.long (7 : Int64)), (.ref la)] 4)
  refine Go.cast (oef_sampleN m pg (7 : Int64) la) ?_
  show Go p e below _ _ (mkF m 0 #[rv pg, .val (.long (7 : Int64)), .second, rv la] [])
  have Sfv : Safe Z EL s.vm h0 v := safe_len hZ (hEWs hw) B4 (by omega) (by omega)
  obtain rfl : 34 = cap := (show cap = 34 from HRD.1).symm
  refine zalN Y B o727 rfl ?_
  obtain ⟨sa30, T30, h30, k30, sb30, kb30, Y, e30, E30, hS30, hk30, hZ30, hown30, PE30, PC30, PV30, PA30, la30, lb30, R30, LT30, SF30, st30⟩ := ldcCH Y B.1 hZ hown (ow180 hw) (ostr hw) e0 hS0 (Nat.le_trans (Nat.le_refl _) (Nat.le_refl _)) (hEW hw) (List.mem_of_getElem? (i := 2) rfl) CR0.1 (vs := ((([] : List Int32).map (fun c => c.toInt8.toInt32)).map Value.int)) (z := (0 : Int32)) (by decide +kernel) (by decide) (by decide) (g := (mkF m 1 #[rv pg, .val (.long (7 : Int64)), .second, rv la] [(.ref pg)])) rfl (hb B.2 o728.1) (n := 0) (by decide) (by decide) (by decide) (by decide)
  refine Go.by st30 ?_
  have CR31 := CR0.trans R30
  have K31 := K0.ext E30
  have O31 := X00.ext E30
  show Go p e below _ _ (mkF m 3 #[rv pg, .val (.long (7 : Int64)), .second, rv la] [(.ref sa30), (.ref pg)])
  refine zalN Y B o729 rfl ?_
  have F33 := (Q0.ext E30)
  have F34 := (Q1.ext E30)
  have F35 := (Q2.ext E30)
  have F36 := (B0.ext E30)
  have F37 := (B1.ext E30)
  have F38 := (B2.ext E30)
  have F39 := (B3.ext E30)
  have F40 := (B4.ext E30)
  have F41 := (B5.ext E30)
  have F42 := (S0.ext E30)
  have F43 := (S1.ext E30)
  have F44 := (S2.ext E30)
  have F45 := (S3.ext E30)
  have F46 := (LA.ext E30)
  refine zcp Y B hZ30 hown30 (ow181 hw) (ow182 hw) (own_selp2 (ow182 hw) (ow183 hw) (ow73 hw) rfl (by decide)) (ow183 hw) (ow45 hw) (ow184 hw) (by decide) F33 (rm_sname0 l Z a0 hw [] pg b v kv 34 cs x t kt ns sa30 sb30 kb30 la lk G1 h30 n0 (Nat.le_trans Z0 K31.1) F33 F34 F35 F36 F37 F38 F39 F40 F41 F42 F43 F44 F45 F46 HN2 NVT (by omega) g_b g_v PE30 PC30 PV30 PA30 ((SF30 v (R30.safe B5.lt Sfv)).2) (by omega) O2 P5 O31) e30 hml opd_33 rfl o730 rfl rfl rfl rfl rfl fun _ T32 _ Y hQ => ?_
  obtain ⟨rfl, N32q, K32q, P32_0, P32_1, P32_2, P32_3, P32_4, P32_5⟩ := hQ
  have N32 := Fr.app N0 N32q
  have Sf48 : Safe Z EL T30.vm h30 v := (R30.safe B5.lt Sfv)
  have R47 := CHr.keep K32q (allS (Safe.exa hZ30.alike F36 (by decide) (by decide)) (allS Sf48 all0)) CR31.1
  have CR47 := CR31.trans R47
  have K47 := K31.trans K32q (allS (Or.inl (List.mem_of_getElem? (i := 0) rfl)) (allS (Or.inl (List.mem_of_getElem? (i := 1) rfl)) all0))
  have O47 := O31.keep K32q (allS g_b (allS g_v all0))
  refine zalN Y B o731 rfl ?_
  have F50 := (F34.keep K32q (ninS (ne_exa Q0 B0 (by decide)) (ninS (ne_exa Q0 B5 (by decide)) nin0)))
  refine zgf Y B hZ30 hown30 (ow68 hw) Via.refl rfl F50 o732 fun _ Y e49 => ?_
  refine zllN Y B o733 rfl ?_
  refine zcv Y B hZ30 hown30 (ow185 hw) (ow186 hw) (notFace_of_selects (args := #[]) (mvT hZ30 (ow188 hw))) (ow188 hw) (ow187 hw) (ow52 hw) (ow189 hw) (by decide) P32_0 (rm_sbappJ0 l Z a0 hw [] b v kv 34 (((cs ++ ns) ++ ([] : List Int32)) ++ [(32 : Int32)]) on ko G1 T32.heap n0 (Nat.le_trans Z0 K47.1) P32_0 P32_1 P32_2 P32_3 P32_4 P32_5 (by (try simp only [List.length_append, List.length_cons, List.length_nil, HELP_len, TYP_len, BS2_len, BSN_len]) <;> omega) (by omega) (g_v) (g_b) OS1 OD1 O2 P5 O47) e49 hml opd_34 rfl o734 rfl rfl rfl rfl rfl fun _ T51 _ Y hQ => ?_
  obtain ⟨rfl, N51q, K51q, P51_0, P51_1, P51_2, P51_3, P51_4, P51_5⟩ := hQ
  have N51 := Fr.app N32 N51q
  have Sf53 : Safe Z EL T30.vm T32.heap v := (R47.safe F41.lt Sf48)
  have R52 := CHr.keep K51q (allS (Safe.exa hZ30.alike P32_0 (by decide) (by decide)) (allS Sf53 all0)) CR47.1
  have CR52 := CR47.trans R52
  have K52 := K47.trans K51q (allS (Or.inl (List.mem_of_getElem? (i := 0) rfl)) (allS (Or.inl (List.mem_of_getElem? (i := 1) rfl)) all0))
  have O52 := O47.keep K51q (allS g_b (allS g_v all0))
  refine zbp Y B o735 (v := 10) rfl ?_
  refine zcv Y B hZ30 hown30 (ow125 hw) (ow126 hw) (notFace_of_selects (args := #[]) (mvT hZ30 (ow128 hw))) (ow128 hw) (ow127 hw) (ow52 hw) (ow129 hw) (by decide) P51_0 (rm_sbappC1 l Z a0 hw [] b v kv 34 ((((cs ++ ns) ++ ([] : List Int32)) ++ [(32 : Int32)]) ++ [(55 : Int32)]) (10 : Int32) G1 T51.heap n0 (Nat.le_trans Z0 K52.1) P51_0 P51_1 P51_2 P51_3 P51_4 P51_5 (by refine ⟨?_, ?_⟩ <;> (try simp only [List.length_append, List.length_cons, List.length_nil, HELP_len, TYP_len, BS2_len, BSN_len]) <;> omega) (by unfold newCap; (try simp only [List.length_append, List.length_cons, List.length_nil, HELP_len, TYP_len, BS2_len, BSN_len]) <;> omega) (by (try simp only [List.length_append, List.length_cons, List.length_nil, HELP_len, TYP_len, BS2_len, BSN_len]) <;> omega) (g_b) (by decide) O2 P5 O52) rfl hml opd_31 rfl o736 rfl rfl rfl rfl rfl fun _ T54 _ Y hQ => ?_
  obtain ⟨tn_54, kn_54, rfl, N54q, K54q, P54_0, P54_1, P54_2, P54_3, P54_4, P54_5, P54_6⟩ := hQ
  have N54 := Fr.app N51 N54q
  have R55 := CHr.keep K54q (allS (Safe.exa hZ30.alike P51_0 (by decide) (by decide)) all0) CR52.1
  have CR55 := CR52.trans R55
  have K55 := K52.trans K54q (allS (Or.inl (List.mem_of_getElem? (i := 0) rfl)) all0)
  have O55 := O52.keep K54q (allS g_b all0)
  have Sf56 : Safe Z EL T30.vm T54.heap tn_54 := Safe.keep K54q (allS (Safe.exa hZ30.alike P51_0 (by decide) (by decide)) all0) CR52.1 (Safe.new P54_0)
  have F57 : Arv Z T54.heap tn_54 kn_54 .byte (Int32.ofNat 70) (B8 (((((cs ++ ns) ++ ([] : List Int32)) ++ [(32 : Int32)]) ++ [(55 : Int32)]) ++ [(10 : Int32)])) (.int 0) := by have q := P54_5; rw [show newCap 34 (((((cs ++ ns) ++ ([] : List Int32)) ++ [(32 : Int32)]) ++ [(55 : Int32)]).length + 1) = 70 from by unfold newCap; (try simp only [List.length_append, List.length_cons, List.length_nil, HELP_len, TYP_len, BS2_len, BSN_len]) <;> omega] at q; exact q
  refine zpop Y B o737 rfl ?_
  exact Go.ret0W Y B.1 hret hlk (hb B.2 o738.1) hS30 (Nat.le_trans hk30 (Nat.le_trans (Nat.le_trans K32q.1 K51q.1) K54q.1)) hZ30 (hEW hw) CR55 ⟨tn_54, kn_54, rfl, N54, K55, (Nat.le_trans K52.1 P54_0), P54_1, P54_2, P54_3, P54_4, F57, P54_6⟩ (by decide) (by decide)
def Q_text1 (Z : State) (pg b v : Addr) (kv : ClassId) (cs : List Int32) (G1 : Int32) (h0 : Heap) (n0 : Nat) : QT := fun rv hE LE => ∃ x : Addr, ∃ t : Addr, ∃ kt : ClassId, rv = some (.ref x) ∧ Fr n0 LE ∧ Keep h0 hE [] ∧ (h0.size ≤ x) ∧ (h0.size ≤ t) ∧ (Exa Z hE x ss0) ∧ (Fld Z hE x ss0 ss2 "B" (.int 0)) ∧ (Fld Z hE x ss0 ss3 "[B" (.ref t)) ∧ (Arv Z hE t kt .byte (Int32.ofNat cs.length) (B8 cs) (.int 0))
theorem rm_text1 (l : Launch) (Z : State) (a0 : Array Value) (hw : HW a0 Z) (ws : List Jvm.Cond) (pg b v : Addr) (kv : ClassId) (cs : List Int32) (G1 : Int32) (h0 : Heap) (n0 : Nat) (Z0 : n0 ≤ h0.size) (Q0 : Exa Z h0 pg ss6) (Q1 : Fld Z h0 pg ss6 "page" ss11 (.ref b)) (B0 : Exa Z h0 b ss4) (B1 : Fld Z h0 b ss1 ss2 "B" (.int 0)) (B2 : Fld Z h0 b ss1 ss3 "[B" (.ref v)) (B3 : Fld Z h0 b ss1 ss5 "I" (.int (Int32.ofNat cs.length))) (B4 : Arv Z h0 v kv .byte (Int32.ofNat cs.length) (B8 cs) (.int 0)) (B5 : Exa Z h0 v "[B") (HL : cs.length ≤ 34) (O2 : Sta Z Z.heap ss0 ss7 "Z" (.int G1)) (P5 : ¬ (G1 = (0 : Int32))) (X00 : Old Z n0 h0) :
    MF l Z mn51 (Jvm.Cond.code mn51 cB51 1 (Option.some (Jvm.ClassFile.FieldType.object ss0))) ws Ro46 #[(.ref pg)] h0 (Q_text1 Z pg b v kv cs G1 h0 n0) := by
  refine MF.of ss6 rfl #[rv pg] (plainFor_of_name opn_9) (fun _ => rfl) ?_
  intro p e s m below meth c _ hZ hh B hml hret hlk hown hnm Y e0
  have N0 := Fr.nil n0
  have K0 := Keep.refl h0 []
  refine zalN Y B o739 rfl ?_
  refine zgf Y B hZ hown (ow68 hw) Via.refl e0 Q1 o740 fun _ Y e30 => ?_
  refine zcv Y B hZ hown (ow210 hw) (ow211 hw) (notFace_of_selects (args := #[]) (mvT hZ (ow213 hw))) (ow213 hw) (ow212 hw) (ow52 hw) (ow214 hw) (by decide) B0 (rm_tostr1 l Z a0 hw [] b v kv cs G1 h0 n0 (Nat.le_trans Z0 (Nat.le_refl _)) B0 B1 B2 B3 B4 B5 HL O2 P5 X00) e30 hml opd_35 rfl o741 rfl rfl rfl rfl rfl fun _ T31 _ Y hQ => ?_
  obtain ⟨x_31, t_31, kt_31, rfl, N31q, K31q, P31_0, P31_1, P31_2, P31_3, P31_4, P31_5⟩ := hQ
  have N31 := Fr.app N0 N31q
  have K32 := K0.trans K31q all0
  have O32 := X00.keep K31q all0
  exact zrR Y B hret rfl rfl rfl hlk o742 rfl ⟨x_31, t_31, kt_31, rfl, N31, K32, (Nat.le_trans (Nat.le_refl _) P31_0), (Nat.le_trans (Nat.le_refl _) P31_1), P31_2, P31_3, P31_4, P31_5⟩ rfl rfl
def Q_text2 (Z : State) (pg b v : Addr) (kv : ClassId) (cs : List Int32) (cap : Nat) (G1 : Int32) (h0 : Heap) (n0 : Nat) : QT := fun rv hE LE => ∃ x : Addr, ∃ t : Addr, ∃ kt : ClassId, rv = some (.ref x) ∧ Fr n0 LE ∧ Keep h0 hE [] ∧ (h0.size ≤ x) ∧ (h0.size ≤ t) ∧ (Exa Z hE x ss0) ∧ (Fld Z hE x ss0 ss2 "B" (.int 0)) ∧ (Fld Z hE x ss0 ss3 "[B" (.ref t)) ∧ (Arv Z hE t kt .byte (Int32.ofNat cs.length) (B8 cs) (.int 0))
theorem rm_text2 (l : Launch) (Z : State) (a0 : Array Value) (hw : HW a0 Z) (ws : List Jvm.Cond) (pg b v : Addr) (kv : ClassId) (cs : List Int32) (cap : Nat) (G1 : Int32) (h0 : Heap) (n0 : Nat) (Z0 : n0 ≤ h0.size) (Q0 : Exa Z h0 pg ss6) (Q1 : Fld Z h0 pg ss6 "page" ss11 (.ref b)) (B0 : Exa Z h0 b ss4) (B1 : Fld Z h0 b ss1 ss2 "B" (.int 0)) (B2 : Fld Z h0 b ss1 ss3 "[B" (.ref v)) (B3 : Fld Z h0 b ss1 ss5 "I" (.int (Int32.ofNat cs.length))) (B4 : Arv Z h0 v kv .byte (Int32.ofNat cap) (B8 cs) (.int 0)) (B5 : Exa Z h0 v "[B") (HLT : cs.length < cap) (HCB : cap < 100000) (HLG : cs.length ≤ 70) (O2 : Sta Z Z.heap ss0 ss7 "Z" (.int G1)) (P5 : ¬ (G1 = (0 : Int32))) (X00 : Old Z n0 h0) :
    MF l Z mn51 (Jvm.Cond.code mn51 cB51 1 (Option.some (Jvm.ClassFile.FieldType.object ss0))) ws Ro47 #[(.ref pg)] h0 (Q_text2 Z pg b v kv cs cap G1 h0 n0) := by
  refine MF.of ss6 rfl #[rv pg] (plainFor_of_name opn_9) (fun _ => rfl) ?_
  intro p e s m below meth c _ hZ hh B hml hret hlk hown hnm Y e0
  have N0 := Fr.nil n0
  have K0 := Keep.refl h0 []
  refine zalN Y B o739 rfl ?_
  refine zgf Y B hZ hown (ow68 hw) Via.refl e0 Q1 o740 fun _ Y e30 => ?_
  refine zcv Y B hZ hown (ow210 hw) (ow211 hw) (notFace_of_selects (args := #[]) (mvT hZ (ow213 hw))) (ow213 hw) (ow212 hw) (ow52 hw) (ow214 hw) (by decide) B0 (rm_tostr2 l Z a0 hw [] b v kv cs cap G1 h0 n0 (Nat.le_trans Z0 (Nat.le_refl _)) B0 B1 B2 B3 B4 B5 HLT HCB HLG O2 P5 X00) e30 hml opd_35 rfl o741 rfl rfl rfl rfl rfl fun _ T31 _ Y hQ => ?_
  obtain ⟨x_31, t_31, kt_31, rfl, N31q, K31q, P31_0, P31_1, P31_2, P31_3, P31_4, P31_5⟩ := hQ
  have N31 := Fr.app N0 N31q
  have K32 := K0.trans K31q all0
  have O32 := X00.keep K31q all0
  exact zrR Y B hret rfl rfl rfl hlk o742 rfl ⟨x_31, t_31, kt_31, rfl, N31, K32, (Nat.le_trans (Nat.le_refl _) P31_0), (Nat.le_trans (Nat.le_refl _) P31_1), P31_2, P31_3, P31_4, P31_5⟩ rfl rfl
def Q_law (Z : State) (i0 i1 i2 i3 i4 : Int32) (ty0 wx0 wt0 : Addr) (wk0 : ClassId) (ty1 wx1 wt1 : Addr) (wk1 : ClassId) (ty2 wx2 wt2 : Addr) (wk2 : ClassId) (on : Addr) (ko : ClassId) (G1 : Int32) (G3 : Value) (h0 : Heap) (n0 : Nat) : QT := fun rv hE LE => rv = some (.int 1) ∧ Fr n0 LE ∧ Keep h0 hE []
theorem pc_law_P361 (l : Launch) (Z : State) (a0 : Array Value) (hw : HW a0 Z) (i0 i1 i2 i3 i4 : Int32) (ty0 wx0 wt0 : Addr) (wk0 : ClassId) (ty1 wx1 wt1 : Addr) (wk1 : ClassId) (ty2 wx2 wt2 : Addr) (wk2 : ClassId) (on : Addr) (ko : ClassId) (G1 : Int32) (G3 : Value) (h0 : Heap) (n0 : Nat) (Z0 : n0 ≤ h0.size) (OT0 : Sta Z Z.heap ss8 "COUNTER" ss17 (.ref ty0)) (V0_0 : Exa Z Z.heap ty0 ss8) (V0_1 : Fld Z Z.heap ty0 ss8 "word" ss9 (.ref wx0)) (V0_2 : Exa Z Z.heap wx0 ss0) (V0_3 : Fld Z Z.heap wx0 ss0 ss2 "B" (.int 0)) (V0_4 : Fld Z Z.heap wx0 ss0 ss3 "[B" (.ref wt0)) (V0_5 : Arv Z Z.heap wt0 wk0 .byte (Int32.ofNat CNT.length) (B8 CNT) (.int 0)) (OT1 : Sta Z Z.heap ss8 "GAUGE" ss17 (.ref ty1)) (V1_0 : Exa Z Z.heap ty1 ss8) (V1_1 : Fld Z Z.heap ty1 ss8 "word" ss9 (.ref wx1)) (V1_2 : Exa Z Z.heap wx1 ss0) (V1_3 : Fld Z Z.heap wx1 ss0 ss2 "B" (.int 0)) (V1_4 : Fld Z Z.heap wx1 ss0 ss3 "[B" (.ref wt1)) (V1_5 : Arv Z Z.heap wt1 wk1 .byte (Int32.ofNat GAU.length) (B8 GAU) (.int 0)) (OT2 : Sta Z Z.heap ss8 "HISTOGRAM" ss17 (.ref ty2)) (V2_0 : Exa Z Z.heap ty2 ss8) (V2_1 : Fld Z Z.heap ty2 ss8 "word" ss9 (.ref wx2)) (V2_2 : Exa Z Z.heap wx2 ss0) (V2_3 : Fld Z Z.heap wx2 ss0 ss2 "B" (.int 0)) (V2_4 : Fld Z Z.heap wx2 ss0 ss3 "[B" (.ref wt2)) (V2_5 : Arv Z Z.heap wt2 wk2 .byte (Int32.ofNat HIS.length) (B8 HIS) (.int 0)) (OS1 : Sta Z Z.heap ss14 ss15 "[B" (.ref on)) (OD1 : Arv Z Z.heap on ko .byte (100 : Int32) ONES (.int 0)) (O2 : Sta Z Z.heap ss0 ss7 "Z" (.int G1)) (P5 : ¬ (G1 = (0 : Int32))) (X00 : Old Z n0 h0) (O4 : Sta Z Z.heap ss10 ss12 ss13 G3) (rG3 : G3.isRef = true) {p : Program} {e : Env} {s : State} {m : MethodId} {below : List Frame} {meth : Method} {c : Code} (hZ : Z.Warmed39 s.vm) (hh : s.heap = h0) (hCH : CHv Z EL s.vm h0) (B : HB p c code) (hml : c.maxLocals = 20) (hret : meth.sig.returnType = ret) (hlk : meth.locks = false) (hown : s.vm.findClass ss16 = some m.cls) (hnm : meth.name = (x).name) :
    ∀ (T30 : State) (LL30 : List Loc) (hP30 : Heap) (vm30 : Vm) (kk30 : Nat) (q0 : Int32) (q1 : Int32) (x : Addr) (t : Addr) (kt : ClassId) (u0 : Int32) (u1 : Int32) (xh : Addr) (th : Addr) (kh : ClassId) (hs : List Int32) (kk : Int32) (ta : Addr) (y : Addr) (yt : Addr) (yk : ClassId) (wd : List Int32) (la : Addr) (pg : Addr) (r : Addr) (tr : Addr) (kr : ClassId), Stand p l e room_1 (s.setVm vm30) m #[(.int i0), (.int i1), (.int i2), (.int i3), (.int i4)] below meth c T30 LL30 48 6100 → T30.heap = hP30 → Fr n0 LL30 → Keep h0 hP30 [] → Old Z n0 hP30 → s.Since vm30 kk30 → kk30 ≤ hP30.size → Z.Warmed39 (s.setVm vm30).vm → (s.setVm vm30).vm.findClass ss16 = some m.cls → CHr Z EL s.vm h0 vm30 hP30 → (Exa Z hP30 y ss0) → (Fld Z hP30 y ss0 ss2 "B" (.int 0)) → (Fld Z hP30 y ss0 ss3 "[B" (.ref yt)) → (Arv Z hP30 yt yk .byte (Int32.ofNat wd.length) (B8 wd) (.int 0)) → (Exa Z hP30 r ss0) → (Fld Z hP30 r ss0 ss2 "B" (.int 0)) → (Fld Z hP30 r ss0 ss3 "[B" (.ref tr)) → (Arv Z hP30 tr kr .byte (Int32.ofNat (TX q0 q1 hs wd).length) (B8 (TX q0 q1 hs wd)) (.int 0)) → (¬ q0 < 0 ∧ ¬ (255 : Int32) < q0) → (¬ q1 < 0 ∧ ¬ (255 : Int32) < q1) → (hs = [] ∨ hs = [u0] ∨ hs = [u0, u1]) → (Lo hs) → (hs.length ≤ 2) → (wd.length ≤ 9) → (Lo wd) → Go p e below (OutW Z EL s (Q_law Z i0 i1 i2 i3 i4 ty0 wx0 wt0 wk0 ty1 wx1 wt1 wk1 ty2 wx2 wt2 wk2 on ko G1 G3 h0 n0) room_1.cells room_1.slots) T30 (mkF m 361 #[iv i0, iv i1, iv i2, iv i3, iv i4, iv q0, iv q1, rv x, iv (Int32.ofNat hs.length), iv u0, iv u1, rv xh, iv kk, rv ta, rv y, rv la, rv pg, rv r, iv 1, iv (Int32.ofNat (10 + (escL hs).length))] []) := by
  have CR0 : CHr Z EL s.vm s.heap s.vm h0 := by rw [hh]; exact CHr.refl hCH
  intro T30 LL30 hP30 vm30 kk30 q0 q1 x t kt u0 u1 xh th kh hs kk ta y yt yk wd la pg r tr kr Y e30 N30 KP30 OP30 hS30 hk30 hZ30 hown30 RP30 Y0 Y1 Y2 Y3 R0 R1 R2 R3 LQ0 LQ1 HS3 LHS HH2 HWS LWS
  have CRP30 := CR0.trans RP30
  have hTL := TX_len q0 q1 hs wd
  have hE := escL_len hs
  have LOT := TX_lo (hs := hs) (wd := wd) LQ0 LQ1 LHS LWS
  have HB : (TX q0 q1 hs wd).length < 1000 := by omega
  refine zil Y B o743 rfl <| zN Y B o744 (by decide) ?_
  refine zal Y B o745 rfl <| zil Y B o746 rfl <| zbp Y B o747 (v := 10) rfl ?_
  refine zcs Y B hZ30 hown30 (ow277 hw) (ow278 hw) (ow33 hw) (ow279 hw) (by decide) (rm_ch l Z a0 hw [] r tr kr (TX q0 q1 hs wd) (10 + (escL hs).length) (10 : Int32) G1 G3 hP30 n0 (Nat.le_trans Z0 KP30.1) R0 R1 R2 R3 (TS_5 q0 q1 hs wd (by omega)) (LOT) HB O2 P5 OP30 O4 rG3) e30 hml opd_27 rfl o748 rfl rfl rfl rfl rfl fun _ T31 _ Y hQ => ?_
  obtain ⟨rfl, N31q, e31⟩ := hQ
  have N31 := Fr.app N30 N31q
  refine zN Y B o749 (by decide) ?_
  refine zc1 Y B o750 <| zgo Y B j50 <| zis Y B o751 (s18 rfl) <| zinc Y B o752 rfl (v := ((Int32.ofNat (10 + (escL hs).length)) + (1 : Int32))) rfl (s19 rfl) ?_
  rw [show ((Int32.ofNat (10 + (escL hs).length)) + (1 : Int32)) = (Int32.ofNat ((10 + (escL hs).length) + 1)) from (on_add _ 1)]
  refine zil Y B o753 rfl <| zN Y B o754 (by decide) ?_
  refine zal Y B o755 rfl <| zil Y B o756 rfl ?_
  obtain ⟨sa32, T32, h32, k32, sb32, kb32, Y, e32, E32, hS32, hk32, hZ32, hown32, PE32, PC32, PV32, PA32, la32, lb32, R32, LT32, SF32, st32⟩ := ldcCH Y B.1 hZ30 hown30 (ow280 hw) (ostr hw) e31 hS30 (Nat.le_trans hk30 (Nat.le_refl _)) (hEW hw) (List.mem_of_getElem? (i := 10) rfl) CRP30.1 (vs := ((([35, 32, 84, 89, 80, 69, 32] : List Int32).map (fun c => c.toInt8.toInt32)).map Value.int)) (z := (7 : Int32)) (by decide +kernel) (by decide) (by decide) (g := (mkF m 397 #[iv i0, iv i1, iv i2, iv i3, iv i4, iv q0, iv q1, rv x, iv (Int32.ofNat hs.length), iv u0, iv u1, rv xh, iv kk, rv ta, rv y, rv la, rv pg, rv r, iv 1, iv (Int32.ofNat ((10 + (escL hs).length) + 1))] [(.int (Int32.ofNat ((10 + (escL hs).length) + 1))), (.ref r)])) rfl (hb B.2 o757.1) (n := 28) (by decide) (by decide) (by decide) (by decide)
  refine Go.by st32 ?_
  have CR33 := CRP30.trans R32
  have K33 := KP30.ext E32
  have O33 := OP30.ext E32
  show Go p e below _ _ (mkF m 399 #[iv i0, iv i1, iv i2, iv i3, iv i4, iv q0, iv q1, rv x, iv (Int32.ofNat hs.length), iv u0, iv u1, rv xh, iv kk, rv ta, rv y, rv la, rv pg, rv r, iv 1, iv (Int32.ofNat ((10 + (escL hs).length) + 1))] [(.ref sa32), (.int (Int32.ofNat ((10 + (escL hs).length) + 1))), (.ref r)])
  have F35 := (R0.ext E32)
  have F36 := (R1.ext E32)
  have F37 := (R2.ext E32)
  have F38 := (R3.ext E32)
  refine zcs Y B hZ32 hown32 (ow249 hw) (ow250 hw) (ow33 hw) (ow251 hw) (by decide) (rm_eqlit l Z a0 hw [] r tr kr (TX q0 q1 hs wd) ((10 + (escL hs).length) + 1) sa32 sb32 kb32 TYP G1 G3 h32 n0 (Nat.le_trans Z0 K33.1) F35 F36 F37 F38 PE32 PC32 PV32 PA32 (TS_6 q0 q1 hs wd (by omega)) (LOT) (by decide) HB O2 P5 O33 O4 rG3) e32 hml opd_36 rfl o758 rfl rfl rfl rfl rfl fun _ T34 _ Y hQ => ?_
  obtain ⟨rfl, N34q, e34⟩ := hQ
  have N34 := Fr.app N31 N34q
  refine zN Y B o759 (by decide) ?_
  refine zc1 Y B o760 <| zgo Y B j51 <| zis Y B o761 (s18 rfl) <| zinc Y B o762 rfl (v := ((Int32.ofNat ((10 + (escL hs).length) + 1)) + (7 : Int32))) rfl (s19 rfl) ?_
  rw [show ((Int32.ofNat ((10 + (escL hs).length) + 1)) + (7 : Int32)) = (Int32.ofNat (((10 + (escL hs).length) + 1) + 7)) from (on_add _ 7)]
  refine zil Y B o763 rfl <| zN Y B o764 (by decide) ?_
  refine zal Y B o765 rfl <| zil Y B o766 rfl <| zil Y B o767 rfl ?_
  refine zcs Y B hZ32 hown32 (ow277 hw) (ow278 hw) (ow33 hw) (ow279 hw) (by decide) (rm_ch l Z a0 hw [] r tr kr (TX q0 q1 hs wd) (((10 + (escL hs).length) + 1) + 7) q0 G1 G3 h32 n0 (Nat.le_trans Z0 K33.1) F35 F36 F37 F38 (TS_7 q0 q1 hs wd (by omega)) (LOT) HB O2 P5 O33 O4 rG3) e34 hml opd_27 rfl o768 rfl rfl rfl rfl rfl fun _ T39 _ Y hQ => ?_
  obtain ⟨rfl, N39q, e39⟩ := hQ
  have N39 := Fr.app N34 N39q
  refine zN Y B o769 (by decide) ?_
  refine zal Y B o770 rfl <| zil Y B o771 rfl <| zc1 Y B o772 <| ziadd Y B o773 rfl <| zil Y B o774 rfl ?_
  rw [show ((Int32.ofNat (((10 + (escL hs).length) + 1) + 7)) + (1 : Int32)) = (Int32.ofNat ((((10 + (escL hs).length) + 1) + 7) + 1)) from (on_add _ 1)]
  refine zcs Y B hZ32 hown32 (ow277 hw) (ow278 hw) (ow33 hw) (ow279 hw) (by decide) (rm_ch l Z a0 hw [] r tr kr (TX q0 q1 hs wd) ((((10 + (escL hs).length) + 1) + 7) + 1) q1 G1 G3 h32 n0 (Nat.le_trans Z0 K33.1) F35 F36 F37 F38 (TS_8 q0 q1 hs wd (by omega)) (LOT) HB O2 P5 O33 O4 rG3) e39 hml opd_27 rfl o775 rfl rfl rfl rfl rfl fun _ T40 _ Y hQ => ?_
  obtain ⟨rfl, N40q, e40⟩ := hQ
  have N40 := Fr.app N39 N40q
  refine zN Y B o776 (by decide) ?_
  refine zal Y B o777 rfl <| zil Y B o778 rfl <| zc2 Y B o779 <| ziadd Y B o780 rfl <| zbp Y B o781 (v := 32) rfl ?_
  rw [show ((Int32.ofNat (((10 + (escL hs).length) + 1) + 7)) + (2 : Int32)) = (Int32.ofNat ((((10 + (escL hs).length) + 1) + 7) + 2)) from (on_add _ 2)]
  refine zcs Y B hZ32 hown32 (ow277 hw) (ow278 hw) (ow33 hw) (ow279 hw) (by decide) (rm_ch l Z a0 hw [] r tr kr (TX q0 q1 hs wd) ((((10 + (escL hs).length) + 1) + 7) + 2) (32 : Int32) G1 G3 h32 n0 (Nat.le_trans Z0 K33.1) F35 F36 F37 F38 (TS_9 q0 q1 hs wd (by omega)) (LOT) HB O2 P5 O33 O4 rG3) e40 hml opd_27 rfl o782 rfl rfl rfl rfl rfl fun _ T41 _ Y hQ => ?_
  obtain ⟨rfl, N41q, e41⟩ := hQ
  have N41 := Fr.app N40 N41q
  refine zN Y B o783 (by decide) ?_
  refine zc1 Y B o784 <| zgo Y B j52 <| zis Y B o785 (s18 rfl) <| zinc Y B o786 rfl (v := ((Int32.ofNat (((10 + (escL hs).length) + 1) + 7)) + (3 : Int32))) rfl (s19 rfl) ?_
  rw [show ((Int32.ofNat (((10 + (escL hs).length) + 1) + 7)) + (3 : Int32)) = (Int32.ofNat ((((10 + (escL hs).length) + 1) + 7) + 3)) from (on_add _ 3)]
  refine zil Y B o787 rfl <| zN Y B o788 (by decide) ?_
  refine zal Y B o789 rfl <| zil Y B o790 rfl <| zal Y B o791 rfl ?_
  have F43 := (Y0.ext E32)
  have F44 := (Y1.ext E32)
  have F45 := (Y2.ext E32)
  have F46 := (Y3.ext E32)
  refine zcs Y B hZ32 hown32 (ow249 hw) (ow250 hw) (ow33 hw) (ow251 hw) (by decide) (rm_eqlit l Z a0 hw [] r tr kr (TX q0 q1 hs wd) ((((10 + (escL hs).length) + 1) + 7) + 3) y yt yk wd G1 G3 h32 n0 (Nat.le_trans Z0 K33.1) F35 F36 F37 F38 F43 F44 F45 F46 (TS_10 q0 q1 hs wd (by omega)) (LOT) (LWS) HB O2 P5 O33 O4 rG3) e41 hml opd_36 rfl o792 rfl rfl rfl rfl rfl fun _ T42 _ Y hQ => ?_
  obtain ⟨rfl, N42q, e42⟩ := hQ
  have N42 := Fr.app N41 N42q
  refine zN Y B o793 (by decide) ?_
  refine zc1 Y B o794 <| zgo Y B j53 <| zis Y B o795 (s18 rfl) <| zil Y B o796 rfl <| zal Y B o797 rfl ?_
  refine zcv Y B hZ32 hown32 (ow255 hw) (ow89 hw) (notFace_of_selects (args := #[]) (mvT hZ32 (ow91 hw))) (ow91 hw) (ow90 hw) (ow2 hw) (ow92 hw) (by decide) F43 (rm_slen l Z a0 hw [] y yt yk wd G1 h32 n0 (Nat.le_trans Z0 K33.1) F43 F44 F45 F46 O2 P5 O33) e42 hml opd_10 rfl o798 rfl rfl rfl rfl rfl fun _ T47 _ Y hQ => ?_
  obtain ⟨rfl, N47q, e47⟩ := hQ
  have N47 := Fr.app N42 N47q
  refine ziadd Y B o799 rfl ?_
  rw [show ((Int32.ofNat ((((10 + (escL hs).length) + 1) + 7) + 3)) + (Int32.ofNat wd.length)) = (Int32.ofNat (((((10 + (escL hs).length) + 1) + 7) + 3) + wd.length)) from (on_add _ _)]
  refine zis Y B o800 (s19 rfl) <| zil Y B o801 rfl <| zN Y B o802 (by decide) ?_
  refine zal Y B o803 rfl <| zil Y B o804 rfl <| zbp Y B o805 (v := 10) rfl ?_
  refine zcs Y B hZ32 hown32 (ow277 hw) (ow278 hw) (ow33 hw) (ow279 hw) (by decide) (rm_ch l Z a0 hw [] r tr kr (TX q0 q1 hs wd) (((((10 + (escL hs).length) + 1) + 7) + 3) + wd.length) (10 : Int32) G1 G3 h32 n0 (Nat.le_trans Z0 K33.1) F35 F36 F37 F38 (TS_11 q0 q1 hs wd (by omega)) (LOT) HB O2 P5 O33 O4 rG3) e47 hml opd_27 rfl o806 rfl rfl rfl rfl rfl fun _ T48 _ Y hQ => ?_
  obtain ⟨rfl, N48q, e48⟩ := hQ
  have N48 := Fr.app N47 N48q
  refine zN Y B o807 (by decide) ?_
  refine zc1 Y B o808 <| zgo Y B j54 <| zis Y B o809 (s18 rfl) <| zinc Y B o810 rfl (v := ((Int32.ofNat (((((10 + (escL hs).length) + 1) + 7) + 3) + wd.length)) + (1 : Int32))) rfl (s19 rfl) ?_
  rw [show ((Int32.ofNat (((((10 + (escL hs).length) + 1) + 7) + 3) + wd.length)) + (1 : Int32)) = (Int32.ofNat ((((((10 + (escL hs).length) + 1) + 7) + 3) + wd.length) + 1)) from (on_add _ 1)]
  refine zil Y B o811 rfl <| zN Y B o812 (by decide) ?_
  refine zal Y B o813 rfl <| zil Y B o814 rfl <| zil Y B o815 rfl ?_
  refine zcs Y B hZ32 hown32 (ow277 hw) (ow278 hw) (ow33 hw) (ow279 hw) (by decide) (rm_ch l Z a0 hw [] r tr kr (TX q0 q1 hs wd) ((((((10 + (escL hs).length) + 1) + 7) + 3) + wd.length) + 1) q0 G1 G3 h32 n0 (Nat.le_trans Z0 K33.1) F35 F36 F37 F38 (TS_12 q0 q1 hs wd (by omega)) (LOT) HB O2 P5 O33 O4 rG3) e48 hml opd_27 rfl o816 rfl rfl rfl rfl rfl fun _ T49 _ Y hQ => ?_
  obtain ⟨rfl, N49q, e49⟩ := hQ
  have N49 := Fr.app N48 N49q
  refine zN Y B o817 (by decide) ?_
  refine zal Y B o818 rfl <| zil Y B o819 rfl <| zc1 Y B o820 <| ziadd Y B o821 rfl <| zil Y B o822 rfl ?_
  rw [show ((Int32.ofNat ((((((10 + (escL hs).length) + 1) + 7) + 3) + wd.length) + 1)) + (1 : Int32)) = (Int32.ofNat (((((((10 + (escL hs).length) + 1) + 7) + 3) + wd.length) + 1) + 1)) from (on_add _ 1)]
  refine zcs Y B hZ32 hown32 (ow277 hw) (ow278 hw) (ow33 hw) (ow279 hw) (by decide) (rm_ch l Z a0 hw [] r tr kr (TX q0 q1 hs wd) (((((((10 + (escL hs).length) + 1) + 7) + 3) + wd.length) + 1) + 1) q1 G1 G3 h32 n0 (Nat.le_trans Z0 K33.1) F35 F36 F37 F38 (TS_13 q0 q1 hs wd (by omega)) (LOT) HB O2 P5 O33 O4 rG3) e49 hml opd_27 rfl o823 rfl rfl rfl rfl rfl fun _ T50 _ Y hQ => ?_
  obtain ⟨rfl, N50q, e50⟩ := hQ
  have N50 := Fr.app N49 N50q
  refine zN Y B o824 (by decide) ?_
  refine zal Y B o825 rfl <| zil Y B o826 rfl <| zc2 Y B o827 <| ziadd Y B o828 rfl <| zbp Y B o829 (v := 32) rfl ?_
  rw [show ((Int32.ofNat ((((((10 + (escL hs).length) + 1) + 7) + 3) + wd.length) + 1)) + (2 : Int32)) = (Int32.ofNat (((((((10 + (escL hs).length) + 1) + 7) + 3) + wd.length) + 1) + 2)) from (on_add _ 2)]
  refine zcs Y B hZ32 hown32 (ow277 hw) (ow278 hw) (ow33 hw) (ow279 hw) (by decide) (rm_ch l Z a0 hw [] r tr kr (TX q0 q1 hs wd) (((((((10 + (escL hs).length) + 1) + 7) + 3) + wd.length) + 1) + 2) (32 : Int32) G1 G3 h32 n0 (Nat.le_trans Z0 K33.1) F35 F36 F37 F38 (TS_14 q0 q1 hs wd (by omega)) (LOT) HB O2 P5 O33 O4 rG3) e50 hml opd_27 rfl o830 rfl rfl rfl rfl rfl fun _ T51 _ Y hQ => ?_
  obtain ⟨rfl, N51q, e51⟩ := hQ
  have N51 := Fr.app N50 N51q
  refine zN Y B o831 (by decide) ?_
  refine zal Y B o832 rfl <| zil Y B o833 rfl <| zc3 Y B o834 <| ziadd Y B o835 rfl <| zbp Y B o836 (v := 55) rfl ?_
  rw [show ((Int32.ofNat ((((((10 + (escL hs).length) + 1) + 7) + 3) + wd.length) + 1)) + (3 : Int32)) = (Int32.ofNat (((((((10 + (escL hs).length) + 1) + 7) + 3) + wd.length) + 1) + 3)) from (on_add _ 3)]
  refine zcs Y B hZ32 hown32 (ow277 hw) (ow278 hw) (ow33 hw) (ow279 hw) (by decide) (rm_ch l Z a0 hw [] r tr kr (TX q0 q1 hs wd) (((((((10 + (escL hs).length) + 1) + 7) + 3) + wd.length) + 1) + 3) (55 : Int32) G1 G3 h32 n0 (Nat.le_trans Z0 K33.1) F35 F36 F37 F38 (TS_15 q0 q1 hs wd (by omega)) (LOT) HB O2 P5 O33 O4 rG3) e51 hml opd_27 rfl o837 rfl rfl rfl rfl rfl fun _ T52 _ Y hQ => ?_
  obtain ⟨rfl, N52q, e52⟩ := hQ
  have N52 := Fr.app N51 N52q
  refine zN Y B o838 (by decide) ?_
  refine zal Y B o839 rfl <| zil Y B o840 rfl <| zc4 Y B o841 <| ziadd Y B o842 rfl <| zbp Y B o843 (v := 10) rfl ?_
  rw [show ((Int32.ofNat ((((((10 + (escL hs).length) + 1) + 7) + 3) + wd.length) + 1)) + (4 : Int32)) = (Int32.ofNat (((((((10 + (escL hs).length) + 1) + 7) + 3) + wd.length) + 1) + 4)) from (on_add _ 4)]
  refine zcs Y B hZ32 hown32 (ow277 hw) (ow278 hw) (ow33 hw) (ow279 hw) (by decide) (rm_ch l Z a0 hw [] r tr kr (TX q0 q1 hs wd) (((((((10 + (escL hs).length) + 1) + 7) + 3) + wd.length) + 1) + 4) (10 : Int32) G1 G3 h32 n0 (Nat.le_trans Z0 K33.1) F35 F36 F37 F38 (TS_16 q0 q1 hs wd (by omega)) (LOT) HB O2 P5 O33 O4 rG3) e52 hml opd_27 rfl o844 rfl rfl rfl rfl rfl fun _ T53 _ Y hQ => ?_
  obtain ⟨rfl, N53q, e53⟩ := hQ
  have N53 := Fr.app N52 N53q
  refine zN Y B o845 (by decide) ?_
  refine zc1 Y B o846 <| zgo Y B j55 <| zis Y B o847 (s18 rfl) <| zinc Y B o848 rfl (v := ((Int32.ofNat ((((((10 + (escL hs).length) + 1) + 7) + 3) + wd.length) + 1)) + (5 : Int32))) rfl (s19 rfl) ?_
  rw [show ((Int32.ofNat ((((((10 + (escL hs).length) + 1) + 7) + 3) + wd.length) + 1)) + (5 : Int32)) = (Int32.ofNat (((((((10 + (escL hs).length) + 1) + 7) + 3) + wd.length) + 1) + 5)) from (on_add _ 5)]
  refine zil Y B o849 rfl <| zN Y B o850 (by decide) ?_
  refine zal Y B o851 rfl ?_
  refine zcv Y B hZ32 hown32 (ow255 hw) (ow89 hw) (notFace_of_selects (args := #[]) (mvT hZ32 (ow91 hw))) (ow91 hw) (ow90 hw) (ow2 hw) (ow92 hw) (by decide) F35 (rm_slen l Z a0 hw [] r tr kr (TX q0 q1 hs wd) G1 h32 n0 (Nat.le_trans Z0 K33.1) F35 F36 F37 F38 O2 P5 O33) e53 hml opd_10 rfl o852 rfl rfl rfl rfl rfl fun _ T54 _ Y hQ => ?_
  obtain ⟨rfl, N54q, e54⟩ := hQ
  have N54 := Fr.app N53 N54q
  refine zil Y B o853 rfl ?_
  refine zCN Y B o854 (teq (show (Int32.ofNat (TX q0 q1 hs wd).length) = (Int32.ofNat (((((((10 + (escL hs).length) + 1) + 7) + 3) + wd.length) + 1) + 5)) from (by rw [hTL]; exact congrArg Int32.ofNat (by omega)))).2 ?_
  refine zc1 Y B o855 <| zgo Y B j56 ?_
  exact Go.retNW Y B.1 (t := .boolean) hret (by simp) hlk (hb B.2 o856.1) hS32 (by rw [e54]; exact (Nat.le_trans hk32 (Nat.le_refl _))) hZ32 (hEW hw) (by rw [e54]; exact CR33) (by first | (rw [e54]; exact ⟨rfl, N54, K33⟩) | exact ⟨rfl, N54, K33⟩) (by decide) (by decide)
theorem pc_law_P210 (l : Launch) (Z : State) (a0 : Array Value) (hw : HW a0 Z) (i0 i1 i2 i3 i4 : Int32) (ty0 wx0 wt0 : Addr) (wk0 : ClassId) (ty1 wx1 wt1 : Addr) (wk1 : ClassId) (ty2 wx2 wt2 : Addr) (wk2 : ClassId) (on : Addr) (ko : ClassId) (G1 : Int32) (G3 : Value) (h0 : Heap) (n0 : Nat) (Z0 : n0 ≤ h0.size) (OT0 : Sta Z Z.heap ss8 "COUNTER" ss17 (.ref ty0)) (V0_0 : Exa Z Z.heap ty0 ss8) (V0_1 : Fld Z Z.heap ty0 ss8 "word" ss9 (.ref wx0)) (V0_2 : Exa Z Z.heap wx0 ss0) (V0_3 : Fld Z Z.heap wx0 ss0 ss2 "B" (.int 0)) (V0_4 : Fld Z Z.heap wx0 ss0 ss3 "[B" (.ref wt0)) (V0_5 : Arv Z Z.heap wt0 wk0 .byte (Int32.ofNat CNT.length) (B8 CNT) (.int 0)) (OT1 : Sta Z Z.heap ss8 "GAUGE" ss17 (.ref ty1)) (V1_0 : Exa Z Z.heap ty1 ss8) (V1_1 : Fld Z Z.heap ty1 ss8 "word" ss9 (.ref wx1)) (V1_2 : Exa Z Z.heap wx1 ss0) (V1_3 : Fld Z Z.heap wx1 ss0 ss2 "B" (.int 0)) (V1_4 : Fld Z Z.heap wx1 ss0 ss3 "[B" (.ref wt1)) (V1_5 : Arv Z Z.heap wt1 wk1 .byte (Int32.ofNat GAU.length) (B8 GAU) (.int 0)) (OT2 : Sta Z Z.heap ss8 "HISTOGRAM" ss17 (.ref ty2)) (V2_0 : Exa Z Z.heap ty2 ss8) (V2_1 : Fld Z Z.heap ty2 ss8 "word" ss9 (.ref wx2)) (V2_2 : Exa Z Z.heap wx2 ss0) (V2_3 : Fld Z Z.heap wx2 ss0 ss2 "B" (.int 0)) (V2_4 : Fld Z Z.heap wx2 ss0 ss3 "[B" (.ref wt2)) (V2_5 : Arv Z Z.heap wt2 wk2 .byte (Int32.ofNat HIS.length) (B8 HIS) (.int 0)) (OS1 : Sta Z Z.heap ss14 ss15 "[B" (.ref on)) (OD1 : Arv Z Z.heap on ko .byte (100 : Int32) ONES (.int 0)) (O2 : Sta Z Z.heap ss0 ss7 "Z" (.int G1)) (P5 : ¬ (G1 = (0 : Int32))) (X00 : Old Z n0 h0) (O4 : Sta Z Z.heap ss10 ss12 ss13 G3) (rG3 : G3.isRef = true) {p : Program} {e : Env} {s : State} {m : MethodId} {below : List Frame} {meth : Method} {c : Code} (hZ : Z.Warmed39 s.vm) (hh : s.heap = h0) (hCH : CHv Z EL s.vm h0) (B : HB p c code) (hml : c.maxLocals = 20) (hret : meth.sig.returnType = ret) (hlk : meth.locks = false) (hown : s.vm.findClass ss16 = some m.cls) (hnm : meth.name = (x).name) :
    ∀ (T55 : State) (LL55 : List Loc) (hP55 : Heap) (vm55 : Vm) (kk55 : Nat) (q0 : Int32) (q1 : Int32) (x : Addr) (t : Addr) (kt : ClassId) (u0 : Int32) (u1 : Int32) (xh : Addr) (th : Addr) (kh : ClassId) (hs : List Int32) (kk : Int32) (ta : Addr) (y : Addr) (yt : Addr) (yk : ClassId) (wd : List Int32) (la : Addr) (pg : Addr) (r : Addr) (tr : Addr) (kr : ClassId), Stand p l e room_1 (s.setVm vm55) m #[(.int i0), (.int i1), (.int i2), (.int i3), (.int i4)] below meth c T55 LL55 46 6000 → T55.heap = hP55 → Fr n0 LL55 → Keep h0 hP55 [] → Old Z n0 hP55 → s.Since vm55 kk55 → kk55 ≤ hP55.size → Z.Warmed39 (s.setVm vm55).vm → (s.setVm vm55).vm.findClass ss16 = some m.cls → CHr Z EL s.vm h0 vm55 hP55 → (Exa Z hP55 y ss0) → (Fld Z hP55 y ss0 ss2 "B" (.int 0)) → (Fld Z hP55 y ss0 ss3 "[B" (.ref yt)) → (Arv Z hP55 yt yk .byte (Int32.ofNat wd.length) (B8 wd) (.int 0)) → (Exa Z hP55 r ss0) → (Fld Z hP55 r ss0 ss2 "B" (.int 0)) → (Fld Z hP55 r ss0 ss3 "[B" (.ref tr)) → (Arv Z hP55 tr kr .byte (Int32.ofNat (TX q0 q1 hs wd).length) (B8 (TX q0 q1 hs wd)) (.int 0)) → (¬ q0 < 0 ∧ ¬ (255 : Int32) < q0) → (¬ q1 < 0 ∧ ¬ (255 : Int32) < q1) → (hs = [] ∨ hs = [u0] ∨ hs = [u0, u1]) → (Lo hs) → (hs.length ≤ 2) → (wd.length ≤ 9) → (Lo wd) → Go p e below (OutW Z EL s (Q_law Z i0 i1 i2 i3 i4 ty0 wx0 wt0 wk0 ty1 wx1 wt1 wk1 ty2 wx2 wt2 wk2 on ko G1 G3 h0 n0) room_1.cells room_1.slots) T55 (mkF m 210 #[iv i0, iv i1, iv i2, iv i3, iv i4, iv q0, iv q1, rv x, iv (Int32.ofNat hs.length), iv u0, iv u1, rv xh, iv kk, rv ta, rv y, rv la, rv pg, un, un, un] [(.ref r)]) := by
  have CR0 : CHr Z EL s.vm s.heap s.vm h0 := by rw [hh]; exact CHr.refl hCH
  have P361 := @pc_law_P361 l Z a0 hw i0 i1 i2 i3 i4 ty0 wx0 wt0 wk0 ty1 wx1 wt1 wk1 ty2 wx2 wt2 wk2 on ko G1 G3 h0 n0 Z0 OT0 V0_0 V0_1 V0_2 V0_3 V0_4 V0_5 OT1 V1_0 V1_1 V1_2 V1_3 V1_4 V1_5 OT2 V2_0 V2_1 V2_2 V2_3 V2_4 V2_5 OS1 OD1 O2 P5 X00 O4 rG3 p e s m below meth c hZ hh hCH B hml hret hlk hown hnm
  intro T55 LL55 hP55 vm55 kk55 q0 q1 x t kt u0 u1 xh th kh hs kk ta y yt yk wd la pg r tr kr Y e55 N55 KP55 OP55 hS55 hk55 hZ55 hown55 RP55 Y0 Y1 Y2 Y3 R0 R1 R2 R3 LQ0 LQ1 HS3 LHS HH2 HWS LWS
  have CRP55 := CR0.trans RP55
  have hTL := TX_len q0 q1 hs wd
  have hE := escL_len hs
  have LOT := TX_lo (hs := hs) (wd := wd) LQ0 LQ1 LHS LWS
  have HB : (TX q0 q1 hs wd).length < 1000 := by omega
  refine zas Y B o857 (s17 rfl) rfl <| zal Y B o858 rfl <| zc0 Y B o859 ?_
  obtain ⟨sa56, T56, h56, k56, sb56, kb56, Y, e56, E56, hS56, hk56, hZ56, hown56, PE56, PC56, PV56, PA56, la56, lb56, R56, LT56, SF56, st56⟩ := ldcCH Y B.1 hZ55 hown55 (ow248 hw) (ostr hw) e55 hS55 (Nat.le_trans hk55 (Nat.le_refl _)) (hEW hw) (List.mem_of_getElem? (i := 9) rfl) CRP55.1 (vs := ((([35, 32, 72, 69, 76, 80, 32] : List Int32).map (fun c => c.toInt8.toInt32)).map Value.int)) (z := (7 : Int32)) (by decide +kernel) (by decide) (by decide) (g := (mkF m 215 #[iv i0, iv i1, iv i2, iv i3, iv i4, iv q0, iv q1, rv x, iv (Int32.ofNat hs.length), iv u0, iv u1, rv xh, iv kk, rv ta, rv y, rv la, rv pg, rv r, un, un] [(.int 0), (.ref r)])) rfl (hb B.2 o860.1) (n := 28) (by decide) (by decide) (by decide) (by decide)
  refine Go.by st56 ?_
  have CR57 := CRP55.trans R56
  have K57 := KP55.ext E56
  have O57 := OP55.ext E56
  show Go p e below _ _ (mkF m 217 #[iv i0, iv i1, iv i2, iv i3, iv i4, iv q0, iv q1, rv x, iv (Int32.ofNat hs.length), iv u0, iv u1, rv xh, iv kk, rv ta, rv y, rv la, rv pg, rv r, un, un] [(.ref sa56), (.int 0), (.ref r)])
  have F59 := (R0.ext E56)
  have F60 := (R1.ext E56)
  have F61 := (R2.ext E56)
  have F62 := (R3.ext E56)
  refine zcs Y B hZ56 hown56 (ow249 hw) (ow250 hw) (ow33 hw) (ow251 hw) (by decide) (rm_eqlit l Z a0 hw [] r tr kr (TX q0 q1 hs wd) 0 sa56 sb56 kb56 HELP G1 G3 h56 n0 (Nat.le_trans Z0 K57.1) F59 F60 F61 F62 PE56 PC56 PV56 PA56 (TS_0 q0 q1 hs wd (by omega)) (LOT) (by decide) HB O2 P5 O57 O4 rG3) e56 hml opd_36 rfl o861 rfl rfl rfl rfl rfl fun _ T58 _ Y hQ => ?_
  obtain ⟨rfl, N58q, e58⟩ := hQ
  have N58 := Fr.app N55 N58q
  refine zis Y B o862 (s18 rfl) <| zbp Y B o863 (v := 7) rfl <| zis Y B o864 (s19 rfl) <| zil Y B o865 rfl <| zN Y B o866 (by decide) ?_
  refine zal Y B o867 rfl <| zil Y B o868 rfl <| zil Y B o869 rfl ?_
  refine zcs Y B hZ56 hown56 (ow277 hw) (ow278 hw) (ow33 hw) (ow279 hw) (by decide) (rm_ch l Z a0 hw [] r tr kr (TX q0 q1 hs wd) 7 q0 G1 G3 h56 n0 (Nat.le_trans Z0 K57.1) F59 F60 F61 F62 (TS_1 q0 q1 hs wd (by omega)) (LOT) HB O2 P5 O57 O4 rG3) e58 hml opd_27 rfl o870 rfl rfl rfl rfl rfl fun _ T63 _ Y hQ => ?_
  obtain ⟨rfl, N63q, e63⟩ := hQ
  have N63 := Fr.app N58 N63q
  refine zN Y B o871 (by decide) ?_
  refine zal Y B o872 rfl <| zil Y B o873 rfl <| zc1 Y B o874 <| ziadd Y B o875 (v := 8) rfl <| zil Y B o876 rfl ?_
  refine zcs Y B hZ56 hown56 (ow277 hw) (ow278 hw) (ow33 hw) (ow279 hw) (by decide) (rm_ch l Z a0 hw [] r tr kr (TX q0 q1 hs wd) 8 q1 G1 G3 h56 n0 (Nat.le_trans Z0 K57.1) F59 F60 F61 F62 (TS_2 q0 q1 hs wd (by omega)) (LOT) HB O2 P5 O57 O4 rG3) e63 hml opd_27 rfl o877 rfl rfl rfl rfl rfl fun _ T64 _ Y hQ => ?_
  obtain ⟨rfl, N64q, e64⟩ := hQ
  have N64 := Fr.app N63 N64q
  refine zN Y B o878 (by decide) ?_
  refine zal Y B o879 rfl <| zil Y B o880 rfl <| zc2 Y B o881 <| ziadd Y B o882 (v := 9) rfl <| zbp Y B o883 (v := 32) rfl ?_
  refine zcs Y B hZ56 hown56 (ow277 hw) (ow278 hw) (ow33 hw) (ow279 hw) (by decide) (rm_ch l Z a0 hw [] r tr kr (TX q0 q1 hs wd) 9 (32 : Int32) G1 G3 h56 n0 (Nat.le_trans Z0 K57.1) F59 F60 F61 F62 (TS_3 q0 q1 hs wd (by omega)) (LOT) HB O2 P5 O57 O4 rG3) e64 hml opd_27 rfl o884 rfl rfl rfl rfl rfl fun _ T65 _ Y hQ => ?_
  obtain ⟨rfl, N65q, e65⟩ := hQ
  have N65 := Fr.app N64 N65q
  refine zN Y B o885 (by decide) ?_
  refine zc1 Y B o886 <| zgo Y B j57 <| zis Y B o887 (s18 rfl) <| zinc Y B o888 rfl (v := 10) rfl (s19 rfl) ?_
  rcases HS3 with rfl | rfl | rfl
  · show Go p e below _ _ (mkF m 281 #[iv i0, iv i1, iv i2, iv i3, iv i4, iv q0, iv q1, rv x, iv 0, iv u0, iv u1, rv xh, iv kk, rv ta, rv y, rv la, rv pg, rv r, iv 1, iv 10] [])
    refine zil Y B o889 rfl <| zc1 Y B o890 <| zCY Y B j58 (by decide) ?_
    refine zil Y B o891 rfl <| zc2 Y B o892 <| zCY Y B j59 (by decide) ?_
    show Go p e below _ _ (mkF m 361 #[iv i0, iv i1, iv i2, iv i3, iv i4, iv q0, iv q1, rv x, iv 0, iv u0, iv u1, rv xh, iv kk, rv ta, rv y, rv la, rv pg, rv r, iv 1, iv (Int32.ofNat (10 + (escL ([] : List Int32)).length))] [])
    show Go p e below _ _ (mkF m 361 #[iv i0, iv i1, iv i2, iv i3, iv i4, iv q0, iv q1, rv x, iv (Int32.ofNat ([] : List Int32).length), iv u0, iv u1, rv xh, iv kk, rv ta, rv y, rv la, rv pg, rv r, iv 1, iv (Int32.ofNat (10 + (escL ([] : List Int32)).length))] [])
    have F66 := (Y0.ext E56)
    have F67 := (Y1.ext E56)
    have F68 := (Y2.ext E56)
    have F69 := (Y3.ext E56)
    exact P361 _ _ _ _ _ q0 q1 x t kt u0 u1 xh th kh ([] : List Int32) kk ta y yt yk wd la pg r tr kr (Stand_grow Y (by decide) (by decide)) e65 N65 K57 O57 hS56 (Nat.le_trans hk56 (Nat.le_refl _)) hZ56 hown56 (hh ▸ CR57) F66 F67 F68 F69 F59 F60 F61 F62 LQ0 LQ1 (Or.inl rfl) LHS HH2 HWS LWS
  · show Go p e below _ _ (mkF m 281 #[iv i0, iv i1, iv i2, iv i3, iv i4, iv q0, iv q1, rv x, iv 1, iv u0, iv u1, rv xh, iv kk, rv ta, rv y, rv la, rv pg, rv r, iv 1, iv 10] [])
    refine zil Y B o889 rfl <| zc1 Y B o890 <| zCN Y B o893 (by decide) ?_
    refine zil Y B o894 rfl <| zN Y B o895 (by decide) ?_
    refine zal Y B o896 rfl <| zil Y B o897 rfl <| zil Y B o898 rfl ?_
    refine zcs Y B hZ56 hown56 (ow297 hw) (ow298 hw) (ow33 hw) (ow299 hw) (by decide) (rm_esc l Z a0 hw [] r tr kr (TX q0 q1 ([u0] : List Int32) wd) 10 u0 G1 G3 h56 n0 (Nat.le_trans Z0 K57.1) F59 F60 F61 F62 (by have q := TS_4 q0 q1 ([u0] : List Int32) wd (o := 10) (by omega); rw [escL_cons] at q; exact q.left) (LOT) HB O2 P5 O57 O4 rG3) e65 hml opd_27 rfl o899 rfl rfl rfl rfl rfl fun _ T70 _ Y hQ => ?_
    obtain ⟨rfl, N70q, e70⟩ := hQ
    have N70 := Fr.app N65 N70q
    refine zN Y B o900 (by decide) ?_
    refine zc1 Y B o901 <| zgo Y B j60 <| zis Y B o902 (s18 rfl) <| zil Y B o903 rfl <| zil Y B o904 rfl ?_
    refine zcs Y B hZ56 hown56 (ow300 hw) (ow301 hw) (ow33 hw) (ow302 hw) (by decide) (rm_esclen l Z a0 hw [] u0 h56 n0 (Nat.le_trans Z0 K57.1) ) e70 hml opd_37 rfl o905 rfl rfl rfl rfl rfl fun _ T71 _ Y hQ => ?_
    obtain ⟨rfl, N71q, e71⟩ := hQ
    have N71 := Fr.app N70 N71q
    refine ziadd Y B o906 rfl ?_
    rw [show ((10 : Int32) + (Int32.ofNat (esc1 u0).length)) = (Int32.ofNat (10 + (esc1 u0).length)) from (on_add 10 _)]
    refine zis Y B o907 (s19 rfl) <| zil Y B o891 rfl <| zc2 Y B o892 <| zCY Y B j59 (by decide) ?_
    rw [show (Int32.ofNat (10 + (esc1 u0).length)) = (Int32.ofNat (10 + (escL ([u0] : List Int32)).length)) from (by rw [escL_cons, escL_nil, List.append_nil])]
    show Go p e below _ _ (mkF m 361 #[iv i0, iv i1, iv i2, iv i3, iv i4, iv q0, iv q1, rv x, iv (Int32.ofNat ([u0] : List Int32).length), iv u0, iv u1, rv xh, iv kk, rv ta, rv y, rv la, rv pg, rv r, iv 1, iv (Int32.ofNat (10 + (escL ([u0] : List Int32)).length))] [])
    have F72 := (Y0.ext E56)
    have F73 := (Y1.ext E56)
    have F74 := (Y2.ext E56)
    have F75 := (Y3.ext E56)
    exact P361 _ _ _ _ _ q0 q1 x t kt u0 u1 xh th kh ([u0] : List Int32) kk ta y yt yk wd la pg r tr kr (Stand_grow Y (by decide) (by decide)) e71 N71 K57 O57 hS56 (Nat.le_trans hk56 (Nat.le_refl _)) hZ56 hown56 (hh ▸ CR57) F72 F73 F74 F75 F59 F60 F61 F62 LQ0 LQ1 (Or.inr (Or.inl rfl)) LHS HH2 HWS LWS
  · show Go p e below _ _ (mkF m 281 #[iv i0, iv i1, iv i2, iv i3, iv i4, iv q0, iv q1, rv x, iv 2, iv u0, iv u1, rv xh, iv kk, rv ta, rv y, rv la, rv pg, rv r, iv 1, iv 10] [])
    refine zil Y B o889 rfl <| zc1 Y B o890 <| zCN Y B o893 (by decide) ?_
    refine zil Y B o894 rfl <| zN Y B o895 (by decide) ?_
    refine zal Y B o896 rfl <| zil Y B o897 rfl <| zil Y B o898 rfl ?_
    refine zcs Y B hZ56 hown56 (ow297 hw) (ow298 hw) (ow33 hw) (ow299 hw) (by decide) (rm_esc l Z a0 hw [] r tr kr (TX q0 q1 ([u0, u1] : List Int32) wd) 10 u0 G1 G3 h56 n0 (Nat.le_trans Z0 K57.1) F59 F60 F61 F62 (by have q := TS_4 q0 q1 ([u0, u1] : List Int32) wd (o := 10) (by omega); rw [escL_cons] at q; exact q.left) (LOT) HB O2 P5 O57 O4 rG3) e65 hml opd_27 rfl o899 rfl rfl rfl rfl rfl fun _ T76 _ Y hQ => ?_
    obtain ⟨rfl, N76q, e76⟩ := hQ
    have N76 := Fr.app N65 N76q
    refine zN Y B o900 (by decide) ?_
    refine zc1 Y B o901 <| zgo Y B j60 <| zis Y B o902 (s18 rfl) <| zil Y B o903 rfl <| zil Y B o904 rfl ?_
    refine zcs Y B hZ56 hown56 (ow300 hw) (ow301 hw) (ow33 hw) (ow302 hw) (by decide) (rm_esclen l Z a0 hw [] u0 h56 n0 (Nat.le_trans Z0 K57.1) ) e76 hml opd_37 rfl o905 rfl rfl rfl rfl rfl fun _ T77 _ Y hQ => ?_
    obtain ⟨rfl, N77q, e77⟩ := hQ
    have N77 := Fr.app N76 N77q
    refine ziadd Y B o906 rfl ?_
    rw [show ((10 : Int32) + (Int32.ofNat (esc1 u0).length)) = (Int32.ofNat (10 + (esc1 u0).length)) from (on_add 10 _)]
    refine zis Y B o907 (s19 rfl) <| zil Y B o891 rfl <| zc2 Y B o892 <| zCN Y B o908 (by decide) ?_
    refine zil Y B o909 rfl <| zN Y B o910 (by decide) ?_
    refine zal Y B o911 rfl <| zil Y B o912 rfl <| zil Y B o913 rfl ?_
    refine zcs Y B hZ56 hown56 (ow297 hw) (ow298 hw) (ow33 hw) (ow299 hw) (by decide) (rm_esc l Z a0 hw [] r tr kr (TX q0 q1 ([u0, u1] : List Int32) wd) (10 + (esc1 u0).length) u1 G1 G3 h56 n0 (Nat.le_trans Z0 K57.1) F59 F60 F61 F62 (by have q := TS_4 q0 q1 ([u0, u1] : List Int32) wd (o := 10) (by omega); rw [escL_cons] at q; have q2 := q.right; rw [escL_cons] at q2; exact q2.left) (LOT) HB O2 P5 O57 O4 rG3) e77 hml opd_27 rfl o914 rfl rfl rfl rfl rfl fun _ T78 _ Y hQ => ?_
    obtain ⟨rfl, N78q, e78⟩ := hQ
    have N78 := Fr.app N77 N78q
    refine zN Y B o915 (by decide) ?_
    refine zc1 Y B o916 <| zgo Y B j61 <| zis Y B o917 (s18 rfl) <| zil Y B o918 rfl <| zil Y B o919 rfl ?_
    refine zcs Y B hZ56 hown56 (ow300 hw) (ow301 hw) (ow33 hw) (ow302 hw) (by decide) (rm_esclen l Z a0 hw [] u1 h56 n0 (Nat.le_trans Z0 K57.1) ) e78 hml opd_37 rfl o920 rfl rfl rfl rfl rfl fun _ T79 _ Y hQ => ?_
    obtain ⟨rfl, N79q, e79⟩ := hQ
    have N79 := Fr.app N78 N79q
    refine ziadd Y B o921 rfl ?_
    rw [show ((Int32.ofNat (10 + (esc1 u0).length)) + (Int32.ofNat (esc1 u1).length)) = (Int32.ofNat ((10 + (esc1 u0).length) + (esc1 u1).length)) from (on_add _ _)]
    refine zis Y B o922 (s19 rfl) ?_
    rw [show (Int32.ofNat ((10 + (esc1 u0).length) + (esc1 u1).length)) = (Int32.ofNat (10 + (escL ([u0, u1] : List Int32)).length)) from (by rw [escL_cons, escL_cons, escL_nil, List.append_nil, List.length_append, Nat.add_assoc])]
    show Go p e below _ _ (mkF m 361 #[iv i0, iv i1, iv i2, iv i3, iv i4, iv q0, iv q1, rv x, iv (Int32.ofNat ([u0, u1] : List Int32).length), iv u0, iv u1, rv xh, iv kk, rv ta, rv y, rv la, rv pg, rv r, iv 1, iv (Int32.ofNat (10 + (escL ([u0, u1] : List Int32)).length))] [])
    have F80 := (Y0.ext E56)
    have F81 := (Y1.ext E56)
    have F82 := (Y2.ext E56)
    have F83 := (Y3.ext E56)
    exact P361 _ _ _ _ _ q0 q1 x t kt u0 u1 xh th kh ([u0, u1] : List Int32) kk ta y yt yk wd la pg r tr kr (Stand_grow Y (by decide) (by decide)) e79 N79 K57 O57 hS56 (Nat.le_trans hk56 (Nat.le_refl _)) hZ56 hown56 (hh ▸ CR57) F80 F81 F82 F83 F59 F60 F61 F62 LQ0 LQ1 (Or.inr (Or.inr rfl)) LHS HH2 HWS LWS
theorem pc_law_P169 (l : Launch) (Z : State) (a0 : Array Value) (hw : HW a0 Z) (i0 i1 i2 i3 i4 : Int32) (ty0 wx0 wt0 : Addr) (wk0 : ClassId) (ty1 wx1 wt1 : Addr) (wk1 : ClassId) (ty2 wx2 wt2 : Addr) (wk2 : ClassId) (on : Addr) (ko : ClassId) (G1 : Int32) (G3 : Value) (h0 : Heap) (n0 : Nat) (Z0 : n0 ≤ h0.size) (OT0 : Sta Z Z.heap ss8 "COUNTER" ss17 (.ref ty0)) (V0_0 : Exa Z Z.heap ty0 ss8) (V0_1 : Fld Z Z.heap ty0 ss8 "word" ss9 (.ref wx0)) (V0_2 : Exa Z Z.heap wx0 ss0) (V0_3 : Fld Z Z.heap wx0 ss0 ss2 "B" (.int 0)) (V0_4 : Fld Z Z.heap wx0 ss0 ss3 "[B" (.ref wt0)) (V0_5 : Arv Z Z.heap wt0 wk0 .byte (Int32.ofNat CNT.length) (B8 CNT) (.int 0)) (OT1 : Sta Z Z.heap ss8 "GAUGE" ss17 (.ref ty1)) (V1_0 : Exa Z Z.heap ty1 ss8) (V1_1 : Fld Z Z.heap ty1 ss8 "word" ss9 (.ref wx1)) (V1_2 : Exa Z Z.heap wx1 ss0) (V1_3 : Fld Z Z.heap wx1 ss0 ss2 "B" (.int 0)) (V1_4 : Fld Z Z.heap wx1 ss0 ss3 "[B" (.ref wt1)) (V1_5 : Arv Z Z.heap wt1 wk1 .byte (Int32.ofNat GAU.length) (B8 GAU) (.int 0)) (OT2 : Sta Z Z.heap ss8 "HISTOGRAM" ss17 (.ref ty2)) (V2_0 : Exa Z Z.heap ty2 ss8) (V2_1 : Fld Z Z.heap ty2 ss8 "word" ss9 (.ref wx2)) (V2_2 : Exa Z Z.heap wx2 ss0) (V2_3 : Fld Z Z.heap wx2 ss0 ss2 "B" (.int 0)) (V2_4 : Fld Z Z.heap wx2 ss0 ss3 "[B" (.ref wt2)) (V2_5 : Arv Z Z.heap wt2 wk2 .byte (Int32.ofNat HIS.length) (B8 HIS) (.int 0)) (OS1 : Sta Z Z.heap ss14 ss15 "[B" (.ref on)) (OD1 : Arv Z Z.heap on ko .byte (100 : Int32) ONES (.int 0)) (O2 : Sta Z Z.heap ss0 ss7 "Z" (.int G1)) (P5 : ¬ (G1 = (0 : Int32))) (X00 : Old Z n0 h0) (O4 : Sta Z Z.heap ss10 ss12 ss13 G3) (rG3 : G3.isRef = true) {p : Program} {e : Env} {s : State} {m : MethodId} {below : List Frame} {meth : Method} {c : Code} (hZ : Z.Warmed39 s.vm) (hh : s.heap = h0) (hCH : CHv Z EL s.vm h0) (B : HB p c code) (hml : c.maxLocals = 20) (hret : meth.sig.returnType = ret) (hlk : meth.locks = false) (hown : s.vm.findClass ss16 = some m.cls) (hnm : meth.name = (x).name) :
    ∀ (T84 : State) (LL84 : List Loc) (hP84 : Heap) (vm84 : Vm) (kk84 : Nat) (q0 : Int32) (q1 : Int32) (x : Addr) (t : Addr) (kt : ClassId) (u0 : Int32) (u1 : Int32) (xh : Addr) (th : Addr) (kh : ClassId) (hs : List Int32) (kk : Int32) (ta : Addr) (y : Addr) (yt : Addr) (yk : ClassId) (wd : List Int32) (wx : Addr) (wt : Addr) (wk : ClassId), Stand p l e room_1 (s.setVm vm84) m #[(.int i0), (.int i1), (.int i2), (.int i3), (.int i4)] below meth c T84 LL84 10 130 → T84.heap = hP84 → Fr n0 LL84 → Keep h0 hP84 [] → Old Z n0 hP84 → s.Since vm84 kk84 → kk84 ≤ hP84.size → Z.Warmed39 (s.setVm vm84).vm → (s.setVm vm84).vm.findClass ss16 = some m.cls → CHr Z EL s.vm h0 vm84 hP84 → (Exa Z hP84 x ss0) → (Fld Z hP84 x ss0 ss2 "B" (.int 0)) → (Fld Z hP84 x ss0 ss3 "[B" (.ref t)) → (Arv Z hP84 t kt .byte (Int32.ofNat ([q0, q1] : List Int32).length) (B8 ([q0, q1] : List Int32)) (.int 0)) → (Exa Z hP84 xh ss0) → (Fld Z hP84 xh ss0 ss2 "B" (.int 0)) → (Fld Z hP84 xh ss0 ss3 "[B" (.ref th)) → (Arv Z hP84 th kh .byte (Int32.ofNat hs.length) (B8 hs) (.int 0)) → (Exa Z hP84 y ss0) → (Fld Z hP84 y ss0 ss2 "B" (.int 0)) → (Fld Z hP84 y ss0 ss3 "[B" (.ref yt)) → (Arv Z hP84 yt yk .byte (Int32.ofNat wd.length) (B8 wd) (.int 0)) → (¬ q0 < 0 ∧ ¬ (255 : Int32) < q0) → (¬ q1 < 0 ∧ ¬ (255 : Int32) < q1) → (hs = [] ∨ hs = [u0] ∨ hs = [u0, u1]) → (Lo hs) → (hs.length ≤ 2) → (wd.length ≤ 9) → (Lo wd) → (Exa Z Z.heap ta ss8) → (Fld Z Z.heap ta ss8 "word" ss9 (.ref wx)) → (Exa Z Z.heap wx ss0) → (Fld Z Z.heap wx ss0 ss2 "B" (.int 0)) → (Fld Z Z.heap wx ss0 ss3 "[B" (.ref wt)) → (Arv Z Z.heap wt wk .byte (Int32.ofNat wd.length) (B8 wd) (.int 0)) → Go p e below (OutW Z EL s (Q_law Z i0 i1 i2 i3 i4 ty0 wx0 wt0 wk0 ty1 wx1 wt1 wk1 ty2 wx2 wt2 wk2 on ko G1 G3 h0 n0) room_1.cells room_1.slots) T84 (mkF m 169 #[iv i0, iv i1, iv i2, iv i3, iv i4, iv q0, iv q1, rv x, iv (Int32.ofNat hs.length), iv u0, iv u1, rv xh, iv kk, rv ta, rv y, un, un, un, un, un] []) := by
  have CR0 : CHr Z EL s.vm s.heap s.vm h0 := by rw [hh]; exact CHr.refl hCH
  have P210 := @pc_law_P210 l Z a0 hw i0 i1 i2 i3 i4 ty0 wx0 wt0 wk0 ty1 wx1 wt1 wk1 ty2 wx2 wt2 wk2 on ko G1 G3 h0 n0 Z0 OT0 V0_0 V0_1 V0_2 V0_3 V0_4 V0_5 OT1 V1_0 V1_1 V1_2 V1_3 V1_4 V1_5 OT2 V2_0 V2_1 V2_2 V2_3 V2_4 V2_5 OS1 OD1 O2 P5 X00 O4 rG3 p e s m below meth c hZ hh hCH B hml hret hlk hown hnm
  intro T84 LL84 hP84 vm84 kk84 q0 q1 x t kt u0 u1 xh th kh hs kk ta y yt yk wd wx wt wk Y e84 N84 KP84 OP84 hS84 hk84 hZ84 hown84 RP84 S0 S1 S2 S3 H0 H1 H2 H3 Y0 Y1 Y2 Y3 LQ0 LQ1 HS3 LHS HH2 HWS LWS W0 W1 W2 W3 W4 W5
  have CRP84 := CR0.trans RP84
  have hE := escL_len hs
  refine zc0 Y B o923 ?_
  obtain ⟨T85, h85, k85, Y, e85, E85, A85, -, st85⟩ := newR Y B.1 hZ84 hown84 (ow0 hw) (ow42 hw) e84 (g := (mkF m 170 #[iv i0, iv i1, iv i2, iv i3, iv i4, iv q0, iv q1, rv x, iv (Int32.ofNat hs.length), iv u0, iv u1, rv xh, iv kk, rv ta, rv y, un, un, un, un, un] [(.int 0)])) rfl (hb B.2 o924.1) rfl (by decide) (cap := 0) (by decide) (by decide) (by decide) (by decide)
  obtain ⟨b85, g85⟩ : ∃ z, z = hP84.size := ⟨_, rfl⟩
  rw [← g85] at A85 st85
  refine Go.by st85 ?_
  have R86 := CHr.ext E85 CRP84.1
  have CR86 := CRP84.trans R86
  have K86 := KP84.ext E85
  have O86 := OP84.ext E85
  show Go p e below _ _ (mkF m 173 #[iv i0, iv i1, iv i2, iv i3, iv i4, iv q0, iv q1, rv x, iv (Int32.ofNat hs.length), iv u0, iv u1, rv xh, iv kk, rv ta, rv y, un, un, un, un, un] [(.ref b85)])
  have Sf87 : Safe Z EL vm84 h85 b85 := Safe.ext E85 CRP84.1 (Safe.new (Nat.le_of_eq g85.symm))
  have V85 : Arv Z h85 b85 k85 (.object ss0) (0 : Int32) [] .null := (Arv.new A85 (by decide)).pad (pad_rep [] .null 0)
  refine zas Y B o925 (s15 rfl) rfl ?_
  refine zno Y B hZ84 hown84 (ow43 hw) (ow44 hw) (ow45 hw) e85 o926 rfl rfl fun T88 h88 b88 g88 Y e88 E88 A88 D88 U88 => ?_
  have R89 := CHr.ext E88 CR86.1
  have CR89 := CR86.trans R89
  have K89 := K86.ext E88
  have O89 := O86.ext E88
  have Sf90 : Safe Z EL vm84 h88 b88 := Safe.ext E88 CR86.1 (Safe.new (Nat.le_of_eq g88.symm))
  refine zdup Y B o927 rfl ?_
  refine zci Y B hZ84 rfl hown84 (ow46 hw) (ow47 hw) (ow45 hw) (ow48 hw) (by decide) (rm_ptinit l Z a0 hw [] b88 G1 h88 n0 (Nat.le_trans Z0 K89.1) A88 (D88 (Or.inr (ow69 hw)) (ty := (.object ss4)) (by decide)) (D88 (Or.inl (ow76 hw)) (ty := (.object ss0)) (by decide)) ((Nat.le_trans (Nat.le_trans Z0 K86.1) (Nat.le_of_eq g88.symm))) O2 P5 O89) e88 hml opd_29 rfl o928 rfl rfl rfl rfl rfl fun _ T91 _ Y hQ => ?_
  obtain ⟨b_91, v_91, kv_91, rfl, N91q, K91q, P91_0, P91_1, P91_2, P91_3, P91_4, P91_5, P91_6, P91_7, P91_8, P91_9, P91_10⟩ := hQ
  have N91 := Fr.app N84 N91q
  have R92 := CHr.keep K91q (allS (Safe.exa hZ84.alike A88 (by decide) (by decide)) all0) CR89.1
  have CR92 := CR89.trans R92
  have K92 := K89.trans K91q (allS (Or.inr (Nat.le_trans K86.1 (Nat.le_of_eq g88.symm))) all0)
  have O92 := O89.keep K91q (allS (Nat.le_trans (Nat.le_trans Z0 K86.1) (Nat.le_of_eq g88.symm)) all0)
  have Sf93 : Safe Z EL vm84 T91.heap b_91 := Safe.keep K91q (allS (Safe.exa hZ84.alike A88 (by decide) (by decide)) all0) CR89.1 (Safe.new P91_0)
  have Sf94 : Safe Z EL vm84 T91.heap v_91 := Safe.keep K91q (allS (Safe.exa hZ84.alike A88 (by decide) (by decide)) all0) CR89.1 (Safe.new P91_1)
  refine zas Y B o929 (s16 rfl) rfl <| zal Y B o930 rfl <| zal Y B o931 rfl <| zal Y B o932 rfl <| zal Y B o933 rfl ?_
  have hFL : ((((((((((([] : List Int32) ++ HELP) ++ ([q0, q1] : List Int32)) ++ [(32 : Int32)]) ++ escL hs) ++ [(10 : Int32)]) ++ TYP) ++ ([q0, q1] : List Int32)) ++ [(32 : Int32)]) ++ wd) ++ [(10 : Int32)]).length = 22 + (escL hs).length + wd.length := by simp only [List.length_append, List.length_cons, List.length_nil, HELP_len, TYP_len] <;> omega
  have hFN : (((((((((((((((([] : List Int32) ++ HELP) ++ ([q0, q1] : List Int32)) ++ [(32 : Int32)]) ++ escL hs) ++ [(10 : Int32)]) ++ TYP) ++ ([q0, q1] : List Int32)) ++ [(32 : Int32)]) ++ wd) ++ [(10 : Int32)]) ++ ([q0, q1] : List Int32)) ++ ([] : List Int32)) ++ [(32 : Int32)]) ++ [(55 : Int32)]) ++ [(10 : Int32)]).length = 27 + (escL hs).length + wd.length := by rw [TX_eq, TX_len]
  have hcs : (escL hs).length + wd.length = 13 ∨ (escL hs).length + wd.length ≤ 6 ∨ (escL hs).length + wd.length = 7 ∨ (escL hs).length + wd.length = 8 ∨ (escL hs).length + wd.length = 9 ∨ (escL hs).length + wd.length = 10 ∨ (11 ≤ (escL hs).length + wd.length ∧ (escL hs).length + wd.length ≤ 12) := by omega
  rcases hcs with hcs | hcs | hcs | hcs | hcs | hcs | hcs
  · show Go p e below _ _ (mkF m 192 #[iv i0, iv i1, iv i2, iv i3, iv i4, iv q0, iv q1, rv x, iv (Int32.ofNat hs.length), iv u0, iv u1, rv xh, iv kk, rv ta, rv y, rv b85, rv b88, un, un, un] [(.ref xh), (.ref ta), (.ref x), (.ref b88)])
    have F96 := (((S0.ext E85).ext E88).keep K91q)
    have F97 := (((S1.ext E85).ext E88).keep K91q (ninS (Nat.ne_of_lt (Nat.lt_of_lt_of_le (S0.ext E85).lt (Nat.le_of_eq g88.symm))) nin0))
    have F98 := (((S2.ext E85).ext E88).keep K91q (ninS (Nat.ne_of_lt (Nat.lt_of_lt_of_le (S0.ext E85).lt (Nat.le_of_eq g88.symm))) nin0))
    have F99 := (((S3.ext E85).ext E88).keep K91q (ninS (Nat.ne_of_lt (Nat.lt_of_lt_of_le (S3.ext E85).lt (Nat.le_of_eq g88.symm))) nin0))
    have F100 := (((H0.ext E85).ext E88).keep K91q)
    have F101 := (((H1.ext E85).ext E88).keep K91q (ninS (Nat.ne_of_lt (Nat.lt_of_lt_of_le (H0.ext E85).lt (Nat.le_of_eq g88.symm))) nin0))
    have F102 := (((H2.ext E85).ext E88).keep K91q (ninS (Nat.ne_of_lt (Nat.lt_of_lt_of_le (H0.ext E85).lt (Nat.le_of_eq g88.symm))) nin0))
    have F103 := (((H3.ext E85).ext E88).keep K91q (ninS (Nat.ne_of_lt (Nat.lt_of_lt_of_le (H3.ext E85).lt (Nat.le_of_eq g88.symm))) nin0))
    obtain ⟨cq95, kq95, q95a, q95b, q95c⟩ := isOf hZ84 rfl P91_2
    obtain ⟨_, _, ⟨T95, L95, k95, n95⟩, -, XX95, hSn95, hgn95, ⟨Lc95, hQ95, l95, y95, z95, RQ95⟩, st95⟩ := Y.virtualBackS B.1 (y := mn48) (z := mn48) hown84 (mvT hZ84 (ow70 hw)) (mvT hZ84 (ow71 hw)) (notFace_of_selects (args := #[]) (mvT hZ84 (ow73 hw))) (mvT hZ84 (ow73 hw)) (mvT hZ84 (ow72 hw)) (by decide) (backOfSH (W := 0) (rm_fam1 l Z a0 hw [] b88 b_91 v_91 kv_91 x t kt ([q0, q1] : List Int32) ta wx wt wk wd xh th kh hs G1 G3 T91.heap n0 (Nat.le_trans Z0 K92.1) P91_2 P91_3 P91_4 P91_5 P91_6 P91_7 P91_8 P91_9 P91_10 F96 F97 F98 F99 W0 W1 W2 W3 W4 W5 F100 F101 F102 F103 (rfl) HH2 (LHS) (by omega) ((Ne.symm (Nat.ne_of_lt (Nat.lt_of_lt_of_le ((S3.ext E85).ext E88).lt P91_1)))) ((Ne.symm (Nat.ne_of_lt (Nat.lt_of_lt_of_le ((H3.ext E85).ext E88).lt P91_1)))) ((Nat.le_trans (Nat.le_trans Z0 K86.1) (Nat.le_of_eq g88.symm))) ((Nat.le_trans (Nat.le_trans Z0 K89.1) P91_0)) ((Nat.le_trans (Nat.le_trans Z0 K89.1) P91_1)) O2 P5 O92 O4 rG3) hZ84 (ow74 hw) (ow45 hw) (by decide) (by decide) (hEW hw) CR92.1) q95a q95c (g := (mkF m 192 #[iv i0, iv i1, iv i2, iv i3, iv i4, iv q0, iv q1, rv x, iv (Int32.ofNat hs.length), iv u0, iv u1, rv xh, iv kk, rv ta, rv y, rv b85, rv b88, un, un, un] [(.ref xh), (.ref ta), (.ref x), (.ref b88)])) rfl (by rw [hml]; rfl) (Steps.refl _) (argsL := [(.ref x), (.ref ta), (.ref xh)]) (rest := []) (lenOf opd_38 rfl) rfl (by show 2 * 0 + _ ≤ _; exact Nat.le_of_eq rfl) (hb B.2 o934.1) (fun _ _ => ⟨rfl, rfl, (by decide : 14 + 10 ≤ _), (by decide : 170 + 228 ≤ _)⟩)
    dsimp only [Pt.U, Pt.locs, Pt.cells, Pt.slots] at XX95 hSn95 hgn95 l95 y95 z95 st95 hQ95 RQ95
    subst l95 y95 z95
    obtain ⟨Y, hS95, hZ95, hown95⟩ := rebS hS84 (Nat.le_trans hk84 (Nat.le_trans (Nat.le_trans E85.1 E88.1) K91q.1)) XX95 hSn95 hgn95 hZ84 hown84
    obtain ⟨v'_95, kv'_95, rfl, N95q, K95q, P95_0, P95_1, P95_2, P95_3, P95_4, P95_5, P95_6, P95_7, P95_8, P95_9⟩ := hQ95
    have N95 := Fr.app N91 N95q
    refine Go.tr st95 ?_
    have CR104 := CR92.trans RQ95
    have K104 := K92.trans K95q (allS (Or.inr (Nat.le_trans K86.1 (Nat.le_of_eq g88.symm))) (allS (Or.inr (Nat.le_trans K89.1 P91_0)) (allS (Or.inr (Nat.le_trans K89.1 P91_1)) all0)))
    have O104 := O92.keep K95q (allS (Nat.le_trans (Nat.le_trans Z0 K86.1) (Nat.le_of_eq g88.symm)) (allS (Nat.le_trans (Nat.le_trans Z0 K89.1) P91_0) (allS (Nat.le_trans (Nat.le_trans Z0 K89.1) P91_1) all0)))
    refine zal Y B o935 rfl ?_
    refine Go.f3 (Y.ldc2Long B.1 hown95 (mvT hZ95 (ow174 hw)) rfl (hb B.2 o936.1)) ?_
    refine zal Y B o937 rfl ?_
    have F106 := (F96.keep K95q)
    have F107 := (F97.keep K95q (ninS (Nat.ne_of_lt (Nat.lt_of_lt_of_le (S0.ext E85).lt (Nat.le_of_eq g88.symm))) (ninS (Nat.ne_of_lt (Nat.lt_of_lt_of_le ((S0.ext E85).ext E88).lt P91_0)) (ninS (Nat.ne_of_lt (Nat.lt_of_lt_of_le ((S0.ext E85).ext E88).lt P91_1)) nin0))))
    have F108 := (F98.keep K95q (ninS (Nat.ne_of_lt (Nat.lt_of_lt_of_le (S0.ext E85).lt (Nat.le_of_eq g88.symm))) (ninS (Nat.ne_of_lt (Nat.lt_of_lt_of_le ((S0.ext E85).ext E88).lt P91_0)) (ninS (Nat.ne_of_lt (Nat.lt_of_lt_of_le ((S0.ext E85).ext E88).lt P91_1)) nin0))))
    have F109 := (F99.keep K95q (ninS (Nat.ne_of_lt (Nat.lt_of_lt_of_le (S3.ext E85).lt (Nat.le_of_eq g88.symm))) (ninS (Nat.ne_of_lt (Nat.lt_of_lt_of_le ((S3.ext E85).ext E88).lt P91_0)) (ninS (Nat.ne_of_lt (Nat.lt_of_lt_of_le ((S3.ext E85).ext E88).lt P91_1)) nin0))))
    have F110 := (((V85.ext E88).keep K91q (ninS (Nat.ne_of_lt (Nat.lt_of_lt_of_le V85.lt (Nat.le_of_eq g88.symm))) nin0)).keep K95q (ninS (Nat.ne_of_lt (Nat.lt_of_lt_of_le V85.lt (Nat.le_of_eq g88.symm))) (ninS (Nat.ne_of_lt (Nat.lt_of_lt_of_le (V85.ext E88).lt P91_0)) (ninS (Nat.ne_of_lt (Nat.lt_of_lt_of_le (V85.ext E88).lt P91_1)) nin0))))
    obtain ⟨cq105, kq105, q105a, q105b, q105c⟩ := isOf hZ95 rfl P95_1
    obtain ⟨_, _, ⟨T105, L105, k105, n105⟩, -, XX105, hSn105, hgn105, ⟨Lc105, hQ105, l105, y105, z105, RQ105⟩, st105⟩ := Y.virtualBackS B.1 (y := mn50) (z := mn50) hown95 (mvT hZ95 (ow175 hw)) (mvT hZ95 (ow176 hw)) (notFace_of_selects (args := #[]) (mvT hZ95 (ow178 hw))) (mvT hZ95 (ow178 hw)) (mvT hZ95 (ow177 hw)) (by decide) (backOfSH (W := 0) (rm_sample0 l Z a0 hw [] b88 b_91 v'_95 kv'_95 70 ((((((((((([] : List Int32) ++ HELP) ++ ([q0, q1] : List Int32)) ++ [(32 : Int32)]) ++ escL hs) ++ [(10 : Int32)]) ++ TYP) ++ ([q0, q1] : List Int32)) ++ [(32 : Int32)]) ++ wd) ++ [(10 : Int32)]) x t kt ([q0, q1] : List Int32) b85 k85 on ko G1 T95.heap n0 (Nat.le_trans Z0 K104.1) P95_1 P95_2 P95_3 P95_4 P95_5 P95_6 P95_7 P95_8 P95_9 F106 F107 F108 F109 F110 (rfl) ((Ne.symm (Nat.ne_of_lt (Nat.lt_of_lt_of_le F99.lt P95_0)))) (by decide) ((Nat.le_trans (Nat.le_trans Z0 K89.1) P91_0)) ((Nat.le_trans (Nat.le_trans Z0 K92.1) P95_0)) (by rw [hFL]; omega) OS1 OD1 O2 P5 O104) hZ95 (ow179 hw) (ow45 hw) (by decide) (by decide) (hEW hw) CR104.1) q105a q105c (g := (mkF m 202 #[iv i0, iv i1, iv i2, iv i3, iv i4, iv q0, iv q1, rv x, iv (Int32.ofNat hs.length), iv u0, iv u1, rv xh, iv kk, rv ta, rv y, rv b85, rv b88, un, un, un] [(.ref b85), (.long (7 : Int64)), (.ref b88)])) rfl (by rw [hml]; rfl) (Steps.refl _) (argsL := [(.long (7 : Int64)), (.ref b85)]) (rest := []) (lenOf opd_39 rfl) rfl (by show 2 * 0 + _ ≤ _; exact Nat.le_of_eq rfl) (hb B.2 o938.1) (fun _ _ => ⟨rfl, rfl, (by decide : 24 + 2 ≤ _), (by decide : 398 + 4 ≤ _)⟩)
    dsimp only [Pt.U, Pt.locs, Pt.cells, Pt.slots] at XX105 hSn105 hgn105 l105 y105 z105 st105 hQ105 RQ105
    subst l105 y105 z105
    obtain ⟨Y, hS105, hZ105, hown105⟩ := rebS hS95 (Nat.le_trans (Nat.le_refl _) (Nat.le_refl _)) XX105 hSn105 hgn105 hZ95 hown95
    obtain ⟨rfl, N105q, K105q, P105_0, P105_1, P105_2, P105_3, P105_4, P105_5⟩ := hQ105
    have N105 := Fr.app N95 N105q
    refine Go.tr st105 ?_
    have CR111 := CR104.trans RQ105
    have K111 := K104.trans K105q (allS (Or.inr (Nat.le_trans K89.1 P91_0)) (allS (Or.inr (Nat.le_trans K92.1 P95_0)) all0))
    have O111 := O104.keep K105q (allS (Nat.le_trans (Nat.le_trans Z0 K89.1) P91_0) (allS (Nat.le_trans (Nat.le_trans Z0 K92.1) P95_0) all0))
    refine zal Y B o939 rfl ?_
    have F113 := (P95_1.keep K105q)
    have F114 := (P95_2.keep K105q (ninS (Nat.ne_of_lt (Nat.lt_of_lt_of_le A88.lt P91_0)) (ninS (Nat.ne_of_lt (Nat.lt_of_lt_of_le P91_2.lt P95_0)) nin0)))
    refine zcv Y B hZ105 hown105 (ow205 hw) (ow206 hw) (notFace_of_selects (args := #[]) (mvT hZ105 (ow208 hw))) (ow208 hw) (ow207 hw) (ow45 hw) (ow209 hw) (by decide) F113 (rm_text2 l Z a0 hw [] b88 b_91 v'_95 kv'_95 (((((((((((((((([] : List Int32) ++ HELP) ++ ([q0, q1] : List Int32)) ++ [(32 : Int32)]) ++ escL hs) ++ [(10 : Int32)]) ++ TYP) ++ ([q0, q1] : List Int32)) ++ [(32 : Int32)]) ++ wd) ++ [(10 : Int32)]) ++ ([q0, q1] : List Int32)) ++ ([] : List Int32)) ++ [(32 : Int32)]) ++ [(55 : Int32)]) ++ [(10 : Int32)]) 70 G1 T105.heap n0 (Nat.le_trans Z0 K111.1) F113 F114 P105_0 P105_1 P105_2 P105_3 P105_4 P105_5 (by rw [hFN]; omega) (by decide) (by rw [hFN]; omega) O2 P5 O111) rfl hml opd_35 rfl o940 rfl rfl rfl rfl rfl fun _ T112 _ Y hQ => ?_
    obtain ⟨x_112, t_112, kt_112, rfl, N112q, K112q, P112_0, P112_1, P112_2, P112_3, P112_4, P112_5⟩ := hQ
    have N112 := Fr.app N105 N112q
    have R115 := CHr.keep K112q all0 CR111.1
    have CR115 := CR111.trans R115
    have K115 := K111.trans K112q all0
    have O115 := O111.keep K112q all0
    have Sf116 : Safe Z EL T105.vm T112.heap x_112 := Safe.keep K112q all0 CR111.1 (Safe.new P112_0)
    have Sf117 : Safe Z EL T105.vm T112.heap t_112 := Safe.keep K112q all0 CR111.1 (Safe.new P112_1)
    rw [TX_eq] at P112_5
    have F118 := ((((((Y0.ext E85).ext E88).keep K91q).keep K95q).keep K105q).keep K112q)
    have F119 := ((((((Y1.ext E85).ext E88).keep K91q (ninS (Nat.ne_of_lt (Nat.lt_of_lt_of_le (Y0.ext E85).lt (Nat.le_of_eq g88.symm))) nin0)).keep K95q (ninS (Nat.ne_of_lt (Nat.lt_of_lt_of_le (Y0.ext E85).lt (Nat.le_of_eq g88.symm))) (ninS (Nat.ne_of_lt (Nat.lt_of_lt_of_le ((Y0.ext E85).ext E88).lt P91_0)) (ninS (Nat.ne_of_lt (Nat.lt_of_lt_of_le ((Y0.ext E85).ext E88).lt P91_1)) nin0)))).keep K105q (ninS (Nat.ne_of_lt (Nat.lt_of_lt_of_le ((Y0.ext E85).ext E88).lt P91_0)) (ninS (Nat.ne_of_lt (Nat.lt_of_lt_of_le (((Y0.ext E85).ext E88).keep K91q).lt P95_0)) nin0))).keep K112q nin0)
    have F120 := ((((((Y2.ext E85).ext E88).keep K91q (ninS (Nat.ne_of_lt (Nat.lt_of_lt_of_le (Y0.ext E85).lt (Nat.le_of_eq g88.symm))) nin0)).keep K95q (ninS (Nat.ne_of_lt (Nat.lt_of_lt_of_le (Y0.ext E85).lt (Nat.le_of_eq g88.symm))) (ninS (Nat.ne_of_lt (Nat.lt_of_lt_of_le ((Y0.ext E85).ext E88).lt P91_0)) (ninS (Nat.ne_of_lt (Nat.lt_of_lt_of_le ((Y0.ext E85).ext E88).lt P91_1)) nin0)))).keep K105q (ninS (Nat.ne_of_lt (Nat.lt_of_lt_of_le ((Y0.ext E85).ext E88).lt P91_0)) (ninS (Nat.ne_of_lt (Nat.lt_of_lt_of_le (((Y0.ext E85).ext E88).keep K91q).lt P95_0)) nin0))).keep K112q nin0)
    have F121 := ((((((Y3.ext E85).ext E88).keep K91q (ninS (Nat.ne_of_lt (Nat.lt_of_lt_of_le (Y3.ext E85).lt (Nat.le_of_eq g88.symm))) nin0)).keep K95q (ninS (Nat.ne_of_lt (Nat.lt_of_lt_of_le (Y3.ext E85).lt (Nat.le_of_eq g88.symm))) (ninS (Nat.ne_of_lt (Nat.lt_of_lt_of_le ((Y3.ext E85).ext E88).lt P91_0)) (ninS (Nat.ne_of_lt (Nat.lt_of_lt_of_le ((Y3.ext E85).ext E88).lt P91_1)) nin0)))).keep K105q (ninS (Nat.ne_of_lt (Nat.lt_of_lt_of_le ((Y3.ext E85).ext E88).lt P91_0)) (ninS (Nat.ne_of_lt (Nat.lt_of_lt_of_le (((Y3.ext E85).ext E88).keep K91q (ninS (Nat.ne_of_lt (Nat.lt_of_lt_of_le (Y3.ext E85).lt (Nat.le_of_eq g88.symm))) nin0)).lt P95_0)) nin0))).keep K112q nin0)
    exact P210 _ _ _ _ _ q0 q1 x t kt u0 u1 xh th kh hs kk ta y yt yk wd b85 b88 x_112 t_112 kt_112 (Stand_grow Y (by decide) (by decide)) rfl N112 K115 O115 hS105 (Nat.le_trans (Nat.le_refl _) K112q.1) hZ105 hown105 (hh ▸ CR115) F118 F119 F120 F121 P112_2 P112_3 P112_4 P112_5 LQ0 LQ1 HS3 LHS HH2 HWS LWS
  · show Go p e below _ _ (mkF m 192 #[iv i0, iv i1, iv i2, iv i3, iv i4, iv q0, iv q1, rv x, iv (Int32.ofNat hs.length), iv u0, iv u1, rv xh, iv kk, rv ta, rv y, rv b85, rv b88, un, un, un] [(.ref xh), (.ref ta), (.ref x), (.ref b88)])
    have F123 := (((S0.ext E85).ext E88).keep K91q)
    have F124 := (((S1.ext E85).ext E88).keep K91q (ninS (Nat.ne_of_lt (Nat.lt_of_lt_of_le (S0.ext E85).lt (Nat.le_of_eq g88.symm))) nin0))
    have F125 := (((S2.ext E85).ext E88).keep K91q (ninS (Nat.ne_of_lt (Nat.lt_of_lt_of_le (S0.ext E85).lt (Nat.le_of_eq g88.symm))) nin0))
    have F126 := (((S3.ext E85).ext E88).keep K91q (ninS (Nat.ne_of_lt (Nat.lt_of_lt_of_le (S3.ext E85).lt (Nat.le_of_eq g88.symm))) nin0))
    have F127 := (((H0.ext E85).ext E88).keep K91q)
    have F128 := (((H1.ext E85).ext E88).keep K91q (ninS (Nat.ne_of_lt (Nat.lt_of_lt_of_le (H0.ext E85).lt (Nat.le_of_eq g88.symm))) nin0))
    have F129 := (((H2.ext E85).ext E88).keep K91q (ninS (Nat.ne_of_lt (Nat.lt_of_lt_of_le (H0.ext E85).lt (Nat.le_of_eq g88.symm))) nin0))
    have F130 := (((H3.ext E85).ext E88).keep K91q (ninS (Nat.ne_of_lt (Nat.lt_of_lt_of_le (H3.ext E85).lt (Nat.le_of_eq g88.symm))) nin0))
    obtain ⟨cq122, kq122, q122a, q122b, q122c⟩ := isOf hZ84 rfl P91_2
    obtain ⟨_, _, ⟨T122, L122, k122, n122⟩, -, XX122, hSn122, hgn122, ⟨Lc122, hQ122, l122, y122, z122, RQ122⟩, st122⟩ := Y.virtualBackS B.1 (y := mn48) (z := mn48) hown84 (mvT hZ84 (ow70 hw)) (mvT hZ84 (ow71 hw)) (notFace_of_selects (args := #[]) (mvT hZ84 (ow73 hw))) (mvT hZ84 (ow73 hw)) (mvT hZ84 (ow72 hw)) (by decide) (backOfSH (W := 0) (rm_fam0 l Z a0 hw [] b88 b_91 v_91 kv_91 x t kt ([q0, q1] : List Int32) ta wx wt wk wd xh th kh hs G1 G3 T91.heap n0 (Nat.le_trans Z0 K92.1) P91_2 P91_3 P91_4 P91_5 P91_6 P91_7 P91_8 P91_9 P91_10 F123 F124 F125 F126 W0 W1 W2 W3 W4 W5 F127 F128 F129 F130 (rfl) HH2 (LHS) (by omega) ((Ne.symm (Nat.ne_of_lt (Nat.lt_of_lt_of_le ((S3.ext E85).ext E88).lt P91_1)))) ((Ne.symm (Nat.ne_of_lt (Nat.lt_of_lt_of_le ((H3.ext E85).ext E88).lt P91_1)))) ((Nat.le_trans (Nat.le_trans Z0 K86.1) (Nat.le_of_eq g88.symm))) ((Nat.le_trans (Nat.le_trans Z0 K89.1) P91_0)) ((Nat.le_trans (Nat.le_trans Z0 K89.1) P91_1)) O2 P5 O92 O4 rG3) hZ84 (ow74 hw) (ow45 hw) (by decide) (by decide) (hEW hw) CR92.1) q122a q122c (g := (mkF m 192 #[iv i0, iv i1, iv i2, iv i3, iv i4, iv q0, iv q1, rv x, iv (Int32.ofNat hs.length), iv u0, iv u1, rv xh, iv kk, rv ta, rv y, rv b85, rv b88, un, un, un] [(.ref xh), (.ref ta), (.ref x), (.ref b88)])) rfl (by rw [hml]; rfl) (Steps.refl _) (argsL := [(.ref x), (.ref ta), (.ref xh)]) (rest := []) (lenOf opd_38 rfl) rfl (by show 2 * 0 + _ ≤ _; exact Nat.le_of_eq rfl) (hb B.2 o934.1) (fun _ _ => ⟨rfl, rfl, (by decide : 14 + 9 ≤ _), (by decide : 170 + 158 ≤ _)⟩)
    dsimp only [Pt.U, Pt.locs, Pt.cells, Pt.slots] at XX122 hSn122 hgn122 l122 y122 z122 st122 hQ122 RQ122
    subst l122 y122 z122
    obtain ⟨Y, hS122, hZ122, hown122⟩ := rebS hS84 (Nat.le_trans hk84 (Nat.le_trans (Nat.le_trans E85.1 E88.1) K91q.1)) XX122 hSn122 hgn122 hZ84 hown84
    obtain ⟨v'_122, kv'_122, rfl, N122q, K122q, P122_0, P122_1, P122_2, P122_3, P122_4, P122_5, P122_6, P122_7, P122_8, P122_9⟩ := hQ122
    have N122 := Fr.app N91 N122q
    refine Go.tr st122 ?_
    have CR131 := CR92.trans RQ122
    have K131 := K92.trans K122q (allS (Or.inr (Nat.le_trans K86.1 (Nat.le_of_eq g88.symm))) (allS (Or.inr (Nat.le_trans K89.1 P91_0)) (allS (Or.inr (Nat.le_trans K89.1 P91_1)) all0)))
    have O131 := O92.keep K122q (allS (Nat.le_trans (Nat.le_trans Z0 K86.1) (Nat.le_of_eq g88.symm)) (allS (Nat.le_trans (Nat.le_trans Z0 K89.1) P91_0) (allS (Nat.le_trans (Nat.le_trans Z0 K89.1) P91_1) all0)))
    refine zal Y B o935 rfl ?_
    refine Go.f3 (Y.ldc2Long B.1 hown122 (mvT hZ122 (ow174 hw)) rfl (hb B.2 o936.1)) ?_
    refine zal Y B o937 rfl ?_
    have F133 := (F123.keep K122q)
    have F134 := (F124.keep K122q (ninS (Nat.ne_of_lt (Nat.lt_of_lt_of_le (S0.ext E85).lt (Nat.le_of_eq g88.symm))) (ninS (Nat.ne_of_lt (Nat.lt_of_lt_of_le ((S0.ext E85).ext E88).lt P91_0)) (ninS (Nat.ne_of_lt (Nat.lt_of_lt_of_le ((S0.ext E85).ext E88).lt P91_1)) nin0))))
    have F135 := (F125.keep K122q (ninS (Nat.ne_of_lt (Nat.lt_of_lt_of_le (S0.ext E85).lt (Nat.le_of_eq g88.symm))) (ninS (Nat.ne_of_lt (Nat.lt_of_lt_of_le ((S0.ext E85).ext E88).lt P91_0)) (ninS (Nat.ne_of_lt (Nat.lt_of_lt_of_le ((S0.ext E85).ext E88).lt P91_1)) nin0))))
    have F136 := (F126.keep K122q (ninS (Nat.ne_of_lt (Nat.lt_of_lt_of_le (S3.ext E85).lt (Nat.le_of_eq g88.symm))) (ninS (Nat.ne_of_lt (Nat.lt_of_lt_of_le ((S3.ext E85).ext E88).lt P91_0)) (ninS (Nat.ne_of_lt (Nat.lt_of_lt_of_le ((S3.ext E85).ext E88).lt P91_1)) nin0))))
    have F137 := (((V85.ext E88).keep K91q (ninS (Nat.ne_of_lt (Nat.lt_of_lt_of_le V85.lt (Nat.le_of_eq g88.symm))) nin0)).keep K122q (ninS (Nat.ne_of_lt (Nat.lt_of_lt_of_le V85.lt (Nat.le_of_eq g88.symm))) (ninS (Nat.ne_of_lt (Nat.lt_of_lt_of_le (V85.ext E88).lt P91_0)) (ninS (Nat.ne_of_lt (Nat.lt_of_lt_of_le (V85.ext E88).lt P91_1)) nin0))))
    obtain ⟨cq132, kq132, q132a, q132b, q132c⟩ := isOf hZ122 rfl P122_1
    obtain ⟨_, _, ⟨T132, L132, k132, n132⟩, -, XX132, hSn132, hgn132, ⟨Lc132, hQ132, l132, y132, z132, RQ132⟩, st132⟩ := Y.virtualBackS B.1 (y := mn50) (z := mn50) hown122 (mvT hZ122 (ow175 hw)) (mvT hZ122 (ow176 hw)) (notFace_of_selects (args := #[]) (mvT hZ122 (ow178 hw))) (mvT hZ122 (ow178 hw)) (mvT hZ122 (ow177 hw)) (by decide) (backOfSH (W := 0) (rm_sample0 l Z a0 hw [] b88 b_91 v'_122 kv'_122 34 ((((((((((([] : List Int32) ++ HELP) ++ ([q0, q1] : List Int32)) ++ [(32 : Int32)]) ++ escL hs) ++ [(10 : Int32)]) ++ TYP) ++ ([q0, q1] : List Int32)) ++ [(32 : Int32)]) ++ wd) ++ [(10 : Int32)]) x t kt ([q0, q1] : List Int32) b85 k85 on ko G1 T122.heap n0 (Nat.le_trans Z0 K131.1) P122_1 P122_2 P122_3 P122_4 P122_5 P122_6 P122_7 P122_8 P122_9 F133 F134 F135 F136 F137 (rfl) ((Ne.symm (Nat.ne_of_lt (Nat.lt_of_lt_of_le F126.lt P122_0)))) (by decide) ((Nat.le_trans (Nat.le_trans Z0 K89.1) P91_0)) ((Nat.le_trans (Nat.le_trans Z0 K92.1) P122_0)) (by rw [hFL]; omega) OS1 OD1 O2 P5 O131) hZ122 (ow179 hw) (ow45 hw) (by decide) (by decide) (hEW hw) CR131.1) q132a q132c (g := (mkF m 202 #[iv i0, iv i1, iv i2, iv i3, iv i4, iv q0, iv q1, rv x, iv (Int32.ofNat hs.length), iv u0, iv u1, rv xh, iv kk, rv ta, rv y, rv b85, rv b88, un, un, un] [(.ref b85), (.long (7 : Int64)), (.ref b88)])) rfl (by rw [hml]; rfl) (Steps.refl _) (argsL := [(.long (7 : Int64)), (.ref b85)]) (rest := []) (lenOf opd_39 rfl) rfl (by show 2 * 0 + _ ≤ _; exact Nat.le_of_eq rfl) (hb B.2 o938.1) (fun _ _ => ⟨rfl, rfl, (by decide : 23 + 2 ≤ _), (by decide : 328 + 4 ≤ _)⟩)
    dsimp only [Pt.U, Pt.locs, Pt.cells, Pt.slots] at XX132 hSn132 hgn132 l132 y132 z132 st132 hQ132 RQ132
    subst l132 y132 z132
    obtain ⟨Y, hS132, hZ132, hown132⟩ := rebS hS122 (Nat.le_trans (Nat.le_refl _) (Nat.le_refl _)) XX132 hSn132 hgn132 hZ122 hown122
    obtain ⟨rfl, N132q, K132q, P132_0, P132_1, P132_2, P132_3, P132_4, P132_5⟩ := hQ132
    have N132 := Fr.app N122 N132q
    refine Go.tr st132 ?_
    have CR138 := CR131.trans RQ132
    have K138 := K131.trans K132q (allS (Or.inr (Nat.le_trans K89.1 P91_0)) (allS (Or.inr (Nat.le_trans K92.1 P122_0)) all0))
    have O138 := O131.keep K132q (allS (Nat.le_trans (Nat.le_trans Z0 K89.1) P91_0) (allS (Nat.le_trans (Nat.le_trans Z0 K92.1) P122_0) all0))
    refine zal Y B o939 rfl ?_
    have F140 := (P122_1.keep K132q)
    have F141 := (P122_2.keep K132q (ninS (Nat.ne_of_lt (Nat.lt_of_lt_of_le A88.lt P91_0)) (ninS (Nat.ne_of_lt (Nat.lt_of_lt_of_le P91_2.lt P122_0)) nin0)))
    refine zcv Y B hZ132 hown132 (ow205 hw) (ow206 hw) (notFace_of_selects (args := #[]) (mvT hZ132 (ow208 hw))) (ow208 hw) (ow207 hw) (ow45 hw) (ow209 hw) (by decide) F140 (rm_text2 l Z a0 hw [] b88 b_91 v'_122 kv'_122 (((((((((((((((([] : List Int32) ++ HELP) ++ ([q0, q1] : List Int32)) ++ [(32 : Int32)]) ++ escL hs) ++ [(10 : Int32)]) ++ TYP) ++ ([q0, q1] : List Int32)) ++ [(32 : Int32)]) ++ wd) ++ [(10 : Int32)]) ++ ([q0, q1] : List Int32)) ++ ([] : List Int32)) ++ [(32 : Int32)]) ++ [(55 : Int32)]) ++ [(10 : Int32)]) 34 G1 T132.heap n0 (Nat.le_trans Z0 K138.1) F140 F141 P132_0 P132_1 P132_2 P132_3 P132_4 P132_5 (by rw [hFN]; omega) (by decide) (by rw [hFN]; omega) O2 P5 O138) rfl hml opd_35 rfl o940 rfl rfl rfl rfl rfl fun _ T139 _ Y hQ => ?_
    obtain ⟨x_139, t_139, kt_139, rfl, N139q, K139q, P139_0, P139_1, P139_2, P139_3, P139_4, P139_5⟩ := hQ
    have N139 := Fr.app N132 N139q
    have R142 := CHr.keep K139q all0 CR138.1
    have CR142 := CR138.trans R142
    have K142 := K138.trans K139q all0
    have O142 := O138.keep K139q all0
    have Sf143 : Safe Z EL T132.vm T139.heap x_139 := Safe.keep K139q all0 CR138.1 (Safe.new P139_0)
    have Sf144 : Safe Z EL T132.vm T139.heap t_139 := Safe.keep K139q all0 CR138.1 (Safe.new P139_1)
    rw [TX_eq] at P139_5
    have F145 := ((((((Y0.ext E85).ext E88).keep K91q).keep K122q).keep K132q).keep K139q)
    have F146 := ((((((Y1.ext E85).ext E88).keep K91q (ninS (Nat.ne_of_lt (Nat.lt_of_lt_of_le (Y0.ext E85).lt (Nat.le_of_eq g88.symm))) nin0)).keep K122q (ninS (Nat.ne_of_lt (Nat.lt_of_lt_of_le (Y0.ext E85).lt (Nat.le_of_eq g88.symm))) (ninS (Nat.ne_of_lt (Nat.lt_of_lt_of_le ((Y0.ext E85).ext E88).lt P91_0)) (ninS (Nat.ne_of_lt (Nat.lt_of_lt_of_le ((Y0.ext E85).ext E88).lt P91_1)) nin0)))).keep K132q (ninS (Nat.ne_of_lt (Nat.lt_of_lt_of_le ((Y0.ext E85).ext E88).lt P91_0)) (ninS (Nat.ne_of_lt (Nat.lt_of_lt_of_le (((Y0.ext E85).ext E88).keep K91q).lt P122_0)) nin0))).keep K139q nin0)
    have F147 := ((((((Y2.ext E85).ext E88).keep K91q (ninS (Nat.ne_of_lt (Nat.lt_of_lt_of_le (Y0.ext E85).lt (Nat.le_of_eq g88.symm))) nin0)).keep K122q (ninS (Nat.ne_of_lt (Nat.lt_of_lt_of_le (Y0.ext E85).lt (Nat.le_of_eq g88.symm))) (ninS (Nat.ne_of_lt (Nat.lt_of_lt_of_le ((Y0.ext E85).ext E88).lt P91_0)) (ninS (Nat.ne_of_lt (Nat.lt_of_lt_of_le ((Y0.ext E85).ext E88).lt P91_1)) nin0)))).keep K132q (ninS (Nat.ne_of_lt (Nat.lt_of_lt_of_le ((Y0.ext E85).ext E88).lt P91_0)) (ninS (Nat.ne_of_lt (Nat.lt_of_lt_of_le (((Y0.ext E85).ext E88).keep K91q).lt P122_0)) nin0))).keep K139q nin0)
    have F148 := ((((((Y3.ext E85).ext E88).keep K91q (ninS (Nat.ne_of_lt (Nat.lt_of_lt_of_le (Y3.ext E85).lt (Nat.le_of_eq g88.symm))) nin0)).keep K122q (ninS (Nat.ne_of_lt (Nat.lt_of_lt_of_le (Y3.ext E85).lt (Nat.le_of_eq g88.symm))) (ninS (Nat.ne_of_lt (Nat.lt_of_lt_of_le ((Y3.ext E85).ext E88).lt P91_0)) (ninS (Nat.ne_of_lt (Nat.lt_of_lt_of_le ((Y3.ext E85).ext E88).lt P91_1)) nin0)))).keep K132q (ninS (Nat.ne_of_lt (Nat.lt_of_lt_of_le ((Y3.ext E85).ext E88).lt P91_0)) (ninS (Nat.ne_of_lt (Nat.lt_of_lt_of_le (((Y3.ext E85).ext E88).keep K91q (ninS (Nat.ne_of_lt (Nat.lt_of_lt_of_le (Y3.ext E85).lt (Nat.le_of_eq g88.symm))) nin0)).lt P122_0)) nin0))).keep K139q nin0)
    exact P210 _ _ _ _ _ q0 q1 x t kt u0 u1 xh th kh hs kk ta y yt yk wd b85 b88 x_139 t_139 kt_139 (Stand_grow Y (by decide) (by decide)) rfl N139 K142 O142 hS132 (Nat.le_trans (Nat.le_refl _) K139q.1) hZ132 hown132 (hh ▸ CR142) F145 F146 F147 F148 P139_2 P139_3 P139_4 P139_5 LQ0 LQ1 HS3 LHS HH2 HWS LWS
  · show Go p e below _ _ (mkF m 192 #[iv i0, iv i1, iv i2, iv i3, iv i4, iv q0, iv q1, rv x, iv (Int32.ofNat hs.length), iv u0, iv u1, rv xh, iv kk, rv ta, rv y, rv b85, rv b88, un, un, un] [(.ref xh), (.ref ta), (.ref x), (.ref b88)])
    have F150 := (((S0.ext E85).ext E88).keep K91q)
    have F151 := (((S1.ext E85).ext E88).keep K91q (ninS (Nat.ne_of_lt (Nat.lt_of_lt_of_le (S0.ext E85).lt (Nat.le_of_eq g88.symm))) nin0))
    have F152 := (((S2.ext E85).ext E88).keep K91q (ninS (Nat.ne_of_lt (Nat.lt_of_lt_of_le (S0.ext E85).lt (Nat.le_of_eq g88.symm))) nin0))
    have F153 := (((S3.ext E85).ext E88).keep K91q (ninS (Nat.ne_of_lt (Nat.lt_of_lt_of_le (S3.ext E85).lt (Nat.le_of_eq g88.symm))) nin0))
    have F154 := (((H0.ext E85).ext E88).keep K91q)
    have F155 := (((H1.ext E85).ext E88).keep K91q (ninS (Nat.ne_of_lt (Nat.lt_of_lt_of_le (H0.ext E85).lt (Nat.le_of_eq g88.symm))) nin0))
    have F156 := (((H2.ext E85).ext E88).keep K91q (ninS (Nat.ne_of_lt (Nat.lt_of_lt_of_le (H0.ext E85).lt (Nat.le_of_eq g88.symm))) nin0))
    have F157 := (((H3.ext E85).ext E88).keep K91q (ninS (Nat.ne_of_lt (Nat.lt_of_lt_of_le (H3.ext E85).lt (Nat.le_of_eq g88.symm))) nin0))
    obtain ⟨cq149, kq149, q149a, q149b, q149c⟩ := isOf hZ84 rfl P91_2
    obtain ⟨_, _, ⟨T149, L149, k149, n149⟩, -, XX149, hSn149, hgn149, ⟨Lc149, hQ149, l149, y149, z149, RQ149⟩, st149⟩ := Y.virtualBackS B.1 (y := mn48) (z := mn48) hown84 (mvT hZ84 (ow70 hw)) (mvT hZ84 (ow71 hw)) (notFace_of_selects (args := #[]) (mvT hZ84 (ow73 hw))) (mvT hZ84 (ow73 hw)) (mvT hZ84 (ow72 hw)) (by decide) (backOfSH (W := 0) (rm_fam0 l Z a0 hw [] b88 b_91 v_91 kv_91 x t kt ([q0, q1] : List Int32) ta wx wt wk wd xh th kh hs G1 G3 T91.heap n0 (Nat.le_trans Z0 K92.1) P91_2 P91_3 P91_4 P91_5 P91_6 P91_7 P91_8 P91_9 P91_10 F150 F151 F152 F153 W0 W1 W2 W3 W4 W5 F154 F155 F156 F157 (rfl) HH2 (LHS) (by omega) ((Ne.symm (Nat.ne_of_lt (Nat.lt_of_lt_of_le ((S3.ext E85).ext E88).lt P91_1)))) ((Ne.symm (Nat.ne_of_lt (Nat.lt_of_lt_of_le ((H3.ext E85).ext E88).lt P91_1)))) ((Nat.le_trans (Nat.le_trans Z0 K86.1) (Nat.le_of_eq g88.symm))) ((Nat.le_trans (Nat.le_trans Z0 K89.1) P91_0)) ((Nat.le_trans (Nat.le_trans Z0 K89.1) P91_1)) O2 P5 O92 O4 rG3) hZ84 (ow74 hw) (ow45 hw) (by decide) (by decide) (hEW hw) CR92.1) q149a q149c (g := (mkF m 192 #[iv i0, iv i1, iv i2, iv i3, iv i4, iv q0, iv q1, rv x, iv (Int32.ofNat hs.length), iv u0, iv u1, rv xh, iv kk, rv ta, rv y, rv b85, rv b88, un, un, un] [(.ref xh), (.ref ta), (.ref x), (.ref b88)])) rfl (by rw [hml]; rfl) (Steps.refl _) (argsL := [(.ref x), (.ref ta), (.ref xh)]) (rest := []) (lenOf opd_38 rfl) rfl (by show 2 * 0 + _ ≤ _; exact Nat.le_of_eq rfl) (hb B.2 o934.1) (fun _ _ => ⟨rfl, rfl, (by decide : 14 + 9 ≤ _), (by decide : 170 + 158 ≤ _)⟩)
    dsimp only [Pt.U, Pt.locs, Pt.cells, Pt.slots] at XX149 hSn149 hgn149 l149 y149 z149 st149 hQ149 RQ149
    subst l149 y149 z149
    obtain ⟨Y, hS149, hZ149, hown149⟩ := rebS hS84 (Nat.le_trans hk84 (Nat.le_trans (Nat.le_trans E85.1 E88.1) K91q.1)) XX149 hSn149 hgn149 hZ84 hown84
    obtain ⟨v'_149, kv'_149, rfl, N149q, K149q, P149_0, P149_1, P149_2, P149_3, P149_4, P149_5, P149_6, P149_7, P149_8, P149_9⟩ := hQ149
    have N149 := Fr.app N91 N149q
    refine Go.tr st149 ?_
    have CR158 := CR92.trans RQ149
    have K158 := K92.trans K149q (allS (Or.inr (Nat.le_trans K86.1 (Nat.le_of_eq g88.symm))) (allS (Or.inr (Nat.le_trans K89.1 P91_0)) (allS (Or.inr (Nat.le_trans K89.1 P91_1)) all0)))
    have O158 := O92.keep K149q (allS (Nat.le_trans (Nat.le_trans Z0 K86.1) (Nat.le_of_eq g88.symm)) (allS (Nat.le_trans (Nat.le_trans Z0 K89.1) P91_0) (allS (Nat.le_trans (Nat.le_trans Z0 K89.1) P91_1) all0)))
    refine zal Y B o935 rfl ?_
    refine Go.f3 (Y.ldc2Long B.1 hown149 (mvT hZ149 (ow174 hw)) rfl (hb B.2 o936.1)) ?_
    refine zal Y B o937 rfl ?_
    have F160 := (F150.keep K149q)
    have F161 := (F151.keep K149q (ninS (Nat.ne_of_lt (Nat.lt_of_lt_of_le (S0.ext E85).lt (Nat.le_of_eq g88.symm))) (ninS (Nat.ne_of_lt (Nat.lt_of_lt_of_le ((S0.ext E85).ext E88).lt P91_0)) (ninS (Nat.ne_of_lt (Nat.lt_of_lt_of_le ((S0.ext E85).ext E88).lt P91_1)) nin0))))
    have F162 := (F152.keep K149q (ninS (Nat.ne_of_lt (Nat.lt_of_lt_of_le (S0.ext E85).lt (Nat.le_of_eq g88.symm))) (ninS (Nat.ne_of_lt (Nat.lt_of_lt_of_le ((S0.ext E85).ext E88).lt P91_0)) (ninS (Nat.ne_of_lt (Nat.lt_of_lt_of_le ((S0.ext E85).ext E88).lt P91_1)) nin0))))
    have F163 := (F153.keep K149q (ninS (Nat.ne_of_lt (Nat.lt_of_lt_of_le (S3.ext E85).lt (Nat.le_of_eq g88.symm))) (ninS (Nat.ne_of_lt (Nat.lt_of_lt_of_le ((S3.ext E85).ext E88).lt P91_0)) (ninS (Nat.ne_of_lt (Nat.lt_of_lt_of_le ((S3.ext E85).ext E88).lt P91_1)) nin0))))
    have F164 := (((V85.ext E88).keep K91q (ninS (Nat.ne_of_lt (Nat.lt_of_lt_of_le V85.lt (Nat.le_of_eq g88.symm))) nin0)).keep K149q (ninS (Nat.ne_of_lt (Nat.lt_of_lt_of_le V85.lt (Nat.le_of_eq g88.symm))) (ninS (Nat.ne_of_lt (Nat.lt_of_lt_of_le (V85.ext E88).lt P91_0)) (ninS (Nat.ne_of_lt (Nat.lt_of_lt_of_le (V85.ext E88).lt P91_1)) nin0))))
    obtain ⟨cq159, kq159, q159a, q159b, q159c⟩ := isOf hZ149 rfl P149_1
    obtain ⟨_, _, ⟨T159, L159, k159, n159⟩, -, XX159, hSn159, hgn159, ⟨Lc159, hQ159, l159, y159, z159, RQ159⟩, st159⟩ := Y.virtualBackS B.1 (y := mn50) (z := mn50) hown149 (mvT hZ149 (ow175 hw)) (mvT hZ149 (ow176 hw)) (notFace_of_selects (args := #[]) (mvT hZ149 (ow178 hw))) (mvT hZ149 (ow178 hw)) (mvT hZ149 (ow177 hw)) (by decide) (backOfSH (W := 0) (rm_sample0 l Z a0 hw [] b88 b_91 v'_149 kv'_149 34 ((((((((((([] : List Int32) ++ HELP) ++ ([q0, q1] : List Int32)) ++ [(32 : Int32)]) ++ escL hs) ++ [(10 : Int32)]) ++ TYP) ++ ([q0, q1] : List Int32)) ++ [(32 : Int32)]) ++ wd) ++ [(10 : Int32)]) x t kt ([q0, q1] : List Int32) b85 k85 on ko G1 T149.heap n0 (Nat.le_trans Z0 K158.1) P149_1 P149_2 P149_3 P149_4 P149_5 P149_6 P149_7 P149_8 P149_9 F160 F161 F162 F163 F164 (rfl) ((Ne.symm (Nat.ne_of_lt (Nat.lt_of_lt_of_le F153.lt P149_0)))) (by decide) ((Nat.le_trans (Nat.le_trans Z0 K89.1) P91_0)) ((Nat.le_trans (Nat.le_trans Z0 K92.1) P149_0)) (by rw [hFL]; omega) OS1 OD1 O2 P5 O158) hZ149 (ow179 hw) (ow45 hw) (by decide) (by decide) (hEW hw) CR158.1) q159a q159c (g := (mkF m 202 #[iv i0, iv i1, iv i2, iv i3, iv i4, iv q0, iv q1, rv x, iv (Int32.ofNat hs.length), iv u0, iv u1, rv xh, iv kk, rv ta, rv y, rv b85, rv b88, un, un, un] [(.ref b85), (.long (7 : Int64)), (.ref b88)])) rfl (by rw [hml]; rfl) (Steps.refl _) (argsL := [(.long (7 : Int64)), (.ref b85)]) (rest := []) (lenOf opd_39 rfl) rfl (by show 2 * 0 + _ ≤ _; exact Nat.le_of_eq rfl) (hb B.2 o938.1) (fun _ _ => ⟨rfl, rfl, (by decide : 23 + 2 ≤ _), (by decide : 328 + 4 ≤ _)⟩)
    dsimp only [Pt.U, Pt.locs, Pt.cells, Pt.slots] at XX159 hSn159 hgn159 l159 y159 z159 st159 hQ159 RQ159
    subst l159 y159 z159
    obtain ⟨Y, hS159, hZ159, hown159⟩ := rebS hS149 (Nat.le_trans (Nat.le_refl _) (Nat.le_refl _)) XX159 hSn159 hgn159 hZ149 hown149
    obtain ⟨rfl, N159q, K159q, P159_0, P159_1, P159_2, P159_3, P159_4, P159_5⟩ := hQ159
    have N159 := Fr.app N149 N159q
    refine Go.tr st159 ?_
    have CR165 := CR158.trans RQ159
    have K165 := K158.trans K159q (allS (Or.inr (Nat.le_trans K89.1 P91_0)) (allS (Or.inr (Nat.le_trans K92.1 P149_0)) all0))
    have O165 := O158.keep K159q (allS (Nat.le_trans (Nat.le_trans Z0 K89.1) P91_0) (allS (Nat.le_trans (Nat.le_trans Z0 K92.1) P149_0) all0))
    refine zal Y B o939 rfl ?_
    have F9 : Arv Z T159.heap v'_149 kv'_149 .byte (Int32.ofNat (((((((((((((((([] : List Int32) ++ HELP) ++ ([q0, q1] : List Int32)) ++ [(32 : Int32)]) ++ escL hs) ++ [(10 : Int32)]) ++ TYP) ++ ([q0, q1] : List Int32)) ++ [(32 : Int32)]) ++ wd) ++ [(10 : Int32)]) ++ ([q0, q1] : List Int32)) ++ ([] : List Int32)) ++ [(32 : Int32)]) ++ [(55 : Int32)]) ++ [(10 : Int32)]).length) (B8 (((((((((((((((([] : List Int32) ++ HELP) ++ ([q0, q1] : List Int32)) ++ [(32 : Int32)]) ++ escL hs) ++ [(10 : Int32)]) ++ TYP) ++ ([q0, q1] : List Int32)) ++ [(32 : Int32)]) ++ wd) ++ [(10 : Int32)]) ++ ([q0, q1] : List Int32)) ++ ([] : List Int32)) ++ [(32 : Int32)]) ++ [(55 : Int32)]) ++ [(10 : Int32)])) (.int 0) := by rw [show (((((((((((((((([] : List Int32) ++ HELP) ++ ([q0, q1] : List Int32)) ++ [(32 : Int32)]) ++ escL hs) ++ [(10 : Int32)]) ++ TYP) ++ ([q0, q1] : List Int32)) ++ [(32 : Int32)]) ++ wd) ++ [(10 : Int32)]) ++ ([q0, q1] : List Int32)) ++ ([] : List Int32)) ++ [(32 : Int32)]) ++ [(55 : Int32)]) ++ [(10 : Int32)]).length = 34 from by rw [hFN]; omega]; exact P159_4
    have F167 := (P149_1.keep K159q)
    have F168 := (P149_2.keep K159q (ninS (Nat.ne_of_lt (Nat.lt_of_lt_of_le A88.lt P91_0)) (ninS (Nat.ne_of_lt (Nat.lt_of_lt_of_le P91_2.lt P149_0)) nin0)))
    refine zcv Y B hZ159 hown159 (ow205 hw) (ow206 hw) (notFace_of_selects (args := #[]) (mvT hZ159 (ow208 hw))) (ow208 hw) (ow207 hw) (ow45 hw) (ow209 hw) (by decide) F167 (rm_text1 l Z a0 hw [] b88 b_91 v'_149 kv'_149 (((((((((((((((([] : List Int32) ++ HELP) ++ ([q0, q1] : List Int32)) ++ [(32 : Int32)]) ++ escL hs) ++ [(10 : Int32)]) ++ TYP) ++ ([q0, q1] : List Int32)) ++ [(32 : Int32)]) ++ wd) ++ [(10 : Int32)]) ++ ([q0, q1] : List Int32)) ++ ([] : List Int32)) ++ [(32 : Int32)]) ++ [(55 : Int32)]) ++ [(10 : Int32)]) G1 T159.heap n0 (Nat.le_trans Z0 K165.1) F167 F168 P159_0 P159_1 P159_2 P159_3 F9 P159_5 (by rw [hFN]; omega) O2 P5 O165) rfl hml opd_35 rfl o940 rfl rfl rfl rfl rfl fun _ T166 _ Y hQ => ?_
    obtain ⟨x_166, t_166, kt_166, rfl, N166q, K166q, P166_0, P166_1, P166_2, P166_3, P166_4, P166_5⟩ := hQ
    have N166 := Fr.app N159 N166q
    have R169 := CHr.keep K166q all0 CR165.1
    have CR169 := CR165.trans R169
    have K169 := K165.trans K166q all0
    have O169 := O165.keep K166q all0
    have Sf170 : Safe Z EL T159.vm T166.heap x_166 := Safe.keep K166q all0 CR165.1 (Safe.new P166_0)
    have Sf171 : Safe Z EL T159.vm T166.heap t_166 := Safe.keep K166q all0 CR165.1 (Safe.new P166_1)
    rw [TX_eq] at P166_5
    have F172 := ((((((Y0.ext E85).ext E88).keep K91q).keep K149q).keep K159q).keep K166q)
    have F173 := ((((((Y1.ext E85).ext E88).keep K91q (ninS (Nat.ne_of_lt (Nat.lt_of_lt_of_le (Y0.ext E85).lt (Nat.le_of_eq g88.symm))) nin0)).keep K149q (ninS (Nat.ne_of_lt (Nat.lt_of_lt_of_le (Y0.ext E85).lt (Nat.le_of_eq g88.symm))) (ninS (Nat.ne_of_lt (Nat.lt_of_lt_of_le ((Y0.ext E85).ext E88).lt P91_0)) (ninS (Nat.ne_of_lt (Nat.lt_of_lt_of_le ((Y0.ext E85).ext E88).lt P91_1)) nin0)))).keep K159q (ninS (Nat.ne_of_lt (Nat.lt_of_lt_of_le ((Y0.ext E85).ext E88).lt P91_0)) (ninS (Nat.ne_of_lt (Nat.lt_of_lt_of_le (((Y0.ext E85).ext E88).keep K91q).lt P149_0)) nin0))).keep K166q nin0)
    have F174 := ((((((Y2.ext E85).ext E88).keep K91q (ninS (Nat.ne_of_lt (Nat.lt_of_lt_of_le (Y0.ext E85).lt (Nat.le_of_eq g88.symm))) nin0)).keep K149q (ninS (Nat.ne_of_lt (Nat.lt_of_lt_of_le (Y0.ext E85).lt (Nat.le_of_eq g88.symm))) (ninS (Nat.ne_of_lt (Nat.lt_of_lt_of_le ((Y0.ext E85).ext E88).lt P91_0)) (ninS (Nat.ne_of_lt (Nat.lt_of_lt_of_le ((Y0.ext E85).ext E88).lt P91_1)) nin0)))).keep K159q (ninS (Nat.ne_of_lt (Nat.lt_of_lt_of_le ((Y0.ext E85).ext E88).lt P91_0)) (ninS (Nat.ne_of_lt (Nat.lt_of_lt_of_le (((Y0.ext E85).ext E88).keep K91q).lt P149_0)) nin0))).keep K166q nin0)
    have F175 := ((((((Y3.ext E85).ext E88).keep K91q (ninS (Nat.ne_of_lt (Nat.lt_of_lt_of_le (Y3.ext E85).lt (Nat.le_of_eq g88.symm))) nin0)).keep K149q (ninS (Nat.ne_of_lt (Nat.lt_of_lt_of_le (Y3.ext E85).lt (Nat.le_of_eq g88.symm))) (ninS (Nat.ne_of_lt (Nat.lt_of_lt_of_le ((Y3.ext E85).ext E88).lt P91_0)) (ninS (Nat.ne_of_lt (Nat.lt_of_lt_of_le ((Y3.ext E85).ext E88).lt P91_1)) nin0)))).keep K159q (ninS (Nat.ne_of_lt (Nat.lt_of_lt_of_le ((Y3.ext E85).ext E88).lt P91_0)) (ninS (Nat.ne_of_lt (Nat.lt_of_lt_of_le (((Y3.ext E85).ext E88).keep K91q (ninS (Nat.ne_of_lt (Nat.lt_of_lt_of_le (Y3.ext E85).lt (Nat.le_of_eq g88.symm))) nin0)).lt P149_0)) nin0))).keep K166q nin0)
    exact P210 _ _ _ _ _ q0 q1 x t kt u0 u1 xh th kh hs kk ta y yt yk wd b85 b88 x_166 t_166 kt_166 (Stand_grow Y (by decide) (by decide)) rfl N166 K169 O169 hS159 (Nat.le_trans (Nat.le_refl _) K166q.1) hZ159 hown159 (hh ▸ CR169) F172 F173 F174 F175 P166_2 P166_3 P166_4 P166_5 LQ0 LQ1 HS3 LHS HH2 HWS LWS
  · show Go p e below _ _ (mkF m 192 #[iv i0, iv i1, iv i2, iv i3, iv i4, iv q0, iv q1, rv x, iv (Int32.ofNat hs.length), iv u0, iv u1, rv xh, iv kk, rv ta, rv y, rv b85, rv b88, un, un, un] [(.ref xh), (.ref ta), (.ref x), (.ref b88)])
    have F177 := (((S0.ext E85).ext E88).keep K91q)
    have F178 := (((S1.ext E85).ext E88).keep K91q (ninS (Nat.ne_of_lt (Nat.lt_of_lt_of_le (S0.ext E85).lt (Nat.le_of_eq g88.symm))) nin0))
    have F179 := (((S2.ext E85).ext E88).keep K91q (ninS (Nat.ne_of_lt (Nat.lt_of_lt_of_le (S0.ext E85).lt (Nat.le_of_eq g88.symm))) nin0))
    have F180 := (((S3.ext E85).ext E88).keep K91q (ninS (Nat.ne_of_lt (Nat.lt_of_lt_of_le (S3.ext E85).lt (Nat.le_of_eq g88.symm))) nin0))
    have F181 := (((H0.ext E85).ext E88).keep K91q)
    have F182 := (((H1.ext E85).ext E88).keep K91q (ninS (Nat.ne_of_lt (Nat.lt_of_lt_of_le (H0.ext E85).lt (Nat.le_of_eq g88.symm))) nin0))
    have F183 := (((H2.ext E85).ext E88).keep K91q (ninS (Nat.ne_of_lt (Nat.lt_of_lt_of_le (H0.ext E85).lt (Nat.le_of_eq g88.symm))) nin0))
    have F184 := (((H3.ext E85).ext E88).keep K91q (ninS (Nat.ne_of_lt (Nat.lt_of_lt_of_le (H3.ext E85).lt (Nat.le_of_eq g88.symm))) nin0))
    obtain ⟨cq176, kq176, q176a, q176b, q176c⟩ := isOf hZ84 rfl P91_2
    obtain ⟨_, _, ⟨T176, L176, k176, n176⟩, -, XX176, hSn176, hgn176, ⟨Lc176, hQ176, l176, y176, z176, RQ176⟩, st176⟩ := Y.virtualBackS B.1 (y := mn48) (z := mn48) hown84 (mvT hZ84 (ow70 hw)) (mvT hZ84 (ow71 hw)) (notFace_of_selects (args := #[]) (mvT hZ84 (ow73 hw))) (mvT hZ84 (ow73 hw)) (mvT hZ84 (ow72 hw)) (by decide) (backOfSH (W := 0) (rm_fam0 l Z a0 hw [] b88 b_91 v_91 kv_91 x t kt ([q0, q1] : List Int32) ta wx wt wk wd xh th kh hs G1 G3 T91.heap n0 (Nat.le_trans Z0 K92.1) P91_2 P91_3 P91_4 P91_5 P91_6 P91_7 P91_8 P91_9 P91_10 F177 F178 F179 F180 W0 W1 W2 W3 W4 W5 F181 F182 F183 F184 (rfl) HH2 (LHS) (by omega) ((Ne.symm (Nat.ne_of_lt (Nat.lt_of_lt_of_le ((S3.ext E85).ext E88).lt P91_1)))) ((Ne.symm (Nat.ne_of_lt (Nat.lt_of_lt_of_le ((H3.ext E85).ext E88).lt P91_1)))) ((Nat.le_trans (Nat.le_trans Z0 K86.1) (Nat.le_of_eq g88.symm))) ((Nat.le_trans (Nat.le_trans Z0 K89.1) P91_0)) ((Nat.le_trans (Nat.le_trans Z0 K89.1) P91_1)) O2 P5 O92 O4 rG3) hZ84 (ow74 hw) (ow45 hw) (by decide) (by decide) (hEW hw) CR92.1) q176a q176c (g := (mkF m 192 #[iv i0, iv i1, iv i2, iv i3, iv i4, iv q0, iv q1, rv x, iv (Int32.ofNat hs.length), iv u0, iv u1, rv xh, iv kk, rv ta, rv y, rv b85, rv b88, un, un, un] [(.ref xh), (.ref ta), (.ref x), (.ref b88)])) rfl (by rw [hml]; rfl) (Steps.refl _) (argsL := [(.ref x), (.ref ta), (.ref xh)]) (rest := []) (lenOf opd_38 rfl) rfl (by show 2 * 0 + _ ≤ _; exact Nat.le_of_eq rfl) (hb B.2 o934.1) (fun _ _ => ⟨rfl, rfl, (by decide : 14 + 9 ≤ _), (by decide : 170 + 158 ≤ _)⟩)
    dsimp only [Pt.U, Pt.locs, Pt.cells, Pt.slots] at XX176 hSn176 hgn176 l176 y176 z176 st176 hQ176 RQ176
    subst l176 y176 z176
    obtain ⟨Y, hS176, hZ176, hown176⟩ := rebS hS84 (Nat.le_trans hk84 (Nat.le_trans (Nat.le_trans E85.1 E88.1) K91q.1)) XX176 hSn176 hgn176 hZ84 hown84
    obtain ⟨v'_176, kv'_176, rfl, N176q, K176q, P176_0, P176_1, P176_2, P176_3, P176_4, P176_5, P176_6, P176_7, P176_8, P176_9⟩ := hQ176
    have N176 := Fr.app N91 N176q
    refine Go.tr st176 ?_
    have CR185 := CR92.trans RQ176
    have K185 := K92.trans K176q (allS (Or.inr (Nat.le_trans K86.1 (Nat.le_of_eq g88.symm))) (allS (Or.inr (Nat.le_trans K89.1 P91_0)) (allS (Or.inr (Nat.le_trans K89.1 P91_1)) all0)))
    have O185 := O92.keep K176q (allS (Nat.le_trans (Nat.le_trans Z0 K86.1) (Nat.le_of_eq g88.symm)) (allS (Nat.le_trans (Nat.le_trans Z0 K89.1) P91_0) (allS (Nat.le_trans (Nat.le_trans Z0 K89.1) P91_1) all0)))
    refine zal Y B o935 rfl ?_
    refine Go.f3 (Y.ldc2Long B.1 hown176 (mvT hZ176 (ow174 hw)) rfl (hb B.2 o936.1)) ?_
    refine zal Y B o937 rfl ?_
    have F187 := (F177.keep K176q)
    have F188 := (F178.keep K176q (ninS (Nat.ne_of_lt (Nat.lt_of_lt_of_le (S0.ext E85).lt (Nat.le_of_eq g88.symm))) (ninS (Nat.ne_of_lt (Nat.lt_of_lt_of_le ((S0.ext E85).ext E88).lt P91_0)) (ninS (Nat.ne_of_lt (Nat.lt_of_lt_of_le ((S0.ext E85).ext E88).lt P91_1)) nin0))))
    have F189 := (F179.keep K176q (ninS (Nat.ne_of_lt (Nat.lt_of_lt_of_le (S0.ext E85).lt (Nat.le_of_eq g88.symm))) (ninS (Nat.ne_of_lt (Nat.lt_of_lt_of_le ((S0.ext E85).ext E88).lt P91_0)) (ninS (Nat.ne_of_lt (Nat.lt_of_lt_of_le ((S0.ext E85).ext E88).lt P91_1)) nin0))))
    have F190 := (F180.keep K176q (ninS (Nat.ne_of_lt (Nat.lt_of_lt_of_le (S3.ext E85).lt (Nat.le_of_eq g88.symm))) (ninS (Nat.ne_of_lt (Nat.lt_of_lt_of_le ((S3.ext E85).ext E88).lt P91_0)) (ninS (Nat.ne_of_lt (Nat.lt_of_lt_of_le ((S3.ext E85).ext E88).lt P91_1)) nin0))))
    have F191 := (((V85.ext E88).keep K91q (ninS (Nat.ne_of_lt (Nat.lt_of_lt_of_le V85.lt (Nat.le_of_eq g88.symm))) nin0)).keep K176q (ninS (Nat.ne_of_lt (Nat.lt_of_lt_of_le V85.lt (Nat.le_of_eq g88.symm))) (ninS (Nat.ne_of_lt (Nat.lt_of_lt_of_le (V85.ext E88).lt P91_0)) (ninS (Nat.ne_of_lt (Nat.lt_of_lt_of_le (V85.ext E88).lt P91_1)) nin0))))
    obtain ⟨cq186, kq186, q186a, q186b, q186c⟩ := isOf hZ176 rfl P176_1
    obtain ⟨_, _, ⟨T186, L186, k186, n186⟩, -, XX186, hSn186, hgn186, ⟨Lc186, hQ186, l186, y186, z186, RQ186⟩, st186⟩ := Y.virtualBackS B.1 (y := mn50) (z := mn50) hown176 (mvT hZ176 (ow175 hw)) (mvT hZ176 (ow176 hw)) (notFace_of_selects (args := #[]) (mvT hZ176 (ow178 hw))) (mvT hZ176 (ow178 hw)) (mvT hZ176 (ow177 hw)) (by decide) (backOfSH (W := 0) (rm_sampleN l Z a0 hw [] b88 b_91 v'_176 kv'_176 34 ((((((((((([] : List Int32) ++ HELP) ++ ([q0, q1] : List Int32)) ++ [(32 : Int32)]) ++ escL hs) ++ [(10 : Int32)]) ++ TYP) ++ ([q0, q1] : List Int32)) ++ [(32 : Int32)]) ++ wd) ++ [(10 : Int32)]) x t kt ([q0, q1] : List Int32) b85 k85 on ko G1 T176.heap n0 (Nat.le_trans Z0 K185.1) P176_1 P176_2 P176_3 P176_4 P176_5 P176_6 P176_7 P176_8 P176_9 F187 F188 F189 F190 F191 (rfl) ((Ne.symm (Nat.ne_of_lt (Nat.lt_of_lt_of_le F180.lt P176_0)))) (by decide) ((Nat.le_trans (Nat.le_trans Z0 K89.1) P91_0)) ((Nat.le_trans (Nat.le_trans Z0 K92.1) P176_0)) (by rw [hFL]; omega) OS1 OD1 O2 P5 O185) hZ176 (ow179 hw) (ow45 hw) (by decide) (by decide) (hEW hw) CR185.1) q186a q186c (g := (mkF m 202 #[iv i0, iv i1, iv i2, iv i3, iv i4, iv q0, iv q1, rv x, iv (Int32.ofNat hs.length), iv u0, iv u1, rv xh, iv kk, rv ta, rv y, rv b85, rv b88, un, un, un] [(.ref b85), (.long (7 : Int64)), (.ref b88)])) rfl (by rw [hml]; rfl) (Steps.refl _) (argsL := [(.long (7 : Int64)), (.ref b85)]) (rest := []) (lenOf opd_39 rfl) rfl (by show 2 * 0 + _ ≤ _; exact Nat.le_of_eq rfl) (hb B.2 o938.1) (fun _ _ => ⟨rfl, rfl, (by decide : 23 + 3 ≤ _), (by decide : 328 + 74 ≤ _)⟩)
    dsimp only [Pt.U, Pt.locs, Pt.cells, Pt.slots] at XX186 hSn186 hgn186 l186 y186 z186 st186 hQ186 RQ186
    subst l186 y186 z186
    obtain ⟨Y, hS186, hZ186, hown186⟩ := rebS hS176 (Nat.le_trans (Nat.le_refl _) (Nat.le_refl _)) XX186 hSn186 hgn186 hZ176 hown176
    obtain ⟨v'_186, kv'_186, rfl, N186q, K186q, P186_0, P186_1, P186_2, P186_3, P186_4, P186_5, P186_6⟩ := hQ186
    have N186 := Fr.app N176 N186q
    refine Go.tr st186 ?_
    have CR192 := CR185.trans RQ186
    have K192 := K185.trans K186q (allS (Or.inr (Nat.le_trans K89.1 P91_0)) (allS (Or.inr (Nat.le_trans K92.1 P176_0)) all0))
    have O192 := O185.keep K186q (allS (Nat.le_trans (Nat.le_trans Z0 K89.1) P91_0) (allS (Nat.le_trans (Nat.le_trans Z0 K92.1) P176_0) all0))
    refine zal Y B o939 rfl ?_
    have F194 := (P176_1.keep K186q)
    have F195 := (P176_2.keep K186q (ninS (Nat.ne_of_lt (Nat.lt_of_lt_of_le A88.lt P91_0)) (ninS (Nat.ne_of_lt (Nat.lt_of_lt_of_le P91_2.lt P176_0)) nin0)))
    refine zcv Y B hZ186 hown186 (ow205 hw) (ow206 hw) (notFace_of_selects (args := #[]) (mvT hZ186 (ow208 hw))) (ow208 hw) (ow207 hw) (ow45 hw) (ow209 hw) (by decide) F194 (rm_text2 l Z a0 hw [] b88 b_91 v'_186 kv'_186 (((((((((((((((([] : List Int32) ++ HELP) ++ ([q0, q1] : List Int32)) ++ [(32 : Int32)]) ++ escL hs) ++ [(10 : Int32)]) ++ TYP) ++ ([q0, q1] : List Int32)) ++ [(32 : Int32)]) ++ wd) ++ [(10 : Int32)]) ++ ([q0, q1] : List Int32)) ++ ([] : List Int32)) ++ [(32 : Int32)]) ++ [(55 : Int32)]) ++ [(10 : Int32)]) 70 G1 T186.heap n0 (Nat.le_trans Z0 K192.1) F194 F195 P186_1 P186_2 P186_3 P186_4 P186_5 P186_6 (by rw [hFN]; omega) (by decide) (by rw [hFN]; omega) O2 P5 O192) rfl hml opd_35 rfl o940 rfl rfl rfl rfl rfl fun _ T193 _ Y hQ => ?_
    obtain ⟨x_193, t_193, kt_193, rfl, N193q, K193q, P193_0, P193_1, P193_2, P193_3, P193_4, P193_5⟩ := hQ
    have N193 := Fr.app N186 N193q
    have R196 := CHr.keep K193q all0 CR192.1
    have CR196 := CR192.trans R196
    have K196 := K192.trans K193q all0
    have O196 := O192.keep K193q all0
    have Sf197 : Safe Z EL T186.vm T193.heap x_193 := Safe.keep K193q all0 CR192.1 (Safe.new P193_0)
    have Sf198 : Safe Z EL T186.vm T193.heap t_193 := Safe.keep K193q all0 CR192.1 (Safe.new P193_1)
    rw [TX_eq] at P193_5
    have F199 := ((((((Y0.ext E85).ext E88).keep K91q).keep K176q).keep K186q).keep K193q)
    have F200 := ((((((Y1.ext E85).ext E88).keep K91q (ninS (Nat.ne_of_lt (Nat.lt_of_lt_of_le (Y0.ext E85).lt (Nat.le_of_eq g88.symm))) nin0)).keep K176q (ninS (Nat.ne_of_lt (Nat.lt_of_lt_of_le (Y0.ext E85).lt (Nat.le_of_eq g88.symm))) (ninS (Nat.ne_of_lt (Nat.lt_of_lt_of_le ((Y0.ext E85).ext E88).lt P91_0)) (ninS (Nat.ne_of_lt (Nat.lt_of_lt_of_le ((Y0.ext E85).ext E88).lt P91_1)) nin0)))).keep K186q (ninS (Nat.ne_of_lt (Nat.lt_of_lt_of_le ((Y0.ext E85).ext E88).lt P91_0)) (ninS (Nat.ne_of_lt (Nat.lt_of_lt_of_le (((Y0.ext E85).ext E88).keep K91q).lt P176_0)) nin0))).keep K193q nin0)
    have F201 := ((((((Y2.ext E85).ext E88).keep K91q (ninS (Nat.ne_of_lt (Nat.lt_of_lt_of_le (Y0.ext E85).lt (Nat.le_of_eq g88.symm))) nin0)).keep K176q (ninS (Nat.ne_of_lt (Nat.lt_of_lt_of_le (Y0.ext E85).lt (Nat.le_of_eq g88.symm))) (ninS (Nat.ne_of_lt (Nat.lt_of_lt_of_le ((Y0.ext E85).ext E88).lt P91_0)) (ninS (Nat.ne_of_lt (Nat.lt_of_lt_of_le ((Y0.ext E85).ext E88).lt P91_1)) nin0)))).keep K186q (ninS (Nat.ne_of_lt (Nat.lt_of_lt_of_le ((Y0.ext E85).ext E88).lt P91_0)) (ninS (Nat.ne_of_lt (Nat.lt_of_lt_of_le (((Y0.ext E85).ext E88).keep K91q).lt P176_0)) nin0))).keep K193q nin0)
    have F202 := ((((((Y3.ext E85).ext E88).keep K91q (ninS (Nat.ne_of_lt (Nat.lt_of_lt_of_le (Y3.ext E85).lt (Nat.le_of_eq g88.symm))) nin0)).keep K176q (ninS (Nat.ne_of_lt (Nat.lt_of_lt_of_le (Y3.ext E85).lt (Nat.le_of_eq g88.symm))) (ninS (Nat.ne_of_lt (Nat.lt_of_lt_of_le ((Y3.ext E85).ext E88).lt P91_0)) (ninS (Nat.ne_of_lt (Nat.lt_of_lt_of_le ((Y3.ext E85).ext E88).lt P91_1)) nin0)))).keep K186q (ninS (Nat.ne_of_lt (Nat.lt_of_lt_of_le ((Y3.ext E85).ext E88).lt P91_0)) (ninS (Nat.ne_of_lt (Nat.lt_of_lt_of_le (((Y3.ext E85).ext E88).keep K91q (ninS (Nat.ne_of_lt (Nat.lt_of_lt_of_le (Y3.ext E85).lt (Nat.le_of_eq g88.symm))) nin0)).lt P176_0)) nin0))).keep K193q nin0)
    exact P210 _ _ _ _ _ q0 q1 x t kt u0 u1 xh th kh hs kk ta y yt yk wd b85 b88 x_193 t_193 kt_193 (Stand_grow Y (by decide) (by decide)) rfl N193 K196 O196 hS186 (Nat.le_trans (Nat.le_refl _) K193q.1) hZ186 hown186 (hh ▸ CR196) F199 F200 F201 F202 P193_2 P193_3 P193_4 P193_5 LQ0 LQ1 HS3 LHS HH2 HWS LWS
  · show Go p e below _ _ (mkF m 192 #[iv i0, iv i1, iv i2, iv i3, iv i4, iv q0, iv q1, rv x, iv (Int32.ofNat hs.length), iv u0, iv u1, rv xh, iv kk, rv ta, rv y, rv b85, rv b88, un, un, un] [(.ref xh), (.ref ta), (.ref x), (.ref b88)])
    have F204 := (((S0.ext E85).ext E88).keep K91q)
    have F205 := (((S1.ext E85).ext E88).keep K91q (ninS (Nat.ne_of_lt (Nat.lt_of_lt_of_le (S0.ext E85).lt (Nat.le_of_eq g88.symm))) nin0))
    have F206 := (((S2.ext E85).ext E88).keep K91q (ninS (Nat.ne_of_lt (Nat.lt_of_lt_of_le (S0.ext E85).lt (Nat.le_of_eq g88.symm))) nin0))
    have F207 := (((S3.ext E85).ext E88).keep K91q (ninS (Nat.ne_of_lt (Nat.lt_of_lt_of_le (S3.ext E85).lt (Nat.le_of_eq g88.symm))) nin0))
    have F208 := (((H0.ext E85).ext E88).keep K91q)
    have F209 := (((H1.ext E85).ext E88).keep K91q (ninS (Nat.ne_of_lt (Nat.lt_of_lt_of_le (H0.ext E85).lt (Nat.le_of_eq g88.symm))) nin0))
    have F210 := (((H2.ext E85).ext E88).keep K91q (ninS (Nat.ne_of_lt (Nat.lt_of_lt_of_le (H0.ext E85).lt (Nat.le_of_eq g88.symm))) nin0))
    have F211 := (((H3.ext E85).ext E88).keep K91q (ninS (Nat.ne_of_lt (Nat.lt_of_lt_of_le (H3.ext E85).lt (Nat.le_of_eq g88.symm))) nin0))
    obtain ⟨cq203, kq203, q203a, q203b, q203c⟩ := isOf hZ84 rfl P91_2
    obtain ⟨_, _, ⟨T203, L203, k203, n203⟩, -, XX203, hSn203, hgn203, ⟨Lc203, hQ203, l203, y203, z203, RQ203⟩, st203⟩ := Y.virtualBackS B.1 (y := mn48) (z := mn48) hown84 (mvT hZ84 (ow70 hw)) (mvT hZ84 (ow71 hw)) (notFace_of_selects (args := #[]) (mvT hZ84 (ow73 hw))) (mvT hZ84 (ow73 hw)) (mvT hZ84 (ow72 hw)) (by decide) (backOfSH (W := 0) (rm_fam0 l Z a0 hw [] b88 b_91 v_91 kv_91 x t kt ([q0, q1] : List Int32) ta wx wt wk wd xh th kh hs G1 G3 T91.heap n0 (Nat.le_trans Z0 K92.1) P91_2 P91_3 P91_4 P91_5 P91_6 P91_7 P91_8 P91_9 P91_10 F204 F205 F206 F207 W0 W1 W2 W3 W4 W5 F208 F209 F210 F211 (rfl) HH2 (LHS) (by omega) ((Ne.symm (Nat.ne_of_lt (Nat.lt_of_lt_of_le ((S3.ext E85).ext E88).lt P91_1)))) ((Ne.symm (Nat.ne_of_lt (Nat.lt_of_lt_of_le ((H3.ext E85).ext E88).lt P91_1)))) ((Nat.le_trans (Nat.le_trans Z0 K86.1) (Nat.le_of_eq g88.symm))) ((Nat.le_trans (Nat.le_trans Z0 K89.1) P91_0)) ((Nat.le_trans (Nat.le_trans Z0 K89.1) P91_1)) O2 P5 O92 O4 rG3) hZ84 (ow74 hw) (ow45 hw) (by decide) (by decide) (hEW hw) CR92.1) q203a q203c (g := (mkF m 192 #[iv i0, iv i1, iv i2, iv i3, iv i4, iv q0, iv q1, rv x, iv (Int32.ofNat hs.length), iv u0, iv u1, rv xh, iv kk, rv ta, rv y, rv b85, rv b88, un, un, un] [(.ref xh), (.ref ta), (.ref x), (.ref b88)])) rfl (by rw [hml]; rfl) (Steps.refl _) (argsL := [(.ref x), (.ref ta), (.ref xh)]) (rest := []) (lenOf opd_38 rfl) rfl (by show 2 * 0 + _ ≤ _; exact Nat.le_of_eq rfl) (hb B.2 o934.1) (fun _ _ => ⟨rfl, rfl, (by decide : 14 + 9 ≤ _), (by decide : 170 + 158 ≤ _)⟩)
    dsimp only [Pt.U, Pt.locs, Pt.cells, Pt.slots] at XX203 hSn203 hgn203 l203 y203 z203 st203 hQ203 RQ203
    subst l203 y203 z203
    obtain ⟨Y, hS203, hZ203, hown203⟩ := rebS hS84 (Nat.le_trans hk84 (Nat.le_trans (Nat.le_trans E85.1 E88.1) K91q.1)) XX203 hSn203 hgn203 hZ84 hown84
    obtain ⟨v'_203, kv'_203, rfl, N203q, K203q, P203_0, P203_1, P203_2, P203_3, P203_4, P203_5, P203_6, P203_7, P203_8, P203_9⟩ := hQ203
    have N203 := Fr.app N91 N203q
    refine Go.tr st203 ?_
    have CR212 := CR92.trans RQ203
    have K212 := K92.trans K203q (allS (Or.inr (Nat.le_trans K86.1 (Nat.le_of_eq g88.symm))) (allS (Or.inr (Nat.le_trans K89.1 P91_0)) (allS (Or.inr (Nat.le_trans K89.1 P91_1)) all0)))
    have O212 := O92.keep K203q (allS (Nat.le_trans (Nat.le_trans Z0 K86.1) (Nat.le_of_eq g88.symm)) (allS (Nat.le_trans (Nat.le_trans Z0 K89.1) P91_0) (allS (Nat.le_trans (Nat.le_trans Z0 K89.1) P91_1) all0)))
    refine zal Y B o935 rfl ?_
    refine Go.f3 (Y.ldc2Long B.1 hown203 (mvT hZ203 (ow174 hw)) rfl (hb B.2 o936.1)) ?_
    refine zal Y B o937 rfl ?_
    have F214 := (F204.keep K203q)
    have F215 := (F205.keep K203q (ninS (Nat.ne_of_lt (Nat.lt_of_lt_of_le (S0.ext E85).lt (Nat.le_of_eq g88.symm))) (ninS (Nat.ne_of_lt (Nat.lt_of_lt_of_le ((S0.ext E85).ext E88).lt P91_0)) (ninS (Nat.ne_of_lt (Nat.lt_of_lt_of_le ((S0.ext E85).ext E88).lt P91_1)) nin0))))
    have F216 := (F206.keep K203q (ninS (Nat.ne_of_lt (Nat.lt_of_lt_of_le (S0.ext E85).lt (Nat.le_of_eq g88.symm))) (ninS (Nat.ne_of_lt (Nat.lt_of_lt_of_le ((S0.ext E85).ext E88).lt P91_0)) (ninS (Nat.ne_of_lt (Nat.lt_of_lt_of_le ((S0.ext E85).ext E88).lt P91_1)) nin0))))
    have F217 := (F207.keep K203q (ninS (Nat.ne_of_lt (Nat.lt_of_lt_of_le (S3.ext E85).lt (Nat.le_of_eq g88.symm))) (ninS (Nat.ne_of_lt (Nat.lt_of_lt_of_le ((S3.ext E85).ext E88).lt P91_0)) (ninS (Nat.ne_of_lt (Nat.lt_of_lt_of_le ((S3.ext E85).ext E88).lt P91_1)) nin0))))
    have F218 := (((V85.ext E88).keep K91q (ninS (Nat.ne_of_lt (Nat.lt_of_lt_of_le V85.lt (Nat.le_of_eq g88.symm))) nin0)).keep K203q (ninS (Nat.ne_of_lt (Nat.lt_of_lt_of_le V85.lt (Nat.le_of_eq g88.symm))) (ninS (Nat.ne_of_lt (Nat.lt_of_lt_of_le (V85.ext E88).lt P91_0)) (ninS (Nat.ne_of_lt (Nat.lt_of_lt_of_le (V85.ext E88).lt P91_1)) nin0))))
    obtain ⟨cq213, kq213, q213a, q213b, q213c⟩ := isOf hZ203 rfl P203_1
    obtain ⟨_, _, ⟨T213, L213, k213, n213⟩, -, XX213, hSn213, hgn213, ⟨Lc213, hQ213, l213, y213, z213, RQ213⟩, st213⟩ := Y.virtualBackS B.1 (y := mn50) (z := mn50) hown203 (mvT hZ203 (ow175 hw)) (mvT hZ203 (ow176 hw)) (notFace_of_selects (args := #[]) (mvT hZ203 (ow178 hw))) (mvT hZ203 (ow178 hw)) (mvT hZ203 (ow177 hw)) (by decide) (backOfSH (W := 0) (rm_sampleJ l Z a0 hw [] b88 b_91 v'_203 kv'_203 34 ((((((((((([] : List Int32) ++ HELP) ++ ([q0, q1] : List Int32)) ++ [(32 : Int32)]) ++ escL hs) ++ [(10 : Int32)]) ++ TYP) ++ ([q0, q1] : List Int32)) ++ [(32 : Int32)]) ++ wd) ++ [(10 : Int32)]) x t kt ([q0, q1] : List Int32) b85 k85 on ko G1 T203.heap n0 (Nat.le_trans Z0 K212.1) P203_1 P203_2 P203_3 P203_4 P203_5 P203_6 P203_7 P203_8 P203_9 F214 F215 F216 F217 F218 (rfl) ((Ne.symm (Nat.ne_of_lt (Nat.lt_of_lt_of_le F207.lt P203_0)))) (by decide) ((Nat.le_trans (Nat.le_trans Z0 K89.1) P91_0)) ((Nat.le_trans (Nat.le_trans Z0 K92.1) P203_0)) (by rw [hFL]; omega) OS1 OD1 O2 P5 O212) hZ203 (ow179 hw) (ow45 hw) (by decide) (by decide) (hEW hw) CR212.1) q213a q213c (g := (mkF m 202 #[iv i0, iv i1, iv i2, iv i3, iv i4, iv q0, iv q1, rv x, iv (Int32.ofNat hs.length), iv u0, iv u1, rv xh, iv kk, rv ta, rv y, rv b85, rv b88, un, un, un] [(.ref b85), (.long (7 : Int64)), (.ref b88)])) rfl (by rw [hml]; rfl) (Steps.refl _) (argsL := [(.long (7 : Int64)), (.ref b85)]) (rest := []) (lenOf opd_39 rfl) rfl (by show 2 * 0 + _ ≤ _; exact Nat.le_of_eq rfl) (hb B.2 o938.1) (fun _ _ => ⟨rfl, rfl, (by decide : 23 + 3 ≤ _), (by decide : 328 + 74 ≤ _)⟩)
    dsimp only [Pt.U, Pt.locs, Pt.cells, Pt.slots] at XX213 hSn213 hgn213 l213 y213 z213 st213 hQ213 RQ213
    subst l213 y213 z213
    obtain ⟨Y, hS213, hZ213, hown213⟩ := rebS hS203 (Nat.le_trans (Nat.le_refl _) (Nat.le_refl _)) XX213 hSn213 hgn213 hZ203 hown203
    obtain ⟨v'_213, kv'_213, rfl, N213q, K213q, P213_0, P213_1, P213_2, P213_3, P213_4, P213_5, P213_6⟩ := hQ213
    have N213 := Fr.app N203 N213q
    refine Go.tr st213 ?_
    have CR219 := CR212.trans RQ213
    have K219 := K212.trans K213q (allS (Or.inr (Nat.le_trans K89.1 P91_0)) (allS (Or.inr (Nat.le_trans K92.1 P203_0)) all0))
    have O219 := O212.keep K213q (allS (Nat.le_trans (Nat.le_trans Z0 K89.1) P91_0) (allS (Nat.le_trans (Nat.le_trans Z0 K92.1) P203_0) all0))
    refine zal Y B o939 rfl ?_
    have F221 := (P203_1.keep K213q)
    have F222 := (P203_2.keep K213q (ninS (Nat.ne_of_lt (Nat.lt_of_lt_of_le A88.lt P91_0)) (ninS (Nat.ne_of_lt (Nat.lt_of_lt_of_le P91_2.lt P203_0)) nin0)))
    refine zcv Y B hZ213 hown213 (ow205 hw) (ow206 hw) (notFace_of_selects (args := #[]) (mvT hZ213 (ow208 hw))) (ow208 hw) (ow207 hw) (ow45 hw) (ow209 hw) (by decide) F221 (rm_text2 l Z a0 hw [] b88 b_91 v'_213 kv'_213 (((((((((((((((([] : List Int32) ++ HELP) ++ ([q0, q1] : List Int32)) ++ [(32 : Int32)]) ++ escL hs) ++ [(10 : Int32)]) ++ TYP) ++ ([q0, q1] : List Int32)) ++ [(32 : Int32)]) ++ wd) ++ [(10 : Int32)]) ++ ([q0, q1] : List Int32)) ++ ([] : List Int32)) ++ [(32 : Int32)]) ++ [(55 : Int32)]) ++ [(10 : Int32)]) 70 G1 T213.heap n0 (Nat.le_trans Z0 K219.1) F221 F222 P213_1 P213_2 P213_3 P213_4 P213_5 P213_6 (by rw [hFN]; omega) (by decide) (by rw [hFN]; omega) O2 P5 O219) rfl hml opd_35 rfl o940 rfl rfl rfl rfl rfl fun _ T220 _ Y hQ => ?_
    obtain ⟨x_220, t_220, kt_220, rfl, N220q, K220q, P220_0, P220_1, P220_2, P220_3, P220_4, P220_5⟩ := hQ
    have N220 := Fr.app N213 N220q
    have R223 := CHr.keep K220q all0 CR219.1
    have CR223 := CR219.trans R223
    have K223 := K219.trans K220q all0
    have O223 := O219.keep K220q all0
    have Sf224 : Safe Z EL T213.vm T220.heap x_220 := Safe.keep K220q all0 CR219.1 (Safe.new P220_0)
    have Sf225 : Safe Z EL T213.vm T220.heap t_220 := Safe.keep K220q all0 CR219.1 (Safe.new P220_1)
    rw [TX_eq] at P220_5
    have F226 := ((((((Y0.ext E85).ext E88).keep K91q).keep K203q).keep K213q).keep K220q)
    have F227 := ((((((Y1.ext E85).ext E88).keep K91q (ninS (Nat.ne_of_lt (Nat.lt_of_lt_of_le (Y0.ext E85).lt (Nat.le_of_eq g88.symm))) nin0)).keep K203q (ninS (Nat.ne_of_lt (Nat.lt_of_lt_of_le (Y0.ext E85).lt (Nat.le_of_eq g88.symm))) (ninS (Nat.ne_of_lt (Nat.lt_of_lt_of_le ((Y0.ext E85).ext E88).lt P91_0)) (ninS (Nat.ne_of_lt (Nat.lt_of_lt_of_le ((Y0.ext E85).ext E88).lt P91_1)) nin0)))).keep K213q (ninS (Nat.ne_of_lt (Nat.lt_of_lt_of_le ((Y0.ext E85).ext E88).lt P91_0)) (ninS (Nat.ne_of_lt (Nat.lt_of_lt_of_le (((Y0.ext E85).ext E88).keep K91q).lt P203_0)) nin0))).keep K220q nin0)
    have F228 := ((((((Y2.ext E85).ext E88).keep K91q (ninS (Nat.ne_of_lt (Nat.lt_of_lt_of_le (Y0.ext E85).lt (Nat.le_of_eq g88.symm))) nin0)).keep K203q (ninS (Nat.ne_of_lt (Nat.lt_of_lt_of_le (Y0.ext E85).lt (Nat.le_of_eq g88.symm))) (ninS (Nat.ne_of_lt (Nat.lt_of_lt_of_le ((Y0.ext E85).ext E88).lt P91_0)) (ninS (Nat.ne_of_lt (Nat.lt_of_lt_of_le ((Y0.ext E85).ext E88).lt P91_1)) nin0)))).keep K213q (ninS (Nat.ne_of_lt (Nat.lt_of_lt_of_le ((Y0.ext E85).ext E88).lt P91_0)) (ninS (Nat.ne_of_lt (Nat.lt_of_lt_of_le (((Y0.ext E85).ext E88).keep K91q).lt P203_0)) nin0))).keep K220q nin0)
    have F229 := ((((((Y3.ext E85).ext E88).keep K91q (ninS (Nat.ne_of_lt (Nat.lt_of_lt_of_le (Y3.ext E85).lt (Nat.le_of_eq g88.symm))) nin0)).keep K203q (ninS (Nat.ne_of_lt (Nat.lt_of_lt_of_le (Y3.ext E85).lt (Nat.le_of_eq g88.symm))) (ninS (Nat.ne_of_lt (Nat.lt_of_lt_of_le ((Y3.ext E85).ext E88).lt P91_0)) (ninS (Nat.ne_of_lt (Nat.lt_of_lt_of_le ((Y3.ext E85).ext E88).lt P91_1)) nin0)))).keep K213q (ninS (Nat.ne_of_lt (Nat.lt_of_lt_of_le ((Y3.ext E85).ext E88).lt P91_0)) (ninS (Nat.ne_of_lt (Nat.lt_of_lt_of_le (((Y3.ext E85).ext E88).keep K91q (ninS (Nat.ne_of_lt (Nat.lt_of_lt_of_le (Y3.ext E85).lt (Nat.le_of_eq g88.symm))) nin0)).lt P203_0)) nin0))).keep K220q nin0)
    exact P210 _ _ _ _ _ q0 q1 x t kt u0 u1 xh th kh hs kk ta y yt yk wd b85 b88 x_220 t_220 kt_220 (Stand_grow Y (by decide) (by decide)) rfl N220 K223 O223 hS213 (Nat.le_trans (Nat.le_refl _) K220q.1) hZ213 hown213 (hh ▸ CR223) F226 F227 F228 F229 P220_2 P220_3 P220_4 P220_5 LQ0 LQ1 HS3 LHS HH2 HWS LWS
  · show Go p e below _ _ (mkF m 192 #[iv i0, iv i1, iv i2, iv i3, iv i4, iv q0, iv q1, rv x, iv (Int32.ofNat hs.length), iv u0, iv u1, rv xh, iv kk, rv ta, rv y, rv b85, rv b88, un, un, un] [(.ref xh), (.ref ta), (.ref x), (.ref b88)])
    have F231 := (((S0.ext E85).ext E88).keep K91q)
    have F232 := (((S1.ext E85).ext E88).keep K91q (ninS (Nat.ne_of_lt (Nat.lt_of_lt_of_le (S0.ext E85).lt (Nat.le_of_eq g88.symm))) nin0))
    have F233 := (((S2.ext E85).ext E88).keep K91q (ninS (Nat.ne_of_lt (Nat.lt_of_lt_of_le (S0.ext E85).lt (Nat.le_of_eq g88.symm))) nin0))
    have F234 := (((S3.ext E85).ext E88).keep K91q (ninS (Nat.ne_of_lt (Nat.lt_of_lt_of_le (S3.ext E85).lt (Nat.le_of_eq g88.symm))) nin0))
    have F235 := (((H0.ext E85).ext E88).keep K91q)
    have F236 := (((H1.ext E85).ext E88).keep K91q (ninS (Nat.ne_of_lt (Nat.lt_of_lt_of_le (H0.ext E85).lt (Nat.le_of_eq g88.symm))) nin0))
    have F237 := (((H2.ext E85).ext E88).keep K91q (ninS (Nat.ne_of_lt (Nat.lt_of_lt_of_le (H0.ext E85).lt (Nat.le_of_eq g88.symm))) nin0))
    have F238 := (((H3.ext E85).ext E88).keep K91q (ninS (Nat.ne_of_lt (Nat.lt_of_lt_of_le (H3.ext E85).lt (Nat.le_of_eq g88.symm))) nin0))
    obtain ⟨cq230, kq230, q230a, q230b, q230c⟩ := isOf hZ84 rfl P91_2
    obtain ⟨_, _, ⟨T230, L230, k230, n230⟩, -, XX230, hSn230, hgn230, ⟨Lc230, hQ230, l230, y230, z230, RQ230⟩, st230⟩ := Y.virtualBackS B.1 (y := mn48) (z := mn48) hown84 (mvT hZ84 (ow70 hw)) (mvT hZ84 (ow71 hw)) (notFace_of_selects (args := #[]) (mvT hZ84 (ow73 hw))) (mvT hZ84 (ow73 hw)) (mvT hZ84 (ow72 hw)) (by decide) (backOfSH (W := 0) (rm_fam0 l Z a0 hw [] b88 b_91 v_91 kv_91 x t kt ([q0, q1] : List Int32) ta wx wt wk wd xh th kh hs G1 G3 T91.heap n0 (Nat.le_trans Z0 K92.1) P91_2 P91_3 P91_4 P91_5 P91_6 P91_7 P91_8 P91_9 P91_10 F231 F232 F233 F234 W0 W1 W2 W3 W4 W5 F235 F236 F237 F238 (rfl) HH2 (LHS) (by omega) ((Ne.symm (Nat.ne_of_lt (Nat.lt_of_lt_of_le ((S3.ext E85).ext E88).lt P91_1)))) ((Ne.symm (Nat.ne_of_lt (Nat.lt_of_lt_of_le ((H3.ext E85).ext E88).lt P91_1)))) ((Nat.le_trans (Nat.le_trans Z0 K86.1) (Nat.le_of_eq g88.symm))) ((Nat.le_trans (Nat.le_trans Z0 K89.1) P91_0)) ((Nat.le_trans (Nat.le_trans Z0 K89.1) P91_1)) O2 P5 O92 O4 rG3) hZ84 (ow74 hw) (ow45 hw) (by decide) (by decide) (hEW hw) CR92.1) q230a q230c (g := (mkF m 192 #[iv i0, iv i1, iv i2, iv i3, iv i4, iv q0, iv q1, rv x, iv (Int32.ofNat hs.length), iv u0, iv u1, rv xh, iv kk, rv ta, rv y, rv b85, rv b88, un, un, un] [(.ref xh), (.ref ta), (.ref x), (.ref b88)])) rfl (by rw [hml]; rfl) (Steps.refl _) (argsL := [(.ref x), (.ref ta), (.ref xh)]) (rest := []) (lenOf opd_38 rfl) rfl (by show 2 * 0 + _ ≤ _; exact Nat.le_of_eq rfl) (hb B.2 o934.1) (fun _ _ => ⟨rfl, rfl, (by decide : 14 + 9 ≤ _), (by decide : 170 + 158 ≤ _)⟩)
    dsimp only [Pt.U, Pt.locs, Pt.cells, Pt.slots] at XX230 hSn230 hgn230 l230 y230 z230 st230 hQ230 RQ230
    subst l230 y230 z230
    obtain ⟨Y, hS230, hZ230, hown230⟩ := rebS hS84 (Nat.le_trans hk84 (Nat.le_trans (Nat.le_trans E85.1 E88.1) K91q.1)) XX230 hSn230 hgn230 hZ84 hown84
    obtain ⟨v'_230, kv'_230, rfl, N230q, K230q, P230_0, P230_1, P230_2, P230_3, P230_4, P230_5, P230_6, P230_7, P230_8, P230_9⟩ := hQ230
    have N230 := Fr.app N91 N230q
    refine Go.tr st230 ?_
    have CR239 := CR92.trans RQ230
    have K239 := K92.trans K230q (allS (Or.inr (Nat.le_trans K86.1 (Nat.le_of_eq g88.symm))) (allS (Or.inr (Nat.le_trans K89.1 P91_0)) (allS (Or.inr (Nat.le_trans K89.1 P91_1)) all0)))
    have O239 := O92.keep K230q (allS (Nat.le_trans (Nat.le_trans Z0 K86.1) (Nat.le_of_eq g88.symm)) (allS (Nat.le_trans (Nat.le_trans Z0 K89.1) P91_0) (allS (Nat.le_trans (Nat.le_trans Z0 K89.1) P91_1) all0)))
    refine zal Y B o935 rfl ?_
    refine Go.f3 (Y.ldc2Long B.1 hown230 (mvT hZ230 (ow174 hw)) rfl (hb B.2 o936.1)) ?_
    refine zal Y B o937 rfl ?_
    have F241 := (F231.keep K230q)
    have F242 := (F232.keep K230q (ninS (Nat.ne_of_lt (Nat.lt_of_lt_of_le (S0.ext E85).lt (Nat.le_of_eq g88.symm))) (ninS (Nat.ne_of_lt (Nat.lt_of_lt_of_le ((S0.ext E85).ext E88).lt P91_0)) (ninS (Nat.ne_of_lt (Nat.lt_of_lt_of_le ((S0.ext E85).ext E88).lt P91_1)) nin0))))
    have F243 := (F233.keep K230q (ninS (Nat.ne_of_lt (Nat.lt_of_lt_of_le (S0.ext E85).lt (Nat.le_of_eq g88.symm))) (ninS (Nat.ne_of_lt (Nat.lt_of_lt_of_le ((S0.ext E85).ext E88).lt P91_0)) (ninS (Nat.ne_of_lt (Nat.lt_of_lt_of_le ((S0.ext E85).ext E88).lt P91_1)) nin0))))
    have F244 := (F234.keep K230q (ninS (Nat.ne_of_lt (Nat.lt_of_lt_of_le (S3.ext E85).lt (Nat.le_of_eq g88.symm))) (ninS (Nat.ne_of_lt (Nat.lt_of_lt_of_le ((S3.ext E85).ext E88).lt P91_0)) (ninS (Nat.ne_of_lt (Nat.lt_of_lt_of_le ((S3.ext E85).ext E88).lt P91_1)) nin0))))
    have F245 := (((V85.ext E88).keep K91q (ninS (Nat.ne_of_lt (Nat.lt_of_lt_of_le V85.lt (Nat.le_of_eq g88.symm))) nin0)).keep K230q (ninS (Nat.ne_of_lt (Nat.lt_of_lt_of_le V85.lt (Nat.le_of_eq g88.symm))) (ninS (Nat.ne_of_lt (Nat.lt_of_lt_of_le (V85.ext E88).lt P91_0)) (ninS (Nat.ne_of_lt (Nat.lt_of_lt_of_le (V85.ext E88).lt P91_1)) nin0))))
    obtain ⟨cq240, kq240, q240a, q240b, q240c⟩ := isOf hZ230 rfl P230_1
    obtain ⟨_, _, ⟨T240, L240, k240, n240⟩, -, XX240, hSn240, hgn240, ⟨Lc240, hQ240, l240, y240, z240, RQ240⟩, st240⟩ := Y.virtualBackS B.1 (y := mn50) (z := mn50) hown230 (mvT hZ230 (ow175 hw)) (mvT hZ230 (ow176 hw)) (notFace_of_selects (args := #[]) (mvT hZ230 (ow178 hw))) (mvT hZ230 (ow178 hw)) (mvT hZ230 (ow177 hw)) (by decide) (backOfSH (W := 0) (rm_sampleC l Z a0 hw [] b88 b_91 v'_230 kv'_230 34 ((((((((((([] : List Int32) ++ HELP) ++ ([q0, q1] : List Int32)) ++ [(32 : Int32)]) ++ escL hs) ++ [(10 : Int32)]) ++ TYP) ++ ([q0, q1] : List Int32)) ++ [(32 : Int32)]) ++ wd) ++ [(10 : Int32)]) x t kt ([q0, q1] : List Int32) b85 k85 on ko G1 T230.heap n0 (Nat.le_trans Z0 K239.1) P230_1 P230_2 P230_3 P230_4 P230_5 P230_6 P230_7 P230_8 P230_9 F241 F242 F243 F244 F245 (rfl) ((Ne.symm (Nat.ne_of_lt (Nat.lt_of_lt_of_le F234.lt P230_0)))) (by decide) ((Nat.le_trans (Nat.le_trans Z0 K89.1) P91_0)) ((Nat.le_trans (Nat.le_trans Z0 K92.1) P230_0)) (by rw [hFL]; omega) OS1 OD1 O2 P5 O239) hZ230 (ow179 hw) (ow45 hw) (by decide) (by decide) (hEW hw) CR239.1) q240a q240c (g := (mkF m 202 #[iv i0, iv i1, iv i2, iv i3, iv i4, iv q0, iv q1, rv x, iv (Int32.ofNat hs.length), iv u0, iv u1, rv xh, iv kk, rv ta, rv y, rv b85, rv b88, un, un, un] [(.ref b85), (.long (7 : Int64)), (.ref b88)])) rfl (by rw [hml]; rfl) (Steps.refl _) (argsL := [(.long (7 : Int64)), (.ref b85)]) (rest := []) (lenOf opd_39 rfl) rfl (by show 2 * 0 + _ ≤ _; exact Nat.le_of_eq rfl) (hb B.2 o938.1) (fun _ _ => ⟨rfl, rfl, (by decide : 23 + 3 ≤ _), (by decide : 328 + 74 ≤ _)⟩)
    dsimp only [Pt.U, Pt.locs, Pt.cells, Pt.slots] at XX240 hSn240 hgn240 l240 y240 z240 st240 hQ240 RQ240
    subst l240 y240 z240
    obtain ⟨Y, hS240, hZ240, hown240⟩ := rebS hS230 (Nat.le_trans (Nat.le_refl _) (Nat.le_refl _)) XX240 hSn240 hgn240 hZ230 hown230
    obtain ⟨v'_240, kv'_240, rfl, N240q, K240q, P240_0, P240_1, P240_2, P240_3, P240_4, P240_5, P240_6⟩ := hQ240
    have N240 := Fr.app N230 N240q
    refine Go.tr st240 ?_
    have CR246 := CR239.trans RQ240
    have K246 := K239.trans K240q (allS (Or.inr (Nat.le_trans K89.1 P91_0)) (allS (Or.inr (Nat.le_trans K92.1 P230_0)) all0))
    have O246 := O239.keep K240q (allS (Nat.le_trans (Nat.le_trans Z0 K89.1) P91_0) (allS (Nat.le_trans (Nat.le_trans Z0 K92.1) P230_0) all0))
    refine zal Y B o939 rfl ?_
    have F248 := (P230_1.keep K240q)
    have F249 := (P230_2.keep K240q (ninS (Nat.ne_of_lt (Nat.lt_of_lt_of_le A88.lt P91_0)) (ninS (Nat.ne_of_lt (Nat.lt_of_lt_of_le P91_2.lt P230_0)) nin0)))
    refine zcv Y B hZ240 hown240 (ow205 hw) (ow206 hw) (notFace_of_selects (args := #[]) (mvT hZ240 (ow208 hw))) (ow208 hw) (ow207 hw) (ow45 hw) (ow209 hw) (by decide) F248 (rm_text2 l Z a0 hw [] b88 b_91 v'_240 kv'_240 (((((((((((((((([] : List Int32) ++ HELP) ++ ([q0, q1] : List Int32)) ++ [(32 : Int32)]) ++ escL hs) ++ [(10 : Int32)]) ++ TYP) ++ ([q0, q1] : List Int32)) ++ [(32 : Int32)]) ++ wd) ++ [(10 : Int32)]) ++ ([q0, q1] : List Int32)) ++ ([] : List Int32)) ++ [(32 : Int32)]) ++ [(55 : Int32)]) ++ [(10 : Int32)]) 70 G1 T240.heap n0 (Nat.le_trans Z0 K246.1) F248 F249 P240_1 P240_2 P240_3 P240_4 P240_5 P240_6 (by rw [hFN]; omega) (by decide) (by rw [hFN]; omega) O2 P5 O246) rfl hml opd_35 rfl o940 rfl rfl rfl rfl rfl fun _ T247 _ Y hQ => ?_
    obtain ⟨x_247, t_247, kt_247, rfl, N247q, K247q, P247_0, P247_1, P247_2, P247_3, P247_4, P247_5⟩ := hQ
    have N247 := Fr.app N240 N247q
    have R250 := CHr.keep K247q all0 CR246.1
    have CR250 := CR246.trans R250
    have K250 := K246.trans K247q all0
    have O250 := O246.keep K247q all0
    have Sf251 : Safe Z EL T240.vm T247.heap x_247 := Safe.keep K247q all0 CR246.1 (Safe.new P247_0)
    have Sf252 : Safe Z EL T240.vm T247.heap t_247 := Safe.keep K247q all0 CR246.1 (Safe.new P247_1)
    rw [TX_eq] at P247_5
    have F253 := ((((((Y0.ext E85).ext E88).keep K91q).keep K230q).keep K240q).keep K247q)
    have F254 := ((((((Y1.ext E85).ext E88).keep K91q (ninS (Nat.ne_of_lt (Nat.lt_of_lt_of_le (Y0.ext E85).lt (Nat.le_of_eq g88.symm))) nin0)).keep K230q (ninS (Nat.ne_of_lt (Nat.lt_of_lt_of_le (Y0.ext E85).lt (Nat.le_of_eq g88.symm))) (ninS (Nat.ne_of_lt (Nat.lt_of_lt_of_le ((Y0.ext E85).ext E88).lt P91_0)) (ninS (Nat.ne_of_lt (Nat.lt_of_lt_of_le ((Y0.ext E85).ext E88).lt P91_1)) nin0)))).keep K240q (ninS (Nat.ne_of_lt (Nat.lt_of_lt_of_le ((Y0.ext E85).ext E88).lt P91_0)) (ninS (Nat.ne_of_lt (Nat.lt_of_lt_of_le (((Y0.ext E85).ext E88).keep K91q).lt P230_0)) nin0))).keep K247q nin0)
    have F255 := ((((((Y2.ext E85).ext E88).keep K91q (ninS (Nat.ne_of_lt (Nat.lt_of_lt_of_le (Y0.ext E85).lt (Nat.le_of_eq g88.symm))) nin0)).keep K230q (ninS (Nat.ne_of_lt (Nat.lt_of_lt_of_le (Y0.ext E85).lt (Nat.le_of_eq g88.symm))) (ninS (Nat.ne_of_lt (Nat.lt_of_lt_of_le ((Y0.ext E85).ext E88).lt P91_0)) (ninS (Nat.ne_of_lt (Nat.lt_of_lt_of_le ((Y0.ext E85).ext E88).lt P91_1)) nin0)))).keep K240q (ninS (Nat.ne_of_lt (Nat.lt_of_lt_of_le ((Y0.ext E85).ext E88).lt P91_0)) (ninS (Nat.ne_of_lt (Nat.lt_of_lt_of_le (((Y0.ext E85).ext E88).keep K91q).lt P230_0)) nin0))).keep K247q nin0)
    have F256 := ((((((Y3.ext E85).ext E88).keep K91q (ninS (Nat.ne_of_lt (Nat.lt_of_lt_of_le (Y3.ext E85).lt (Nat.le_of_eq g88.symm))) nin0)).keep K230q (ninS (Nat.ne_of_lt (Nat.lt_of_lt_of_le (Y3.ext E85).lt (Nat.le_of_eq g88.symm))) (ninS (Nat.ne_of_lt (Nat.lt_of_lt_of_le ((Y3.ext E85).ext E88).lt P91_0)) (ninS (Nat.ne_of_lt (Nat.lt_of_lt_of_le ((Y3.ext E85).ext E88).lt P91_1)) nin0)))).keep K240q (ninS (Nat.ne_of_lt (Nat.lt_of_lt_of_le ((Y3.ext E85).ext E88).lt P91_0)) (ninS (Nat.ne_of_lt (Nat.lt_of_lt_of_le (((Y3.ext E85).ext E88).keep K91q (ninS (Nat.ne_of_lt (Nat.lt_of_lt_of_le (Y3.ext E85).lt (Nat.le_of_eq g88.symm))) nin0)).lt P230_0)) nin0))).keep K247q nin0)
    exact P210 _ _ _ _ _ q0 q1 x t kt u0 u1 xh th kh hs kk ta y yt yk wd b85 b88 x_247 t_247 kt_247 (Stand_grow Y (by decide) (by decide)) rfl N247 K250 O250 hS240 (Nat.le_trans (Nat.le_refl _) K247q.1) hZ240 hown240 (hh ▸ CR250) F253 F254 F255 F256 P247_2 P247_3 P247_4 P247_5 LQ0 LQ1 HS3 LHS HH2 HWS LWS
  · show Go p e below _ _ (mkF m 192 #[iv i0, iv i1, iv i2, iv i3, iv i4, iv q0, iv q1, rv x, iv (Int32.ofNat hs.length), iv u0, iv u1, rv xh, iv kk, rv ta, rv y, rv b85, rv b88, un, un, un] [(.ref xh), (.ref ta), (.ref x), (.ref b88)])
    have F258 := (((S0.ext E85).ext E88).keep K91q)
    have F259 := (((S1.ext E85).ext E88).keep K91q (ninS (Nat.ne_of_lt (Nat.lt_of_lt_of_le (S0.ext E85).lt (Nat.le_of_eq g88.symm))) nin0))
    have F260 := (((S2.ext E85).ext E88).keep K91q (ninS (Nat.ne_of_lt (Nat.lt_of_lt_of_le (S0.ext E85).lt (Nat.le_of_eq g88.symm))) nin0))
    have F261 := (((S3.ext E85).ext E88).keep K91q (ninS (Nat.ne_of_lt (Nat.lt_of_lt_of_le (S3.ext E85).lt (Nat.le_of_eq g88.symm))) nin0))
    have F262 := (((H0.ext E85).ext E88).keep K91q)
    have F263 := (((H1.ext E85).ext E88).keep K91q (ninS (Nat.ne_of_lt (Nat.lt_of_lt_of_le (H0.ext E85).lt (Nat.le_of_eq g88.symm))) nin0))
    have F264 := (((H2.ext E85).ext E88).keep K91q (ninS (Nat.ne_of_lt (Nat.lt_of_lt_of_le (H0.ext E85).lt (Nat.le_of_eq g88.symm))) nin0))
    have F265 := (((H3.ext E85).ext E88).keep K91q (ninS (Nat.ne_of_lt (Nat.lt_of_lt_of_le (H3.ext E85).lt (Nat.le_of_eq g88.symm))) nin0))
    obtain ⟨cq257, kq257, q257a, q257b, q257c⟩ := isOf hZ84 rfl P91_2
    obtain ⟨_, _, ⟨T257, L257, k257, n257⟩, -, XX257, hSn257, hgn257, ⟨Lc257, hQ257, l257, y257, z257, RQ257⟩, st257⟩ := Y.virtualBackS B.1 (y := mn48) (z := mn48) hown84 (mvT hZ84 (ow70 hw)) (mvT hZ84 (ow71 hw)) (notFace_of_selects (args := #[]) (mvT hZ84 (ow73 hw))) (mvT hZ84 (ow73 hw)) (mvT hZ84 (ow72 hw)) (by decide) (backOfSH (W := 0) (rm_fam0 l Z a0 hw [] b88 b_91 v_91 kv_91 x t kt ([q0, q1] : List Int32) ta wx wt wk wd xh th kh hs G1 G3 T91.heap n0 (Nat.le_trans Z0 K92.1) P91_2 P91_3 P91_4 P91_5 P91_6 P91_7 P91_8 P91_9 P91_10 F258 F259 F260 F261 W0 W1 W2 W3 W4 W5 F262 F263 F264 F265 (rfl) HH2 (LHS) (by omega) ((Ne.symm (Nat.ne_of_lt (Nat.lt_of_lt_of_le ((S3.ext E85).ext E88).lt P91_1)))) ((Ne.symm (Nat.ne_of_lt (Nat.lt_of_lt_of_le ((H3.ext E85).ext E88).lt P91_1)))) ((Nat.le_trans (Nat.le_trans Z0 K86.1) (Nat.le_of_eq g88.symm))) ((Nat.le_trans (Nat.le_trans Z0 K89.1) P91_0)) ((Nat.le_trans (Nat.le_trans Z0 K89.1) P91_1)) O2 P5 O92 O4 rG3) hZ84 (ow74 hw) (ow45 hw) (by decide) (by decide) (hEW hw) CR92.1) q257a q257c (g := (mkF m 192 #[iv i0, iv i1, iv i2, iv i3, iv i4, iv q0, iv q1, rv x, iv (Int32.ofNat hs.length), iv u0, iv u1, rv xh, iv kk, rv ta, rv y, rv b85, rv b88, un, un, un] [(.ref xh), (.ref ta), (.ref x), (.ref b88)])) rfl (by rw [hml]; rfl) (Steps.refl _) (argsL := [(.ref x), (.ref ta), (.ref xh)]) (rest := []) (lenOf opd_38 rfl) rfl (by show 2 * 0 + _ ≤ _; exact Nat.le_of_eq rfl) (hb B.2 o934.1) (fun _ _ => ⟨rfl, rfl, (by decide : 14 + 9 ≤ _), (by decide : 170 + 158 ≤ _)⟩)
    dsimp only [Pt.U, Pt.locs, Pt.cells, Pt.slots] at XX257 hSn257 hgn257 l257 y257 z257 st257 hQ257 RQ257
    subst l257 y257 z257
    obtain ⟨Y, hS257, hZ257, hown257⟩ := rebS hS84 (Nat.le_trans hk84 (Nat.le_trans (Nat.le_trans E85.1 E88.1) K91q.1)) XX257 hSn257 hgn257 hZ84 hown84
    obtain ⟨v'_257, kv'_257, rfl, N257q, K257q, P257_0, P257_1, P257_2, P257_3, P257_4, P257_5, P257_6, P257_7, P257_8, P257_9⟩ := hQ257
    have N257 := Fr.app N91 N257q
    refine Go.tr st257 ?_
    have CR266 := CR92.trans RQ257
    have K266 := K92.trans K257q (allS (Or.inr (Nat.le_trans K86.1 (Nat.le_of_eq g88.symm))) (allS (Or.inr (Nat.le_trans K89.1 P91_0)) (allS (Or.inr (Nat.le_trans K89.1 P91_1)) all0)))
    have O266 := O92.keep K257q (allS (Nat.le_trans (Nat.le_trans Z0 K86.1) (Nat.le_of_eq g88.symm)) (allS (Nat.le_trans (Nat.le_trans Z0 K89.1) P91_0) (allS (Nat.le_trans (Nat.le_trans Z0 K89.1) P91_1) all0)))
    refine zal Y B o935 rfl ?_
    refine Go.f3 (Y.ldc2Long B.1 hown257 (mvT hZ257 (ow174 hw)) rfl (hb B.2 o936.1)) ?_
    refine zal Y B o937 rfl ?_
    have F268 := (F258.keep K257q)
    have F269 := (F259.keep K257q (ninS (Nat.ne_of_lt (Nat.lt_of_lt_of_le (S0.ext E85).lt (Nat.le_of_eq g88.symm))) (ninS (Nat.ne_of_lt (Nat.lt_of_lt_of_le ((S0.ext E85).ext E88).lt P91_0)) (ninS (Nat.ne_of_lt (Nat.lt_of_lt_of_le ((S0.ext E85).ext E88).lt P91_1)) nin0))))
    have F270 := (F260.keep K257q (ninS (Nat.ne_of_lt (Nat.lt_of_lt_of_le (S0.ext E85).lt (Nat.le_of_eq g88.symm))) (ninS (Nat.ne_of_lt (Nat.lt_of_lt_of_le ((S0.ext E85).ext E88).lt P91_0)) (ninS (Nat.ne_of_lt (Nat.lt_of_lt_of_le ((S0.ext E85).ext E88).lt P91_1)) nin0))))
    have F271 := (F261.keep K257q (ninS (Nat.ne_of_lt (Nat.lt_of_lt_of_le (S3.ext E85).lt (Nat.le_of_eq g88.symm))) (ninS (Nat.ne_of_lt (Nat.lt_of_lt_of_le ((S3.ext E85).ext E88).lt P91_0)) (ninS (Nat.ne_of_lt (Nat.lt_of_lt_of_le ((S3.ext E85).ext E88).lt P91_1)) nin0))))
    have F272 := (((V85.ext E88).keep K91q (ninS (Nat.ne_of_lt (Nat.lt_of_lt_of_le V85.lt (Nat.le_of_eq g88.symm))) nin0)).keep K257q (ninS (Nat.ne_of_lt (Nat.lt_of_lt_of_le V85.lt (Nat.le_of_eq g88.symm))) (ninS (Nat.ne_of_lt (Nat.lt_of_lt_of_le (V85.ext E88).lt P91_0)) (ninS (Nat.ne_of_lt (Nat.lt_of_lt_of_le (V85.ext E88).lt P91_1)) nin0))))
    obtain ⟨cq267, kq267, q267a, q267b, q267c⟩ := isOf hZ257 rfl P257_1
    obtain ⟨_, _, ⟨T267, L267, k267, n267⟩, -, XX267, hSn267, hgn267, ⟨Lc267, hQ267, l267, y267, z267, RQ267⟩, st267⟩ := Y.virtualBackS B.1 (y := mn50) (z := mn50) hown257 (mvT hZ257 (ow175 hw)) (mvT hZ257 (ow176 hw)) (notFace_of_selects (args := #[]) (mvT hZ257 (ow178 hw))) (mvT hZ257 (ow178 hw)) (mvT hZ257 (ow177 hw)) (by decide) (backOfSH (W := 0) (rm_sampleB l Z a0 hw [] b88 b_91 v'_257 kv'_257 34 ((((((((((([] : List Int32) ++ HELP) ++ ([q0, q1] : List Int32)) ++ [(32 : Int32)]) ++ escL hs) ++ [(10 : Int32)]) ++ TYP) ++ ([q0, q1] : List Int32)) ++ [(32 : Int32)]) ++ wd) ++ [(10 : Int32)]) x t kt ([q0, q1] : List Int32) b85 k85 on ko G1 T257.heap n0 (Nat.le_trans Z0 K266.1) P257_1 P257_2 P257_3 P257_4 P257_5 P257_6 P257_7 P257_8 P257_9 F268 F269 F270 F271 F272 (rfl) ((Ne.symm (Nat.ne_of_lt (Nat.lt_of_lt_of_le F261.lt P257_0)))) (by decide) ((Nat.le_trans (Nat.le_trans Z0 K89.1) P91_0)) ((Nat.le_trans (Nat.le_trans Z0 K92.1) P257_0)) (by rw [hFL]; omega) OS1 OD1 O2 P5 O266) hZ257 (ow179 hw) (ow45 hw) (by decide) (by decide) (hEW hw) CR266.1) q267a q267c (g := (mkF m 202 #[iv i0, iv i1, iv i2, iv i3, iv i4, iv q0, iv q1, rv x, iv (Int32.ofNat hs.length), iv u0, iv u1, rv xh, iv kk, rv ta, rv y, rv b85, rv b88, un, un, un] [(.ref b85), (.long (7 : Int64)), (.ref b88)])) rfl (by rw [hml]; rfl) (Steps.refl _) (argsL := [(.long (7 : Int64)), (.ref b85)]) (rest := []) (lenOf opd_39 rfl) rfl (by show 2 * 0 + _ ≤ _; exact Nat.le_of_eq rfl) (hb B.2 o938.1) (fun _ _ => ⟨rfl, rfl, (by decide : 23 + 3 ≤ _), (by decide : 328 + 74 ≤ _)⟩)
    dsimp only [Pt.U, Pt.locs, Pt.cells, Pt.slots] at XX267 hSn267 hgn267 l267 y267 z267 st267 hQ267 RQ267
    subst l267 y267 z267
    obtain ⟨Y, hS267, hZ267, hown267⟩ := rebS hS257 (Nat.le_trans (Nat.le_refl _) (Nat.le_refl _)) XX267 hSn267 hgn267 hZ257 hown257
    obtain ⟨v'_267, kv'_267, rfl, N267q, K267q, P267_0, P267_1, P267_2, P267_3, P267_4, P267_5, P267_6⟩ := hQ267
    have N267 := Fr.app N257 N267q
    refine Go.tr st267 ?_
    have CR273 := CR266.trans RQ267
    have K273 := K266.trans K267q (allS (Or.inr (Nat.le_trans K89.1 P91_0)) (allS (Or.inr (Nat.le_trans K92.1 P257_0)) all0))
    have O273 := O266.keep K267q (allS (Nat.le_trans (Nat.le_trans Z0 K89.1) P91_0) (allS (Nat.le_trans (Nat.le_trans Z0 K92.1) P257_0) all0))
    refine zal Y B o939 rfl ?_
    have F275 := (P257_1.keep K267q)
    have F276 := (P257_2.keep K267q (ninS (Nat.ne_of_lt (Nat.lt_of_lt_of_le A88.lt P91_0)) (ninS (Nat.ne_of_lt (Nat.lt_of_lt_of_le P91_2.lt P257_0)) nin0)))
    refine zcv Y B hZ267 hown267 (ow205 hw) (ow206 hw) (notFace_of_selects (args := #[]) (mvT hZ267 (ow208 hw))) (ow208 hw) (ow207 hw) (ow45 hw) (ow209 hw) (by decide) F275 (rm_text2 l Z a0 hw [] b88 b_91 v'_267 kv'_267 (((((((((((((((([] : List Int32) ++ HELP) ++ ([q0, q1] : List Int32)) ++ [(32 : Int32)]) ++ escL hs) ++ [(10 : Int32)]) ++ TYP) ++ ([q0, q1] : List Int32)) ++ [(32 : Int32)]) ++ wd) ++ [(10 : Int32)]) ++ ([q0, q1] : List Int32)) ++ ([] : List Int32)) ++ [(32 : Int32)]) ++ [(55 : Int32)]) ++ [(10 : Int32)]) 70 G1 T267.heap n0 (Nat.le_trans Z0 K273.1) F275 F276 P267_1 P267_2 P267_3 P267_4 P267_5 P267_6 (by rw [hFN]; omega) (by decide) (by rw [hFN]; omega) O2 P5 O273) rfl hml opd_35 rfl o940 rfl rfl rfl rfl rfl fun _ T274 _ Y hQ => ?_
    obtain ⟨x_274, t_274, kt_274, rfl, N274q, K274q, P274_0, P274_1, P274_2, P274_3, P274_4, P274_5⟩ := hQ
    have N274 := Fr.app N267 N274q
    have R277 := CHr.keep K274q all0 CR273.1
    have CR277 := CR273.trans R277
    have K277 := K273.trans K274q all0
    have O277 := O273.keep K274q all0
    have Sf278 : Safe Z EL T267.vm T274.heap x_274 := Safe.keep K274q all0 CR273.1 (Safe.new P274_0)
    have Sf279 : Safe Z EL T267.vm T274.heap t_274 := Safe.keep K274q all0 CR273.1 (Safe.new P274_1)
    rw [TX_eq] at P274_5
    have F280 := ((((((Y0.ext E85).ext E88).keep K91q).keep K257q).keep K267q).keep K274q)
    have F281 := ((((((Y1.ext E85).ext E88).keep K91q (ninS (Nat.ne_of_lt (Nat.lt_of_lt_of_le (Y0.ext E85).lt (Nat.le_of_eq g88.symm))) nin0)).keep K257q (ninS (Nat.ne_of_lt (Nat.lt_of_lt_of_le (Y0.ext E85).lt (Nat.le_of_eq g88.symm))) (ninS (Nat.ne_of_lt (Nat.lt_of_lt_of_le ((Y0.ext E85).ext E88).lt P91_0)) (ninS (Nat.ne_of_lt (Nat.lt_of_lt_of_le ((Y0.ext E85).ext E88).lt P91_1)) nin0)))).keep K267q (ninS (Nat.ne_of_lt (Nat.lt_of_lt_of_le ((Y0.ext E85).ext E88).lt P91_0)) (ninS (Nat.ne_of_lt (Nat.lt_of_lt_of_le (((Y0.ext E85).ext E88).keep K91q).lt P257_0)) nin0))).keep K274q nin0)
    have F282 := ((((((Y2.ext E85).ext E88).keep K91q (ninS (Nat.ne_of_lt (Nat.lt_of_lt_of_le (Y0.ext E85).lt (Nat.le_of_eq g88.symm))) nin0)).keep K257q (ninS (Nat.ne_of_lt (Nat.lt_of_lt_of_le (Y0.ext E85).lt (Nat.le_of_eq g88.symm))) (ninS (Nat.ne_of_lt (Nat.lt_of_lt_of_le ((Y0.ext E85).ext E88).lt P91_0)) (ninS (Nat.ne_of_lt (Nat.lt_of_lt_of_le ((Y0.ext E85).ext E88).lt P91_1)) nin0)))).keep K267q (ninS (Nat.ne_of_lt (Nat.lt_of_lt_of_le ((Y0.ext E85).ext E88).lt P91_0)) (ninS (Nat.ne_of_lt (Nat.lt_of_lt_of_le (((Y0.ext E85).ext E88).keep K91q).lt P257_0)) nin0))).keep K274q nin0)
    have F283 := ((((((Y3.ext E85).ext E88).keep K91q (ninS (Nat.ne_of_lt (Nat.lt_of_lt_of_le (Y3.ext E85).lt (Nat.le_of_eq g88.symm))) nin0)).keep K257q (ninS (Nat.ne_of_lt (Nat.lt_of_lt_of_le (Y3.ext E85).lt (Nat.le_of_eq g88.symm))) (ninS (Nat.ne_of_lt (Nat.lt_of_lt_of_le ((Y3.ext E85).ext E88).lt P91_0)) (ninS (Nat.ne_of_lt (Nat.lt_of_lt_of_le ((Y3.ext E85).ext E88).lt P91_1)) nin0)))).keep K267q (ninS (Nat.ne_of_lt (Nat.lt_of_lt_of_le ((Y3.ext E85).ext E88).lt P91_0)) (ninS (Nat.ne_of_lt (Nat.lt_of_lt_of_le (((Y3.ext E85).ext E88).keep K91q (ninS (Nat.ne_of_lt (Nat.lt_of_lt_of_le (Y3.ext E85).lt (Nat.le_of_eq g88.symm))) nin0)).lt P257_0)) nin0))).keep K274q nin0)
    exact P210 _ _ _ _ _ q0 q1 x t kt u0 u1 xh th kh hs kk ta y yt yk wd b85 b88 x_274 t_274 kt_274 (Stand_grow Y (by decide) (by decide)) rfl N274 K277 O277 hS267 (Nat.le_trans (Nat.le_refl _) K274q.1) hZ267 hown267 (hh ▸ CR277) F280 F281 F282 F283 P274_2 P274_3 P274_4 P274_5 LQ0 LQ1 HS3 LHS HH2 HWS LWS
theorem pc_law_P107 (l : Launch) (Z : State) (a0 : Array Value) (hw : HW a0 Z) (i0 i1 i2 i3 i4 : Int32) (ty0 wx0 wt0 : Addr) (wk0 : ClassId) (ty1 wx1 wt1 : Addr) (wk1 : ClassId) (ty2 wx2 wt2 : Addr) (wk2 : ClassId) (on : Addr) (ko : ClassId) (G1 : Int32) (G3 : Value) (h0 : Heap) (n0 : Nat) (Z0 : n0 ≤ h0.size) (OT0 : Sta Z Z.heap ss8 "COUNTER" ss17 (.ref ty0)) (V0_0 : Exa Z Z.heap ty0 ss8) (V0_1 : Fld Z Z.heap ty0 ss8 "word" ss9 (.ref wx0)) (V0_2 : Exa Z Z.heap wx0 ss0) (V0_3 : Fld Z Z.heap wx0 ss0 ss2 "B" (.int 0)) (V0_4 : Fld Z Z.heap wx0 ss0 ss3 "[B" (.ref wt0)) (V0_5 : Arv Z Z.heap wt0 wk0 .byte (Int32.ofNat CNT.length) (B8 CNT) (.int 0)) (OT1 : Sta Z Z.heap ss8 "GAUGE" ss17 (.ref ty1)) (V1_0 : Exa Z Z.heap ty1 ss8) (V1_1 : Fld Z Z.heap ty1 ss8 "word" ss9 (.ref wx1)) (V1_2 : Exa Z Z.heap wx1 ss0) (V1_3 : Fld Z Z.heap wx1 ss0 ss2 "B" (.int 0)) (V1_4 : Fld Z Z.heap wx1 ss0 ss3 "[B" (.ref wt1)) (V1_5 : Arv Z Z.heap wt1 wk1 .byte (Int32.ofNat GAU.length) (B8 GAU) (.int 0)) (OT2 : Sta Z Z.heap ss8 "HISTOGRAM" ss17 (.ref ty2)) (V2_0 : Exa Z Z.heap ty2 ss8) (V2_1 : Fld Z Z.heap ty2 ss8 "word" ss9 (.ref wx2)) (V2_2 : Exa Z Z.heap wx2 ss0) (V2_3 : Fld Z Z.heap wx2 ss0 ss2 "B" (.int 0)) (V2_4 : Fld Z Z.heap wx2 ss0 ss3 "[B" (.ref wt2)) (V2_5 : Arv Z Z.heap wt2 wk2 .byte (Int32.ofNat HIS.length) (B8 HIS) (.int 0)) (OS1 : Sta Z Z.heap ss14 ss15 "[B" (.ref on)) (OD1 : Arv Z Z.heap on ko .byte (100 : Int32) ONES (.int 0)) (O2 : Sta Z Z.heap ss0 ss7 "Z" (.int G1)) (P5 : ¬ (G1 = (0 : Int32))) (X00 : Old Z n0 h0) (O4 : Sta Z Z.heap ss10 ss12 ss13 G3) (rG3 : G3.isRef = true) {p : Program} {e : Env} {s : State} {m : MethodId} {below : List Frame} {meth : Method} {c : Code} (hZ : Z.Warmed39 s.vm) (hh : s.heap = h0) (hCH : CHv Z EL s.vm h0) (B : HB p c code) (hml : c.maxLocals = 20) (hret : meth.sig.returnType = ret) (hlk : meth.locks = false) (hown : s.vm.findClass ss16 = some m.cls) (hnm : meth.name = (x).name) :
    ∀ (T284 : State) (LL284 : List Loc) (hP284 : Heap) (vm284 : Vm) (kk284 : Nat) (q0 : Int32) (q1 : Int32) (x : Addr) (t : Addr) (kt : ClassId) (u0 : Int32) (u1 : Int32) (xh : Addr) (th : Addr) (kh : ClassId) (hs : List Int32), Stand p l e room_1 (s.setVm vm284) m #[(.int i0), (.int i1), (.int i2), (.int i3), (.int i4)] below meth c T284 LL284 8 80 → T284.heap = hP284 → Fr n0 LL284 → Keep h0 hP284 [] → Old Z n0 hP284 → s.Since vm284 kk284 → kk284 ≤ hP284.size → Z.Warmed39 (s.setVm vm284).vm → (s.setVm vm284).vm.findClass ss16 = some m.cls → CHr Z EL s.vm h0 vm284 hP284 → (Exa Z hP284 x ss0) → (Fld Z hP284 x ss0 ss2 "B" (.int 0)) → (Fld Z hP284 x ss0 ss3 "[B" (.ref t)) → (Arv Z hP284 t kt .byte (Int32.ofNat ([q0, q1] : List Int32).length) (B8 ([q0, q1] : List Int32)) (.int 0)) → (Exa Z hP284 xh ss0) → (Fld Z hP284 xh ss0 ss2 "B" (.int 0)) → (Fld Z hP284 xh ss0 ss3 "[B" (.ref th)) → (Arv Z hP284 th kh .byte (Int32.ofNat hs.length) (B8 hs) (.int 0)) → (¬ q0 < 0 ∧ ¬ (255 : Int32) < q0) → (¬ q1 < 0 ∧ ¬ (255 : Int32) < q1) → (hs = [] ∨ hs = [u0] ∨ hs = [u0, u1]) → (Lo hs) → (hs.length ≤ 2) → Go p e below (OutW Z EL s (Q_law Z i0 i1 i2 i3 i4 ty0 wx0 wt0 wk0 ty1 wx1 wt1 wk1 ty2 wx2 wt2 wk2 on ko G1 G3 h0 n0) room_1.cells room_1.slots) T284 (mkF m 107 #[iv i0, iv i1, iv i2, iv i3, iv i4, iv q0, iv q1, rv x, iv (Int32.ofNat hs.length), iv u0, iv u1, rv xh, un, un, un, un, un, un, un, un] []) := by
  have CR0 : CHr Z EL s.vm s.heap s.vm h0 := by rw [hh]; exact CHr.refl hCH
  have P169 := @pc_law_P169 l Z a0 hw i0 i1 i2 i3 i4 ty0 wx0 wt0 wk0 ty1 wx1 wt1 wk1 ty2 wx2 wt2 wk2 on ko G1 G3 h0 n0 Z0 OT0 V0_0 V0_1 V0_2 V0_3 V0_4 V0_5 OT1 V1_0 V1_1 V1_2 V1_3 V1_4 V1_5 OT2 V2_0 V2_1 V2_2 V2_3 V2_4 V2_5 OS1 OD1 O2 P5 X00 O4 rG3 p e s m below meth c hZ hh hCH B hml hret hlk hown hnm
  intro T284 LL284 hP284 vm284 kk284 q0 q1 x t kt u0 u1 xh th kh hs Y e284 N284 KP284 OP284 hS284 hk284 hZ284 hown284 RP284 S0 S1 S2 S3 H0 H1 H2 H3 LQ0 LQ1 HS3 LHS HH2
  have CRP284 := CR0.trans RP284
  refine zil Y B o941 rfl ?_
  refine Go.f2 (Y.ldcInt B.1 hown284 (mvT hZ284 (ow30 hw)) rfl (hb B.2 o942.1)) ?_
  refine ziand Y B o943 rfl <| zc3 Y B o944 ?_
  refine Go.by (fun _ kq_ => iremM Y B.1 rfl (hb B.2 o945.1) rfl (by decide) kq_) ?_
  show Go p e below _ _ (mkF m 114 #[iv i0, iv i1, iv i2, iv i3, iv i4, iv q0, iv q1, rv x, iv (Int32.ofNat hs.length), iv u0, iv u1, rv xh, un, un, un, un, un, un, un, un] [(.int ((i4 &&& (2147483647 : Int32)) % (3 : Int32)))])
  rcases (rem3c i4 : ((i4 &&& (2147483647 : Int32)) % (3 : Int32)) = (0 : Int32) ∨ ((i4 &&& (2147483647 : Int32)) % (3 : Int32)) = (1 : Int32) ∨ ((i4 &&& (2147483647 : Int32)) % (3 : Int32)) = (2 : Int32)) with hk285 | hk285 | hk285
  · rw [hk285]
    refine zis Y B o946 (s12 rfl) <| zil Y B o947 rfl <| zN Y B o948 (by decide) ?_
    refine zgs Y B hZ284 hown284 (ow38 hw) e284 (OT0.ext OP284.2) o949 fun _ Y e286 => ?_
    refine zgo Y B j62 <| zas Y B o950 (s13 rfl) rfl <| zil Y B o951 rfl <| zN Y B o952 (by decide) ?_
    obtain ⟨sa287, T287, h287, k287, sb287, kb287, Y, e287, E287, hS287, hk287, hZ287, hown287, PE287, PC287, PV287, PA287, la287, lb287, R287, LT287, SF287, st287⟩ := ldcCH Y B.1 hZ284 hown284 (ow41 hw) (ostr hw) e286 hS284 (Nat.le_trans hk284 (Nat.le_refl _)) (hEW hw) (List.mem_of_getElem? (i := 6) rfl) CRP284.1 (vs := ((([99, 111, 117, 110, 116, 101, 114] : List Int32).map (fun c => c.toInt8.toInt32)).map Value.int)) (z := (7 : Int32)) (by decide +kernel) (by decide) (by decide) (g := (mkF m 149 #[iv i0, iv i1, iv i2, iv i3, iv i4, iv q0, iv q1, rv x, iv (Int32.ofNat hs.length), iv u0, iv u1, rv xh, iv 0, rv ty0, un, un, un, un, un, un] [])) rfl (hb B.2 o953.1) (n := 28) (by decide) (by decide) (by decide) (by decide)
    refine Go.by st287 ?_
    have CR288 := CRP284.trans R287
    have K288 := KP284.ext E287
    have O288 := OP284.ext E287
    show Go p e below _ _ (mkF m 151 #[iv i0, iv i1, iv i2, iv i3, iv i4, iv q0, iv q1, rv x, iv (Int32.ofNat hs.length), iv u0, iv u1, rv xh, iv 0, rv ty0, un, un, un, un, un, un] [(.ref sa287)])
    refine zgo Y B j63 <| zas Y B o954 (s14 rfl) rfl ?_
    have F289 := (S0.ext E287)
    have F290 := (S1.ext E287)
    have F291 := (S2.ext E287)
    have F292 := (S3.ext E287)
    have F293 := (H0.ext E287)
    have F294 := (H1.ext E287)
    have F295 := (H2.ext E287)
    have F296 := (H3.ext E287)
    exact P169 _ _ _ _ _ q0 q1 x t kt u0 u1 xh th kh hs (0 : Int32) ty0 sa287 sb287 kb287 CNT wx0 wt0 wk0 (Stand_grow Y (by decide) (by decide)) e287 N284 K288 O288 hS287 (Nat.le_trans hk287 (Nat.le_refl _)) hZ287 hown287 (hh ▸ CR288) F289 F290 F291 F292 F293 F294 F295 F296 PE287 PC287 PV287 PA287 LQ0 LQ1 HS3 LHS HH2 (by decide) (by decide) (V0_0) (V0_1) (V0_2) (V0_3) (V0_4) (V0_5)
  · rw [hk285]
    refine zis Y B o946 (s12 rfl) <| zil Y B o947 rfl <| zY Y B j64 (by decide) ?_
    refine zil Y B o955 rfl <| zc1 Y B o956 <| zCN Y B o957 (by decide) ?_
    refine zgs Y B hZ284 hown284 (ow292 hw) e284 (OT1.ext OP284.2) o958 fun _ Y e297 => ?_
    refine zgo Y B j65 <| zas Y B o950 (s13 rfl) rfl <| zil Y B o951 rfl <| zY Y B j66 (by decide) ?_
    refine zil Y B o959 rfl <| zc1 Y B o960 <| zCN Y B o961 (by decide) ?_
    obtain ⟨sa298, T298, h298, k298, sb298, kb298, Y, e298, E298, hS298, hk298, hZ298, hown298, PE298, PC298, PV298, PA298, la298, lb298, R298, LT298, SF298, st298⟩ := ldcCH Y B.1 hZ284 hown284 (ow294 hw) (ostr hw) e297 hS284 (Nat.le_trans hk284 (Nat.le_refl _)) (hEW hw) (List.mem_of_getElem? (i := 7) rfl) CRP284.1 (vs := ((([103, 97, 117, 103, 101] : List Int32).map (fun c => c.toInt8.toInt32)).map Value.int)) (z := (5 : Int32)) (by decide +kernel) (by decide) (by decide) (g := (mkF m 160 #[iv i0, iv i1, iv i2, iv i3, iv i4, iv q0, iv q1, rv x, iv (Int32.ofNat hs.length), iv u0, iv u1, rv xh, iv 1, rv ty1, un, un, un, un, un, un] [])) rfl (hb B.2 o962.1) (n := 20) (by decide) (by decide) (by decide) (by decide)
    refine Go.by st298 ?_
    have CR299 := CRP284.trans R298
    have K299 := KP284.ext E298
    have O299 := OP284.ext E298
    show Go p e below _ _ (mkF m 162 #[iv i0, iv i1, iv i2, iv i3, iv i4, iv q0, iv q1, rv x, iv (Int32.ofNat hs.length), iv u0, iv u1, rv xh, iv 1, rv ty1, un, un, un, un, un, un] [(.ref sa298)])
    refine zgo Y B j67 <| zas Y B o954 (s14 rfl) rfl ?_
    have F300 := (S0.ext E298)
    have F301 := (S1.ext E298)
    have F302 := (S2.ext E298)
    have F303 := (S3.ext E298)
    have F304 := (H0.ext E298)
    have F305 := (H1.ext E298)
    have F306 := (H2.ext E298)
    have F307 := (H3.ext E298)
    exact P169 _ _ _ _ _ q0 q1 x t kt u0 u1 xh th kh hs (1 : Int32) ty1 sa298 sb298 kb298 GAU wx1 wt1 wk1 (Stand_grow Y (by decide) (by decide)) e298 N284 K299 O299 hS298 (Nat.le_trans hk298 (Nat.le_refl _)) hZ298 hown298 (hh ▸ CR299) F300 F301 F302 F303 F304 F305 F306 F307 PE298 PC298 PV298 PA298 LQ0 LQ1 HS3 LHS HH2 (by decide) (by decide) (V1_0) (V1_1) (V1_2) (V1_3) (V1_4) (V1_5)
  · rw [hk285]
    refine zis Y B o946 (s12 rfl) <| zil Y B o947 rfl <| zY Y B j64 (by decide) ?_
    refine zil Y B o955 rfl <| zc1 Y B o956 <| zCY Y B j68 (by decide) ?_
    refine zgs Y B hZ284 hown284 (ow303 hw) e284 (OT2.ext OP284.2) o963 fun _ Y e308 => ?_
    refine zas Y B o950 (s13 rfl) rfl <| zil Y B o951 rfl <| zY Y B j66 (by decide) ?_
    refine zil Y B o959 rfl <| zc1 Y B o960 <| zCY Y B j69 (by decide) ?_
    obtain ⟨sa309, T309, h309, k309, sb309, kb309, Y, e309, E309, hS309, hk309, hZ309, hown309, PE309, PC309, PV309, PA309, la309, lb309, R309, LT309, SF309, st309⟩ := ldcCH Y B.1 hZ284 hown284 (ow305 hw) (ostr hw) e308 hS284 (Nat.le_trans hk284 (Nat.le_refl _)) (hEW hw) (List.mem_of_getElem? (i := 8) rfl) CRP284.1 (vs := ((([104, 105, 115, 116, 111, 103, 114, 97, 109] : List Int32).map (fun c => c.toInt8.toInt32)).map Value.int)) (z := (9 : Int32)) (by decide +kernel) (by decide) (by decide) (g := (mkF m 165 #[iv i0, iv i1, iv i2, iv i3, iv i4, iv q0, iv q1, rv x, iv (Int32.ofNat hs.length), iv u0, iv u1, rv xh, iv 2, rv ty2, un, un, un, un, un, un] [])) rfl (hb B.2 o964.1) (n := 36) (by decide) (by decide) (by decide) (by decide)
    refine Go.by st309 ?_
    have CR310 := CRP284.trans R309
    have K310 := KP284.ext E309
    have O310 := OP284.ext E309
    show Go p e below _ _ (mkF m 167 #[iv i0, iv i1, iv i2, iv i3, iv i4, iv q0, iv q1, rv x, iv (Int32.ofNat hs.length), iv u0, iv u1, rv xh, iv 2, rv ty2, un, un, un, un, un, un] [(.ref sa309)])
    refine zas Y B o954 (s14 rfl) rfl ?_
    have F311 := (S0.ext E309)
    have F312 := (S1.ext E309)
    have F313 := (S2.ext E309)
    have F314 := (S3.ext E309)
    have F315 := (H0.ext E309)
    have F316 := (H1.ext E309)
    have F317 := (H2.ext E309)
    have F318 := (H3.ext E309)
    exact P169 _ _ _ _ _ q0 q1 x t kt u0 u1 xh th kh hs (2 : Int32) ty2 sa309 sb309 kb309 HIS wx2 wt2 wk2 (Stand_grow Y (by decide) (by decide)) e309 N284 K310 O310 hS309 (Nat.le_trans hk309 (Nat.le_refl _)) hZ309 hown309 (hh ▸ CR310) F311 F312 F313 F314 F315 F316 F317 F318 PE309 PC309 PV309 PA309 LQ0 LQ1 HS3 LHS HH2 (by decide) (by decide) (V2_0) (V2_1) (V2_2) (V2_3) (V2_4) (V2_5)
theorem rm_law (l : Launch) (Z : State) (a0 : Array Value) (hw : HW a0 Z) (ws : List Jvm.Cond) (i0 i1 i2 i3 i4 : Int32) (ty0 wx0 wt0 : Addr) (wk0 : ClassId) (ty1 wx1 wt1 : Addr) (wk1 : ClassId) (ty2 wx2 wt2 : Addr) (wk2 : ClassId) (on : Addr) (ko : ClassId) (G1 : Int32) (G3 : Value) (h0 : Heap) (n0 : Nat) (Z0 : n0 ≤ h0.size) (OT0 : Sta Z Z.heap ss8 "COUNTER" ss17 (.ref ty0)) (V0_0 : Exa Z Z.heap ty0 ss8) (V0_1 : Fld Z Z.heap ty0 ss8 "word" ss9 (.ref wx0)) (V0_2 : Exa Z Z.heap wx0 ss0) (V0_3 : Fld Z Z.heap wx0 ss0 ss2 "B" (.int 0)) (V0_4 : Fld Z Z.heap wx0 ss0 ss3 "[B" (.ref wt0)) (V0_5 : Arv Z Z.heap wt0 wk0 .byte (Int32.ofNat CNT.length) (B8 CNT) (.int 0)) (OT1 : Sta Z Z.heap ss8 "GAUGE" ss17 (.ref ty1)) (V1_0 : Exa Z Z.heap ty1 ss8) (V1_1 : Fld Z Z.heap ty1 ss8 "word" ss9 (.ref wx1)) (V1_2 : Exa Z Z.heap wx1 ss0) (V1_3 : Fld Z Z.heap wx1 ss0 ss2 "B" (.int 0)) (V1_4 : Fld Z Z.heap wx1 ss0 ss3 "[B" (.ref wt1)) (V1_5 : Arv Z Z.heap wt1 wk1 .byte (Int32.ofNat GAU.length) (B8 GAU) (.int 0)) (OT2 : Sta Z Z.heap ss8 "HISTOGRAM" ss17 (.ref ty2)) (V2_0 : Exa Z Z.heap ty2 ss8) (V2_1 : Fld Z Z.heap ty2 ss8 "word" ss9 (.ref wx2)) (V2_2 : Exa Z Z.heap wx2 ss0) (V2_3 : Fld Z Z.heap wx2 ss0 ss2 "B" (.int 0)) (V2_4 : Fld Z Z.heap wx2 ss0 ss3 "[B" (.ref wt2)) (V2_5 : Arv Z Z.heap wt2 wk2 .byte (Int32.ofNat HIS.length) (B8 HIS) (.int 0)) (OS1 : Sta Z Z.heap ss14 ss15 "[B" (.ref on)) (OD1 : Arv Z Z.heap on ko .byte (100 : Int32) ONES (.int 0)) (O2 : Sta Z Z.heap ss0 ss7 "Z" (.int G1)) (P5 : ¬ (G1 = (0 : Int32))) (X00 : Old Z n0 h0) (O4 : Sta Z Z.heap ss10 ss12 ss13 G3) (rG3 : G3.isRef = true) :
    MetFree l x (head1 (Jvm.Cond.code x code maxLocals ret :: ws) room_1) (fun ar_ U => ar_ = #[(.int i0), (.int i1), (.int i2), (.int i3), (.int i4)] ∧ Z.Warmed39 U.vm ∧ U.heap = h0 ∧ CHv Z EL U.vm h0) (fun _ _ _ _ _ => True) (fun _ U o_ U' => OutW Z EL U (Q_law Z i0 i1 i2 i3 i4 ty0 wx0 wt0 wk0 ty1 wx1 wt1 wk1 ty2 wx2 wt2 wk2 on ko G1 G3 h0 n0) room_1.cells room_1.slots o_ U') := by
  refine MetFree.of_bodySF (plainFor_of_name opn_8) hisR ?_
  intro p e s m args below meth c s₁ Bd hml0 hP hK
  obtain ⟨rfl, hZ, hh, hCH⟩ := hP
  have B : HB p c _ := ⟨Bd.exec, Bd.bytes⟩
  have hml : c.maxLocals = 20 := hml0
  have hret := Bd.returns
  have hlk : meth.locks = false := BodyLoose.notSynchronized Bd
  have hown : s.vm.findClass ss16 = some m.cls := findClass_of_methodNamed Bd.named
  have hnm := (name_of_methodNamed Bd.named Bd.method).1
  have Y : Stand p l e room_1 (s.setVm s.vm) m #[(.int i0), (.int i1), (.int i2), (.int i3), (.int i4)] below meth c s₁ [] 0 0 := Stand.of_body Bd
  have e0 : s₁.heap = h0 := by rw [← hh, Bd.state]; rfl
  have N0 := Fr.nil n0
  have hS0 : s.Since s.vm h0.size := (State.WarmedH.refl s).since _
  have CR0 : CHr Z EL s.vm s.heap s.vm h0 := by rw [hh]; exact CHr.refl hCH
  have K0 : Keep h0 h0 [] := Keep.refl h0 _
  show Go p e below (OutW Z EL s (Q_law Z i0 i1 i2 i3 i4 ty0 wx0 wt0 wk0 ty1 wx1 wt1 wk1 ty2 wx2 wt2 wk2 on ko G1 G3 h0 n0) room_1.cells room_1.slots) s₁ (entryFrame m #[(.int i0), (.int i1), (.int i2), (.int i3), (.int i4)] maxLocals)
  refine Go.cast (oef_law m i0 i1 i2 i3 i4) ?_
  show Go p e below _ _ (mkF m 0 #[iv i0, iv i1, iv i2, iv i3, iv i4, un, un, un, un, un, un, un, un, un, un, un, un, un, un, un] [])
  have P361 := @pc_law_P361 l Z a0 hw i0 i1 i2 i3 i4 ty0 wx0 wt0 wk0 ty1 wx1 wt1 wk1 ty2 wx2 wt2 wk2 on ko G1 G3 h0 n0 Z0 OT0 V0_0 V0_1 V0_2 V0_3 V0_4 V0_5 OT1 V1_0 V1_1 V1_2 V1_3 V1_4 V1_5 OT2 V2_0 V2_1 V2_2 V2_3 V2_4 V2_5 OS1 OD1 O2 P5 X00 O4 rG3 p e s m below meth c hZ hh hCH B hml hret hlk hown hnm
  have P210 := @pc_law_P210 l Z a0 hw i0 i1 i2 i3 i4 ty0 wx0 wt0 wk0 ty1 wx1 wt1 wk1 ty2 wx2 wt2 wk2 on ko G1 G3 h0 n0 Z0 OT0 V0_0 V0_1 V0_2 V0_3 V0_4 V0_5 OT1 V1_0 V1_1 V1_2 V1_3 V1_4 V1_5 OT2 V2_0 V2_1 V2_2 V2_3 V2_4 V2_5 OS1 OD1 O2 P5 X00 O4 rG3 p e s m below meth c hZ hh hCH B hml hret hlk hown hnm
  have P169 := @pc_law_P169 l Z a0 hw i0 i1 i2 i3 i4 ty0 wx0 wt0 wk0 ty1 wx1 wt1 wk1 ty2 wx2 wt2 wk2 on ko G1 G3 h0 n0 Z0 OT0 V0_0 V0_1 V0_2 V0_3 V0_4 V0_5 OT1 V1_0 V1_1 V1_2 V1_3 V1_4 V1_5 OT2 V2_0 V2_1 V2_2 V2_3 V2_4 V2_5 OS1 OD1 O2 P5 X00 O4 rG3 p e s m below meth c hZ hh hCH B hml hret hlk hown hnm
  have P107 := @pc_law_P107 l Z a0 hw i0 i1 i2 i3 i4 ty0 wx0 wt0 wk0 ty1 wx1 wt1 wk1 ty2 wx2 wt2 wk2 on ko G1 G3 h0 n0 Z0 OT0 V0_0 V0_1 V0_2 V0_3 V0_4 V0_5 OT1 V1_0 V1_1 V1_2 V1_3 V1_4 V1_5 OT2 V2_0 V2_1 V2_2 V2_3 V2_4 V2_5 OS1 OD1 O2 P5 X00 O4 rG3 p e s m below meth c hZ hh hCH B hml hret hlk hown hnm
  refine zilN Y B o965 rfl <| zsp Y B o966 (v := 255) rfl <| ziand Y B o967 rfl <| zi2c Y B o968 rfl <| zis Y B o969 (s5 rfl) <| zilN Y B o970 rfl <| zbp Y B o971 (v := 8) rfl <| ziushr Y B o972 rfl ?_
  refine zsp Y B o973 (v := 255) rfl <| ziand Y B o974 rfl <| zi2c Y B o975 rfl <| zis Y B o976 (s6 rfl) ?_
  have r0 := ch_lo i0
  have e_0 := (lo_back r0).2
  have r1 := ch_lo ((i0.toUInt32 >>> ((8 : Int32) &&& 31).toUInt32).toInt32)
  have e_1 := (lo_back r1).2
  refine zno Y B hZ hown (ow0 hw) (ow1 hw) (ow2 hw) e0 o977 rfl rfl fun T319 h319 b319 g319 Y e319 E319 A319 D319 U319 => ?_
  have R320 := CHr.ext E319 CR0.1
  have CR320 := CR0.trans R320
  have K320 := K0.ext E319
  have O320 := X00.ext E319
  have Sf321 : Safe Z EL s.vm h319 b319 := Safe.ext E319 CR0.1 (Safe.new (Nat.le_of_eq g319.symm))
  refine zdup Y B o978 rfl <| zc2 Y B o979 ?_
  refine znp Y B hZ (aty := .char) (ow3 hw) e319 o980 (by decide) (cap := 2) (by decide) rfl rfl rfl fun T322 h322 k322 b322 g322 Y e322 E322 A322 => ?_
  have R323 := CHr.ext E322 CR320.1
  have CR323 := CR320.trans R323
  have K323 := K320.ext E322
  have O323 := O320.ext E322
  have Sf324 : Safe Z EL s.vm h322 b322 := Safe.ext E322 CR320.1 (Safe.new (Nat.le_of_eq g322.symm))
  have V322 : Arv Z h322 b322 k322 .char (2 : Int32) [(.int 0), (.int 0)] (.int 0) := (Arv.new A322 (by decide)).pad (pad_rep [] (.int 0) 2)
  refine zdup Y B o981 rfl <| zc0 Y B o982 <| zil Y B o983 rfl ?_
  obtain ⟨c325, A325, q325, S325, M325, G325, J325⟩ := id V322
  refine Go.b1 (stC Y B.1 hZ e322 A325 (j := (0 : Int32)) (inb_of S325 ⟨by decide, by decide⟩) rfl rfl (hb B.2 o984.1)) fun T325 h325 Y e325 W325 => ?_
  have N325 := Fr.snoc Y N0 (Nat.le_trans (Nat.le_trans Z0 K320.1) (Nat.le_of_eq g322.symm))
  have R326 := CHr.wr W325 (safe_arv hZ.alike V322 (by decide)) CR323.1
  have CR326 := CR323.trans R326
  have K326 := K323.wr W325 (Or.inr (Nat.le_trans K320.1 (Nat.le_of_eq g322.symm)))
  have O326 := O323.wr W325 (Nat.le_trans (Nat.le_trans Z0 K320.1) (Nat.le_of_eq g322.symm))
  have V325 : Arv Z h325 b322 k322 .char (2 : Int32) ([(.int (nar .char ((i0 &&& (255 : Int32)).toUInt32.toUInt16.toUInt32.toInt32))), (.int 0)]) (.int 0) := Arv.set A325 q325 S325 M325 G325 J325 (fits_nar_char _) W325 0 rfl (Nat.le_of_ble_eq_true rfl)
  rw [e_0] at V325
  refine zdup Y B o985 rfl <| zc1 Y B o986 <| zil Y B o987 rfl ?_
  obtain ⟨c327, A327, q327, S327, M327, G327, J327⟩ := id V325
  refine Go.b1 (stC Y B.1 hZ e325 A327 (j := (1 : Int32)) (inb_of S327 ⟨by decide, by decide⟩) rfl rfl (hb B.2 o988.1)) fun T327 h327 Y e327 W327 => ?_
  have N327 := Fr.snoc Y N325 (Nat.le_trans (Nat.le_trans Z0 K320.1) (Nat.le_of_eq g322.symm))
  have R328 := CHr.wr W327 (safe_arv hZ.alike V325 (by decide)) CR326.1
  have CR328 := CR326.trans R328
  have K328 := K326.wr W327 (Or.inr (Nat.le_trans K320.1 (Nat.le_of_eq g322.symm)))
  have O328 := O326.wr W327 (Nat.le_trans (Nat.le_trans Z0 K320.1) (Nat.le_of_eq g322.symm))
  have V327 : Arv Z h327 b322 k322 .char (2 : Int32) ([(.int ((i0 &&& (255 : Int32)).toUInt32.toUInt16.toUInt32.toInt32)), (.int (nar .char ((((i0.toUInt32 >>> ((8 : Int32) &&& 31).toUInt32).toInt32) &&& (255 : Int32)).toUInt32.toUInt16.toUInt32.toInt32)))]) (.int 0) := Arv.set A327 q327 S327 M327 G327 J327 (fits_nar_char _) W327 1 rfl (Nat.le_of_ble_eq_true rfl)
  rw [e_1] at V327
  have hp329 : ∀ c ∈ ([((i0 &&& (255 : Int32)).toUInt32.toUInt16.toUInt32.toInt32), ((((i0.toUInt32 >>> ((8 : Int32) &&& 31).toUInt32).toInt32) &&& (255 : Int32)).toUInt32.toUInt16.toUInt32.toInt32)] : List Int32), ¬ c < 0 ∧ ¬ (255 : Int32) < c := by
    intro c hc; simp only [List.mem_cons, List.not_mem_nil, or_false] at hc; rcases hc with rfl | rfl
    · exact r0
    · exact r1
  have hws : ∀ d ∈ StrChars.Road.words, d.before a0 Z = true := fun d hd => hw d ((by decide +kernel : ∀ d ∈ StrChars.Road.words, d ∈ tables_1) d hd)
  have F331 := (((A319.ext E322).wr W325).wr W327)
  have F332 := ((((D319 (Or.inr (ow29 hw)) (ty := (.array .byte)) (by decide)).ext E322).other W325 (Or.inl (Nat.ne_of_lt (Nat.lt_of_lt_of_le A319.lt (Nat.le_of_eq g322.symm))))).other W327 (Or.inl (Nat.ne_of_lt (Nat.lt_of_lt_of_le A319.lt (Nat.le_of_eq g322.symm)))))
  have F333 := ((((D319 (Or.inr (ow27 hw)) (ty := .byte) (by decide)).ext E322).other W325 (Or.inl (Nat.ne_of_lt (Nat.lt_of_lt_of_le A319.lt (Nat.le_of_eq g322.symm))))).other W327 (Or.inl (Nat.ne_of_lt (Nat.lt_of_lt_of_le A319.lt (Nat.le_of_eq g322.symm)))))
  obtain ⟨_, _, ⟨T330, L330, k330, n330⟩, -, Y, ⟨Lc330, hQ330, l330, y330, z330⟩, st330⟩ := Y.specialBack B.1 (y := mn52) rfl hown (mvT hZ (ow4 hw)) (mvT hZ (ow5 hw)) (mvT hZ (ow6 hw)) (by decide) (StrChars.Road.backV (W := 1) hZ hws (kI := 4) (ow1 hw) (cs := ([((i0 &&& (255 : Int32)).toUInt32.toUInt16.toUInt32.toInt32), ((((i0.toUInt32 >>> ((8 : Int32) &&& 31).toUInt32).toInt32) &&& (255 : Int32)).toUInt32.toUInt16.toUInt32.toInt32)] : List Int32)) (bs := ([((i0 &&& (255 : Int32)).toUInt32.toUInt16.toUInt32.toInt32), ((((i0.toUInt32 >>> ((8 : Int32) &&& 31).toUInt32).toInt32) &&& (255 : Int32)).toUInt32.toUInt16.toUInt32.toInt32)] : List Int32).map (fun c => c.toInt8.toInt32)) (n := 2) (Nat.le_trans (Nat.le_trans Z0 (Nat.le_refl _)) (Nat.le_of_eq g319.symm)) (Nat.le_trans Z0 K328.1) F331 F332 F333 V327 (O2.ext O328.2) P5 rfl rfl (by decide) (by decide) hp329 rfl (by decide) (by decide)) (g := (mkF m 36 #[iv i0, iv i1, iv i2, iv i3, iv i4, iv ((i0 &&& (255 : Int32)).toUInt32.toUInt16.toUInt32.toInt32), iv ((((i0.toUInt32 >>> ((8 : Int32) &&& 31).toUInt32).toInt32) &&& (255 : Int32)).toUInt32.toUInt16.toUInt32.toInt32), un, un, un, un, un, un, un, un, un, un, un, un, un] [(.ref b322), (.ref b319), (.ref b319)])) rfl (by rw [hml]; rfl) (Steps.refl _) (a := b319) (argsL := [(.ref b322)]) (rest := [(.ref b319)]) (lenOf opd_40 rfl) rfl (by show 2 * 0 + _ ≤ _; exact Nat.le_of_eq rfl) (hb B.2 o989.1) (fun _ _ => ⟨rfl, e327, (by decide : 2 + 1 ≤ _), (by decide : 6 + 2 ≤ _)⟩)
  dsimp only [Pt.U, Pt.locs, Pt.cells, Pt.slots] at Y l330 y330 z330 st330 hQ330
  subst l330 y330 z330
  obtain ⟨rfl, N330q, K330q, PE330, PC330, t330, kb330, -, u330, v330, PV330, PA330⟩ := hQ330
  have N330 := Fr.app N327 N330q
  refine Go.tr st330 ?_
  have Sf335 : Safe Z EL s.vm h327 b319 := (R328.safe (Nat.lt_of_lt_of_le A319.lt (Nat.le_trans E322.1 (Keep.of_wr W325).1)) (R326.safe (Nat.lt_of_lt_of_le A319.lt E322.1) (R323.safe (Nat.lt_of_lt_of_le A319.lt (Nat.le_refl _)) Sf321)))
  have R334 := CHr.keep K330q (allS Sf335 all0) CR328.1
  have CR334 := CR328.trans R334
  have K334 := K328.trans K330q (allS (Or.inr (Nat.le_trans (Nat.le_refl _) (Nat.le_of_eq g319.symm))) all0)
  have O334 := O328.keep K330q (allS (Nat.le_trans (Nat.le_trans Z0 (Nat.le_refl _)) (Nat.le_of_eq g319.symm)) all0)
  show Go p e below _ _ (mkF m 39 #[iv i0, iv i1, iv i2, iv i3, iv i4, iv ((i0 &&& (255 : Int32)).toUInt32.toUInt16.toUInt32.toInt32), iv ((((i0.toUInt32 >>> ((8 : Int32) &&& 31).toUInt32).toInt32) &&& (255 : Int32)).toUInt32.toUInt16.toUInt32.toInt32), un, un, un, un, un, un, un, un, un, un, un, un, un] [(.ref b319)])
  refine zas Y B o990 (s7 rfl) rfl <| zilN Y B o991 rfl ?_
  refine Go.f2 (Y.ldcInt B.1 hown (mvT hZ (ow30 hw)) rfl (hb B.2 o992.1)) ?_
  refine ziand Y B o993 rfl <| zc3 Y B o994 ?_
  refine Go.by (fun _ kq_ => iremM Y B.1 rfl (hb B.2 o995.1) rfl (by decide) kq_) ?_
  show Go p e below _ _ (mkF m 47 #[iv i0, iv i1, iv i2, iv i3, iv i4, iv ((i0 &&& (255 : Int32)).toUInt32.toUInt16.toUInt32.toInt32), iv ((((i0.toUInt32 >>> ((8 : Int32) &&& 31).toUInt32).toInt32) &&& (255 : Int32)).toUInt32.toUInt16.toUInt32.toInt32), rv b319, un, un, un, un, un, un, un, un, un, un, un, un] [(.int ((i1 &&& (2147483647 : Int32)) % (3 : Int32)))])
  rcases (rem3c i1 : ((i1 &&& (2147483647 : Int32)) % (3 : Int32)) = (0 : Int32) ∨ ((i1 &&& (2147483647 : Int32)) % (3 : Int32)) = (1 : Int32) ∨ ((i1 &&& (2147483647 : Int32)) % (3 : Int32)) = (2 : Int32)) with hk336 | hk336 | hk336
  · rw [hk336]
    refine zis Y B o996 (s8 rfl) <| zilN Y B o997 rfl ?_
    refine zcs Y B hZ hown (ow31 hw) (ow32 hw) (ow33 hw) (ow34 hw) (by decide) (rm_pick l Z a0 hw [] i2 T330.heap n0 (Nat.le_trans Z0 K334.1) ) rfl hml opd_26 rfl o998 rfl rfl rfl rfl rfl fun _ T337 _ Y hQ => ?_
    obtain ⟨u_337, rfl, N337q, e337, P337_0⟩ := hQ
    have N337 := Fr.app N330 N337q
    refine zis Y B o999 (s9 rfl) <| zilN Y B o1000 rfl ?_
    refine zcs Y B hZ hown (ow31 hw) (ow32 hw) (ow33 hw) (ow34 hw) (by decide) (rm_pick l Z a0 hw [] i3 T330.heap n0 (Nat.le_trans Z0 K334.1) ) e337 hml opd_26 rfl o1001 rfl rfl rfl rfl rfl fun _ T338 _ Y hQ => ?_
    obtain ⟨u_338, rfl, N338q, e338, P338_0⟩ := hQ
    have N338 := Fr.app N337 N338q
    refine zis Y B o1002 (s10 rfl) <| zil Y B o1003 rfl <| zN Y B o1004 (by decide) ?_
    obtain ⟨sa339, T339, h339, k339, sb339, kb339, Y, e339, E339, hS339, hk339, hZ339, hown339, PE339, PC339, PV339, PA339, la339, lb339, R339, LT339, SF339, st339⟩ := ldcCH Y B.1 hZ hown (ow35 hw) (ostr hw) e338 hS0 (Nat.le_trans (Nat.le_refl _) K334.1) (hEW hw) (List.mem_of_getElem? (i := 5) rfl) CR334.1 (vs := ((([] : List Int32).map (fun c => c.toInt8.toInt32)).map Value.int)) (z := (0 : Int32)) (by decide +kernel) (by decide) (by decide) (g := (mkF m 66 #[iv i0, iv i1, iv i2, iv i3, iv i4, iv ((i0 &&& (255 : Int32)).toUInt32.toUInt16.toUInt32.toInt32), iv ((((i0.toUInt32 >>> ((8 : Int32) &&& 31).toUInt32).toInt32) &&& (255 : Int32)).toUInt32.toUInt16.toUInt32.toInt32), rv b319, iv 0, iv u_337, iv u_338, un, un, un, un, un, un, un, un, un] [])) rfl (hb B.2 o1005.1) (n := 0) (by decide) (by decide) (by decide) (by decide)
    refine Go.by st339 ?_
    have CR340 := CR334.trans R339
    have K340 := K334.ext E339
    have O340 := O334.ext E339
    show Go p e below _ _ (mkF m 68 #[iv i0, iv i1, iv i2, iv i3, iv i4, iv ((i0 &&& (255 : Int32)).toUInt32.toUInt16.toUInt32.toInt32), iv ((((i0.toUInt32 >>> ((8 : Int32) &&& 31).toUInt32).toInt32) &&& (255 : Int32)).toUInt32.toUInt16.toUInt32.toInt32), rv b319, iv 0, iv u_337, iv u_338, un, un, un, un, un, un, un, un, un] [(.ref sa339)])
    refine zgo Y B j70 <| zas Y B o1006 (s11 rfl) rfl ?_
    show Go p e below _ _ (mkF m 107 #[iv i0, iv i1, iv i2, iv i3, iv i4, iv ((i0 &&& (255 : Int32)).toUInt32.toUInt16.toUInt32.toInt32), iv ((((i0.toUInt32 >>> ((8 : Int32) &&& 31).toUInt32).toInt32) &&& (255 : Int32)).toUInt32.toUInt16.toUInt32.toInt32), rv b319, iv (Int32.ofNat ([] : List Int32).length), iv u_337, iv u_338, rv sa339, un, un, un, un, un, un, un, un] [])
    have F341 := (PE330.ext E339)
    have F342 := (PC330.ext E339)
    have F343 := (PV330.ext E339)
    have F344 := (PA330.ext E339)
    exact P107 _ _ _ _ _ ((i0 &&& (255 : Int32)).toUInt32.toUInt16.toUInt32.toInt32) ((((i0.toUInt32 >>> ((8 : Int32) &&& 31).toUInt32).toInt32) &&& (255 : Int32)).toUInt32.toUInt16.toUInt32.toInt32) b319 t330 kb330 u_337 u_338 sa339 sb339 kb339 ([] : List Int32) (Stand_grow Y (by decide) (by decide)) e339 N338 K340 O340 hS339 (Nat.le_trans hk339 (Nat.le_refl _)) hZ339 hown339 (hh ▸ CR340) F341 F342 F343 F344 PE339 PC339 PV339 PA339 (r0) (r1) (Or.inl rfl) (fun c hc => by cases hc) (by decide)
  · rw [hk336]
    refine zis Y B o996 (s8 rfl) <| zilN Y B o997 rfl ?_
    refine zcs Y B hZ hown (ow31 hw) (ow32 hw) (ow33 hw) (ow34 hw) (by decide) (rm_pick l Z a0 hw [] i2 T330.heap n0 (Nat.le_trans Z0 K334.1) ) rfl hml opd_26 rfl o998 rfl rfl rfl rfl rfl fun _ T345 _ Y hQ => ?_
    obtain ⟨u_345, rfl, N345q, e345, P345_0⟩ := hQ
    have N345 := Fr.app N330 N345q
    refine zis Y B o999 (s9 rfl) <| zilN Y B o1000 rfl ?_
    refine zcs Y B hZ hown (ow31 hw) (ow32 hw) (ow33 hw) (ow34 hw) (by decide) (rm_pick l Z a0 hw [] i3 T330.heap n0 (Nat.le_trans Z0 K334.1) ) e345 hml opd_26 rfl o1001 rfl rfl rfl rfl rfl fun _ T346 _ Y hQ => ?_
    obtain ⟨u_346, rfl, N346q, e346, P346_0⟩ := hQ
    have N346 := Fr.app N345 N346q
    refine zis Y B o1002 (s10 rfl) <| zil Y B o1003 rfl <| zY Y B j71 (by decide) ?_
    refine zil Y B o1007 rfl <| zc1 Y B o1008 <| zCN Y B o1009 (by decide) ?_
    refine zil Y B o1010 rfl ?_
    refine zcs Y B hZ hown (ow281 hw) (ow282 hw) (ow2 hw) (ow283 hw) (by decide) (rm_svalof l Z a0 hw [] u_345 G1 T330.heap n0 (Nat.le_trans Z0 K334.1) (P345_0.2) O2 P5 O334) e346 hml opd_41 rfl o1011 rfl rfl rfl rfl rfl fun _ T347 _ Y hQ => ?_
    obtain ⟨x_347, t_347, kt_347, rfl, N347q, K347q, P347_0, P347_1, P347_2, P347_3, P347_4, P347_5⟩ := hQ
    have N347 := Fr.app N346 N347q
    have R348 := CHr.keep K347q all0 CR334.1
    have CR348 := CR334.trans R348
    have K348 := K334.trans K347q all0
    have O348 := O334.keep K347q all0
    have Sf349 : Safe Z EL s.vm T347.heap x_347 := Safe.keep K347q all0 CR334.1 (Safe.new P347_0)
    have Sf350 : Safe Z EL s.vm T347.heap t_347 := Safe.keep K347q all0 CR334.1 (Safe.new P347_1)
    refine zgo Y B j72 <| zas Y B o1006 (s11 rfl) rfl ?_
    show Go p e below _ _ (mkF m 107 #[iv i0, iv i1, iv i2, iv i3, iv i4, iv ((i0 &&& (255 : Int32)).toUInt32.toUInt16.toUInt32.toInt32), iv ((((i0.toUInt32 >>> ((8 : Int32) &&& 31).toUInt32).toInt32) &&& (255 : Int32)).toUInt32.toUInt16.toUInt32.toInt32), rv b319, iv (Int32.ofNat ([u_345] : List Int32).length), iv u_345, iv u_346, rv x_347, un, un, un, un, un, un, un, un] [])
    have F351 := (PE330.keep K347q)
    have F352 := (PC330.keep K347q nin0)
    have F353 := (PV330.keep K347q nin0)
    have F354 := (PA330.keep K347q nin0)
    exact P107 _ _ _ _ _ ((i0 &&& (255 : Int32)).toUInt32.toUInt16.toUInt32.toInt32) ((((i0.toUInt32 >>> ((8 : Int32) &&& 31).toUInt32).toInt32) &&& (255 : Int32)).toUInt32.toUInt16.toUInt32.toInt32) b319 t330 kb330 u_345 u_346 x_347 t_347 kt_347 ([u_345] : List Int32) (Stand_grow Y (by decide) (by decide)) rfl N347 K348 O348 hS0 (Nat.le_trans (Nat.le_refl _) K348.1) hZ hown (hh ▸ CR348) F351 F352 F353 F354 P347_2 P347_3 P347_4 P347_5 (r0) (r1) (Or.inr (Or.inl rfl)) (Lo_one P345_0) (by simp)
  · rw [hk336]
    refine zis Y B o996 (s8 rfl) <| zilN Y B o997 rfl ?_
    refine zcs Y B hZ hown (ow31 hw) (ow32 hw) (ow33 hw) (ow34 hw) (by decide) (rm_pick l Z a0 hw [] i2 T330.heap n0 (Nat.le_trans Z0 K334.1) ) rfl hml opd_26 rfl o998 rfl rfl rfl rfl rfl fun _ T355 _ Y hQ => ?_
    obtain ⟨u_355, rfl, N355q, e355, P355_0⟩ := hQ
    have N355 := Fr.app N330 N355q
    refine zis Y B o999 (s9 rfl) <| zilN Y B o1000 rfl ?_
    refine zcs Y B hZ hown (ow31 hw) (ow32 hw) (ow33 hw) (ow34 hw) (by decide) (rm_pick l Z a0 hw [] i3 T330.heap n0 (Nat.le_trans Z0 K334.1) ) e355 hml opd_26 rfl o1001 rfl rfl rfl rfl rfl fun _ T356 _ Y hQ => ?_
    obtain ⟨u_356, rfl, N356q, e356, P356_0⟩ := hQ
    have N356 := Fr.app N355 N356q
    refine zis Y B o1002 (s10 rfl) <| zil Y B o1003 rfl <| zY Y B j71 (by decide) ?_
    refine zil Y B o1007 rfl <| zc1 Y B o1008 <| zCY Y B j73 (by decide) ?_
    have f_0 := (lo_back P355_0).2
    have f_1 := (lo_back P356_0).2
    refine zno Y B hZ hown (ow0 hw) (ow1 hw) (ow2 hw) e356 o1012 rfl rfl fun T357 h357 b357 g357 Y e357 E357 A357 D357 U357 => ?_
    have R358 := CHr.ext E357 CR334.1
    have CR358 := CR334.trans R358
    have K358 := K334.ext E357
    have O358 := O334.ext E357
    have Sf359 : Safe Z EL s.vm h357 b357 := Safe.ext E357 CR334.1 (Safe.new (Nat.le_of_eq g357.symm))
    refine zdup Y B o1013 rfl <| zc2 Y B o1014 ?_
    refine znp Y B hZ (aty := .char) (ow3 hw) e357 o1015 (by decide) (cap := 2) (by decide) rfl rfl rfl fun T360 h360 k360 b360 g360 Y e360 E360 A360 => ?_
    have R361 := CHr.ext E360 CR358.1
    have CR361 := CR358.trans R361
    have K361 := K358.ext E360
    have O361 := O358.ext E360
    have Sf362 : Safe Z EL s.vm h360 b360 := Safe.ext E360 CR358.1 (Safe.new (Nat.le_of_eq g360.symm))
    have V360 : Arv Z h360 b360 k360 .char (2 : Int32) [(.int 0), (.int 0)] (.int 0) := (Arv.new A360 (by decide)).pad (pad_rep [] (.int 0) 2)
    refine zdup Y B o1016 rfl <| zc0 Y B o1017 <| zil Y B o1018 rfl ?_
    obtain ⟨c363, A363, q363, S363, M363, G363, J363⟩ := id V360
    refine Go.b1 (stC Y B.1 hZ e360 A363 (j := (0 : Int32)) (inb_of S363 ⟨by decide, by decide⟩) rfl rfl (hb B.2 o1019.1)) fun T363 h363 Y e363 W363 => ?_
    have N363 := Fr.snoc Y N356 (Nat.le_trans (Nat.le_trans Z0 K358.1) (Nat.le_of_eq g360.symm))
    have R364 := CHr.wr W363 (safe_arv hZ.alike V360 (by decide)) CR361.1
    have CR364 := CR361.trans R364
    have K364 := K361.wr W363 (Or.inr (Nat.le_trans K358.1 (Nat.le_of_eq g360.symm)))
    have O364 := O361.wr W363 (Nat.le_trans (Nat.le_trans Z0 K358.1) (Nat.le_of_eq g360.symm))
    have V363 : Arv Z h363 b360 k360 .char (2 : Int32) ([(.int (nar .char u_355)), (.int 0)]) (.int 0) := Arv.set A363 q363 S363 M363 G363 J363 (fits_nar_char _) W363 0 rfl (Nat.le_of_ble_eq_true rfl)
    rw [f_0] at V363
    refine zdup Y B o1020 rfl <| zc1 Y B o1021 <| zil Y B o1022 rfl ?_
    obtain ⟨c365, A365, q365, S365, M365, G365, J365⟩ := id V363
    refine Go.b1 (stC Y B.1 hZ e363 A365 (j := (1 : Int32)) (inb_of S365 ⟨by decide, by decide⟩) rfl rfl (hb B.2 o1023.1)) fun T365 h365 Y e365 W365 => ?_
    have N365 := Fr.snoc Y N363 (Nat.le_trans (Nat.le_trans Z0 K358.1) (Nat.le_of_eq g360.symm))
    have R366 := CHr.wr W365 (safe_arv hZ.alike V363 (by decide)) CR364.1
    have CR366 := CR364.trans R366
    have K366 := K364.wr W365 (Or.inr (Nat.le_trans K358.1 (Nat.le_of_eq g360.symm)))
    have O366 := O364.wr W365 (Nat.le_trans (Nat.le_trans Z0 K358.1) (Nat.le_of_eq g360.symm))
    have V365 : Arv Z h365 b360 k360 .char (2 : Int32) ([(.int u_355), (.int (nar .char u_356))]) (.int 0) := Arv.set A365 q365 S365 M365 G365 J365 (fits_nar_char _) W365 1 rfl (Nat.le_of_ble_eq_true rfl)
    rw [f_1] at V365
    have hp367 : ∀ c ∈ ([u_355, u_356] : List Int32), ¬ c < 0 ∧ ¬ (255 : Int32) < c := by
      intro c hc; simp only [List.mem_cons, List.not_mem_nil, or_false] at hc; rcases hc with rfl | rfl
      · exact P355_0
      · exact P356_0
    have F369 := (((A357.ext E360).wr W363).wr W365)
    have F370 := ((((D357 (Or.inr (ow29 hw)) (ty := (.array .byte)) (by decide)).ext E360).other W363 (Or.inl (Nat.ne_of_lt (Nat.lt_of_lt_of_le A357.lt (Nat.le_of_eq g360.symm))))).other W365 (Or.inl (Nat.ne_of_lt (Nat.lt_of_lt_of_le A357.lt (Nat.le_of_eq g360.symm)))))
    have F371 := ((((D357 (Or.inr (ow27 hw)) (ty := .byte) (by decide)).ext E360).other W363 (Or.inl (Nat.ne_of_lt (Nat.lt_of_lt_of_le A357.lt (Nat.le_of_eq g360.symm))))).other W365 (Or.inl (Nat.ne_of_lt (Nat.lt_of_lt_of_le A357.lt (Nat.le_of_eq g360.symm)))))
    obtain ⟨_, _, ⟨T368, L368, k368, n368⟩, -, Y, ⟨Lc368, hQ368, l368, y368, z368⟩, st368⟩ := Y.specialBack B.1 (y := mn52) rfl hown (mvT hZ (ow4 hw)) (mvT hZ (ow5 hw)) (mvT hZ (ow6 hw)) (by decide) (StrChars.Road.backV (W := 1) hZ hws (kI := 4) (ow1 hw) (cs := ([u_355, u_356] : List Int32)) (bs := ([u_355, u_356] : List Int32).map (fun c => c.toInt8.toInt32)) (n := 2) (Nat.le_trans (Nat.le_trans Z0 K334.1) (Nat.le_of_eq g357.symm)) (Nat.le_trans Z0 K366.1) F369 F370 F371 V365 (O2.ext O366.2) P5 rfl rfl (by decide) (by decide) hp367 rfl (by decide) (by decide)) (g := (mkF m 102 #[iv i0, iv i1, iv i2, iv i3, iv i4, iv ((i0 &&& (255 : Int32)).toUInt32.toUInt16.toUInt32.toInt32), iv ((((i0.toUInt32 >>> ((8 : Int32) &&& 31).toUInt32).toInt32) &&& (255 : Int32)).toUInt32.toUInt16.toUInt32.toInt32), rv b319, iv 2, iv u_355, iv u_356, un, un, un, un, un, un, un, un, un] [(.ref b360), (.ref b357), (.ref b357)])) rfl (by rw [hml]; rfl) (Steps.refl _) (a := b357) (argsL := [(.ref b360)]) (rest := [(.ref b357)]) (lenOf opd_40 rfl) rfl (by show 2 * 0 + _ ≤ _; exact Nat.le_of_eq rfl) (hb B.2 o1024.1) (fun _ _ => ⟨rfl, e365, (by decide : 5 + 1 ≤ _), (by decide : 14 + 2 ≤ _)⟩)
    dsimp only [Pt.U, Pt.locs, Pt.cells, Pt.slots] at Y l368 y368 z368 st368 hQ368
    subst l368 y368 z368
    obtain ⟨rfl, N368q, K368q, PE368, PC368, t368, kb368, -, u368, v368, PV368, PA368⟩ := hQ368
    have N368 := Fr.app N365 N368q
    refine Go.tr st368 ?_
    have Sf373 : Safe Z EL s.vm h365 b357 := (R366.safe (Nat.lt_of_lt_of_le A357.lt (Nat.le_trans E360.1 (Keep.of_wr W363).1)) (R364.safe (Nat.lt_of_lt_of_le A357.lt E360.1) (R361.safe (Nat.lt_of_lt_of_le A357.lt (Nat.le_refl _)) Sf359)))
    have R372 := CHr.keep K368q (allS Sf373 all0) CR366.1
    have CR372 := CR366.trans R372
    have K372 := K366.trans K368q (allS (Or.inr (Nat.le_trans K334.1 (Nat.le_of_eq g357.symm))) all0)
    have O372 := O366.keep K368q (allS (Nat.le_trans (Nat.le_trans Z0 K334.1) (Nat.le_of_eq g357.symm)) all0)
    show Go p e below _ _ (mkF m 105 #[iv i0, iv i1, iv i2, iv i3, iv i4, iv ((i0 &&& (255 : Int32)).toUInt32.toUInt16.toUInt32.toInt32), iv ((((i0.toUInt32 >>> ((8 : Int32) &&& 31).toUInt32).toInt32) &&& (255 : Int32)).toUInt32.toUInt16.toUInt32.toInt32), rv b319, iv 2, iv u_355, iv u_356, un, un, un, un, un, un, un, un, un] [(.ref b357)])
    refine zas Y B o1006 (s11 rfl) rfl ?_
    show Go p e below _ _ (mkF m 107 #[iv i0, iv i1, iv i2, iv i3, iv i4, iv ((i0 &&& (255 : Int32)).toUInt32.toUInt16.toUInt32.toInt32), iv ((((i0.toUInt32 >>> ((8 : Int32) &&& 31).toUInt32).toInt32) &&& (255 : Int32)).toUInt32.toUInt16.toUInt32.toInt32), rv b319, iv (Int32.ofNat ([u_355, u_356] : List Int32).length), iv u_355, iv u_356, rv b357, un, un, un, un, un, un, un, un] [])
    have F374 := (((((PE330.ext E357).ext E360).wr W363).wr W365).keep K368q)
    have F375 := (((((PC330.ext E357).ext E360).other W363 (Or.inl (Nat.ne_of_lt (Nat.lt_of_lt_of_le (PE330.ext E357).lt (Nat.le_of_eq g360.symm))))).other W365 (Or.inl (Nat.ne_of_lt (Nat.lt_of_lt_of_le (PE330.ext E357).lt (Nat.le_of_eq g360.symm))))).keep K368q (ninS (Nat.ne_of_lt (Nat.lt_of_lt_of_le PE330.lt (Nat.le_of_eq g357.symm))) nin0))
    have F376 := (((((PV330.ext E357).ext E360).other W363 (Or.inl (Nat.ne_of_lt (Nat.lt_of_lt_of_le (PE330.ext E357).lt (Nat.le_of_eq g360.symm))))).other W365 (Or.inl (Nat.ne_of_lt (Nat.lt_of_lt_of_le (PE330.ext E357).lt (Nat.le_of_eq g360.symm))))).keep K368q (ninS (Nat.ne_of_lt (Nat.lt_of_lt_of_le PE330.lt (Nat.le_of_eq g357.symm))) nin0))
    have F377 := (((((PA330.ext E357).ext E360).other W363 (Nat.ne_of_lt (Nat.lt_of_lt_of_le (PA330.ext E357).lt (Nat.le_of_eq g360.symm)))).other W365 (Nat.ne_of_lt (Nat.lt_of_lt_of_le (PA330.ext E357).lt (Nat.le_of_eq g360.symm)))).keep K368q (ninS (Nat.ne_of_lt (Nat.lt_of_lt_of_le PA330.lt (Nat.le_of_eq g357.symm))) nin0))
    exact P107 _ _ _ _ _ ((i0 &&& (255 : Int32)).toUInt32.toUInt16.toUInt32.toInt32) ((((i0.toUInt32 >>> ((8 : Int32) &&& 31).toUInt32).toInt32) &&& (255 : Int32)).toUInt32.toUInt16.toUInt32.toInt32) b319 t330 kb330 u_355 u_356 b357 t368 kb368 ([u_355, u_356] : List Int32) (Stand_grow Y (by decide) (by decide)) rfl N368 K372 O372 hS0 (Nat.le_trans (Nat.le_refl _) K372.1) hZ hown (hh ▸ CR372) F374 F375 F376 F377 PE368 PC368 PV368 PA368 (r0) (r1) (Or.inr (Or.inr rfl)) (hp367) (by simp)
set_option maxRecDepth 65536 in
set_option maxHeartbeats 40000000 in
theorem comes_1 {Post : Tables → Env → Array Value → State → Outcome → State → Prop} (hpost : ∀ tb e args s v u, (limb_1_1.after args s (.returned v) u = true ∧ limb_1_2.after args s (.returned v) u = true ∧ True) → ReturnedEndW s (.returned v) u (Jvm.fieldLocs frame_1_writes args s ++ Jvm.arrayLocs frame_1_arrays args s ++ Jvm.staticLocs frame_1_statics s) 64 11776 → Post tb e args s (.returned v) u) :
    ArmFor flags0 classFile x code maxLocals ret World_1 tables_1 room_1 Calls_1 rest_1 Pre_1 Post := by
  intro l hfl _ _ p e ha hc hk s m args below hf hA hF happ hP
  obtain ⟨hcalls, hrest, hpre⟩ := hP
  obtain ⟨-, -, -, hnamed, -, -, -, hat⟩ := (Spec.applies_iff hf).mp happ
  obtain ⟨hg, hn⟩ := and_e (Cond.before_iff.mp (show (Jvm.Cond.and given_1 narrow_1).before args s = true from hpre))
  obtain ⟨hcount, r0⟩ := and_e hg
  obtain ⟨k0, r1⟩ := and_e r0
  obtain ⟨k1, r2⟩ := and_e r1
  obtain ⟨k2, r3⟩ := and_e r2
  obtain ⟨k3, r4⟩ := and_e r3
  obtain ⟨w0, w1, w2, w3, w4, rfl⟩ : ∃ w0 w1 w2 w3 w4 : Value, args = #[w0, w1, w2, w3, w4] := by
    have hs : args.size = 5 := by simpa [Cond.value, given_1] using hcount
    obtain ⟨L⟩ := args
    match L, hs with
    | [w0, w1, w2, w3, w4], _ => exact ⟨w0, w1, w2, w3, w4, rfl⟩
  have hw := fun d (hd : d ∈ tables_1) => atoms_spec (ws := Jvm.Cond.code x code maxLocals ret :: tables_1) hat d (List.mem_cons_of_mem _ hd)
  obtain ⟨i0, e0⟩ := is_v k0
  obtain rfl : w0 = (.int i0) := Option.some.inj e0
  obtain ⟨i1, e1⟩ := is_v k1
  obtain rfl : w1 = (.int i1) := Option.some.inj e1
  obtain ⟨i2, e2⟩ := is_v k2
  obtain rfl : w2 = (.int i2) := Option.some.inj e2
  obtain ⟨i3, e3⟩ := is_v k3
  obtain rfl : w3 = (.int i3) := Option.some.inj e3
  obtain ⟨i4, e4⟩ := is_v r4
  obtain rfl : w4 = (.int i4) := Option.some.inj e4
  obtain ⟨hsets, hown0⟩ := atoms_of _ (rest_1_c_eq ▸ (show rest_1_c.before _ s = true from hrest))
  have n5 := not_v (Cond.before_iff.mp (hsets _ (List.mem_of_getElem? (i := 2) rfl)))
  obtain ⟨G1, eG1⟩ := is_v (Cond.before_iff.mp (hsets _ (List.mem_of_getElem? (i := 1) rfl)))
  have O2 : Sta s s.heap "java/lang/String" "COMPACT_STRINGS" "Z" (.int G1) := Sta.start eG1 (Or.inl (hsets _ (List.mem_of_getElem? (i := 0) rfl)))
  obtain ⟨G3, eG3, rG3⟩ := isR_v (Cond.before_iff.mp (hsets _ (List.mem_of_getElem? (i := 8) rfl)))
  have O4 : Sta s s.heap "jdk/internal/util/Preconditions" "SIOOBE_FORMATTER" "Ljava/util/function/BiFunction;" G3 := Sta.start eG3 (Or.inl (hsets _ (List.mem_of_getElem? (i := 7) rfl)))
  have P5 : ¬ (G1 = (0 : Int32)) := gotF (Cond.eq_ints eG1 (Term.int_eval (0))) n5
  have hfit : Fit s := fun {y c} hc i hi => by
    obtain ⟨ha, rfl⟩ := Array.getElem?_eq_some_iff.mp hc
    have q := List.all_eq_true.mp ((Array.all_eq_true_iff_forall_mem.mp hF) _ (Array.getElem_mem ha)) i (List.mem_range.mpr hi)
    simpa [Array.getElem?_eq_getElem hi] using q
  have hheld : ∀ p ∈ EL, Jvm.Lit.constHeld s p.1 p.2 := fun p hp => hcalls.1 p hp
  obtain ⟨on, ko, eo, OD1⟩ := own_tbl (F := fun r => 48 + r % 10) hfit (Cond.before_iff.mp (hsets _ (List.mem_of_getElem? (i := 12) rfl))) (Cond.before_iff.mp (hsets _ (List.mem_of_getElem? (i := 13) rfl))) (ow19 hw) (Cond.before_iff.mp (hsets _ (List.mem_of_getElem? (i := 14) rfl))) (fun _ => rfl) (fun r hr => by rw [← ones_num r hr]; rfl)
  obtain ⟨m0, z0⟩ := and_e hn
  obtain ⟨m1, z1⟩ := and_e z0
  obtain ⟨m2, z2⟩ := and_e z1
  obtain ⟨m3, z3⟩ := and_e z2
  obtain ⟨m4, z4⟩ := and_e z3
  obtain ⟨m5, z5⟩ := and_e z4
  obtain ⟨m6, z6⟩ := and_e z5
  obtain ⟨m7, z7⟩ := and_e z6
  obtain ⟨m8, z8⟩ := and_e z7
  obtain ⟨m9, z9⟩ := and_e z8
  obtain ⟨m10, z10⟩ := and_e z9
  obtain ⟨m11, z11⟩ := and_e z10
  obtain ⟨m12, z12⟩ := and_e z11
  obtain ⟨m13, z13⟩ := and_e z12
  obtain ⟨m14, z14⟩ := and_e z13
  obtain ⟨m15, z15⟩ := and_e z14
  obtain ⟨m16, z16⟩ := and_e z15
  obtain ⟨m17, z17⟩ := and_e z16
  obtain ⟨m18, z18⟩ := and_e z17
  obtain ⟨m19, z19⟩ := and_e z18
  obtain ⟨m20, z20⟩ := and_e z19
  obtain ⟨m21, z21⟩ := and_e z20
  obtain ⟨m22, z22⟩ := and_e z21
  obtain ⟨m23, z23⟩ := and_e z22
  obtain ⟨m24, z24⟩ := and_e z23
  obtain ⟨m25, z25⟩ := and_e z24
  obtain ⟨m26, z26⟩ := and_e z25
  obtain ⟨m27, z27⟩ := and_e z26
  obtain ⟨m28, z28⟩ := and_e z27
  obtain ⟨m29, z29⟩ := and_e z28
  obtain ⟨m30, z30⟩ := and_e z29
  obtain ⟨m31, z31⟩ := and_e z30
  obtain ⟨m32, z32⟩ := and_e z31
  obtain ⟨m33, z33⟩ := and_e z32
  obtain ⟨m34, z34⟩ := and_e z33
  obtain ⟨m35, z35⟩ := and_e z34
  obtain ⟨m36, z36⟩ := and_e z35
  obtain ⟨m37, z37⟩ := and_e z36
  have m38 := z37
  obtain ⟨ty0, et0⟩ := exa_v m0; obtain ⟨wx0, ew0⟩ := exa_v m1; obtain ⟨wt0, ev0⟩ := arr_v m2
  obtain ⟨wk0, A_0⟩ := own_arv (vs := B8 CNT) (dv := .int 0) hfit ev0 m2 m4 (by decide) rfl (fun c hc => b8CNT ▸ ⟨own_el (own_eqI m18) ev0 hc (by decide), own_el (own_eqI m19) ev0 hc (by decide), own_el (own_eqI m20) ev0 hc (by decide), own_el (own_eqI m21) ev0 hc (by decide), own_el (own_eqI m22) ev0 hc (by decide), own_el (own_eqI m23) ev0 hc (by decide), own_el (own_eqI m24) ev0 hc (by decide), trivial⟩)
  obtain ⟨ty1, et1⟩ := exa_v m6; obtain ⟨wx1, ew1⟩ := exa_v m7; obtain ⟨wt1, ev1⟩ := arr_v m8
  obtain ⟨wk1, A_1⟩ := own_arv (vs := B8 GAU) (dv := .int 0) hfit ev1 m8 m10 (by decide) rfl (fun c hc => b8GAU ▸ ⟨own_el (own_eqI m25) ev1 hc (by decide), own_el (own_eqI m26) ev1 hc (by decide), own_el (own_eqI m27) ev1 hc (by decide), own_el (own_eqI m28) ev1 hc (by decide), own_el (own_eqI m29) ev1 hc (by decide), trivial⟩)
  obtain ⟨ty2, et2⟩ := exa_v m12; obtain ⟨wx2, ew2⟩ := exa_v m13; obtain ⟨wt2, ev2⟩ := arr_v m14
  obtain ⟨wk2, A_2⟩ := own_arv (vs := B8 HIS) (dv := .int 0) hfit ev2 m14 m16 (by decide) rfl (fun c hc => b8HIS ▸ ⟨own_el (own_eqI m30) ev2 hc (by decide), own_el (own_eqI m31) ev2 hc (by decide), own_el (own_eqI m32) ev2 hc (by decide), own_el (own_eqI m33) ev2 hc (by decide), own_el (own_eqI m34) ev2 hc (by decide), own_el (own_eqI m35) ev2 hc (by decide), own_el (own_eqI m36) ev2 hc (by decide), own_el (own_eqI m37) ev2 hc (by decide), own_el (own_eqI m38) ev2 hc (by decide), trivial⟩)
  have hCH : CHv s EL s.vm s.heap := CHv.start (hEW hw) hheld (hsets _ (List.mem_of_getElem? (i := 2) rfl)) (ostr hw _ (List.mem_of_getElem? (i := 2) rfl)) (ostr hw _ (List.mem_of_getElem? (i := 1) rfl))
  obtain ⟨n, o, h1, h2, h3, _, L, rfl, ⟨rfl, N, -⟩, -, hq⟩ := rm_law l s _ hw tables_1 i0 i1 i2 i3 i4 ty0 wx0 wt0 wk0 ty1 wx1 wt1 wk1 ty2 wx2 wt2 wk2 on ko G1 G3 s.heap s.heap.size (Nat.le_refl _) (Sta.start et0 (Or.inr ⟨(ow39 hw), (ow40 hw)⟩)) (Exa.start et0 m0) (Fld.start ((fld_at et0).symm.trans ew0)) (Exa.start ew0 m1) (Fld.start ((fld_at ew0).symm.trans (own_eqI m5))) (Fld.start ((fld_at ew0).symm.trans ev0)) A_0 (Sta.start et1 (Or.inr ⟨(ow39 hw), (ow293 hw)⟩)) (Exa.start et1 m6) (Fld.start ((fld_at et1).symm.trans ew1)) (Exa.start ew1 m7) (Fld.start ((fld_at ew1).symm.trans (own_eqI m11))) (Fld.start ((fld_at ew1).symm.trans ev1)) A_1 (Sta.start et2 (Or.inr ⟨(ow39 hw), (ow304 hw)⟩)) (Exa.start et2 m12) (Fld.start ((fld_at et2).symm.trans ew2)) (Exa.start ew2 m13) (Fld.start ((fld_at ew2).symm.trans (own_eqI m17))) (Fld.start ((fld_at ew2).symm.trans ev2)) A_2 (Sta.start eo (Or.inl (hsets _ (List.mem_of_getElem? (i := 11) rfl)))) OD1 O2 P5 (Old.start s) O4 rG3 p e ha hc hk s m _ below hf ((Spec.applies_iff_loose hf).mp happ).1 ⟨rfl, State.Warmed39.refl s, rfl, hCH⟩ trivial
  refine ⟨n, _, h1, h2, h3, hpost _ _ _ _ _ _ ⟨Cond.after_iff.mpr rfl, Cond.after_iff.mpr (eq_i res_at (Term.int_eval (1)) rfl), trivial⟩ ⟨hq.1, hq.2.1, hq.2.2.1, (hq.2.2.2.sift fun y hy => Or.inr (N y hy)).mono (by decide) (by decide)⟩⟩
theorem main_1_1 : Claimed_1_1 := comes_1 fun _ _ _ _ _ _ h hF => ⟨h.1, hF⟩
theorem main_1_2 : Claimed_1_2 := comes_1 fun _ _ _ _ _ _ h hF => ⟨h.2.1, hF⟩
end Jvm.Pilot.@@N@@
namespace Jvm.Pilot.@@N@@
open Jvm Jvm.ClassFile Sem Op Lib Jvm.Free Jvm.Stand Jvm.Pilot.@@N@@.Jvm.D
/-! MADE BY PROGRAM (witnessworld.py) out of the Statement's table words and the real class files: 32 classes; the members and pool entries that the words name. The judged class is class 1, her method 1. -/
namespace start1
open Jvm.ClassFile
def u (s : String) : CpInfo := .utf8 (stringToUtf16 s)
/-- a pool by its gaps: so many unusable entries, then the entry; so many at the end -/
def gap : Nat → List CpInfo → List CpInfo
  | 0, r => r
  | n + 1, r => .unusable :: gap n r
def poolList (es : List (Nat × CpInfo)) (last : Nat) : List CpInfo := es.foldr (fun e r => gap e.1 (e.2 :: r)) (gap last [])
def pool (es : List (Nat × CpInfo)) (last : Nat) : Array CpInfo := ⟨poolList es last⟩
def fileOf (pool : Array CpInfo) (this : Nat) (attrs : Array Attribute := #[]) (ms : Array MethodInfo := #[]) (fl : Nat := 33) (sup : Nat := 0) (ifs : Array Nat := #[]) (fds : Array FieldInfo := #[]) : ClassFile where
  minorVersion := 0
  majorVersion := 65
  constantPool := pool
  accessFlags := fl
  thisClass := this
  superClass := sup
  interfaces := ifs
  fields := fds
  methods := ms
  attributes := attrs
def plain (name : String) (sup : Option ClassId) : Class where
  name := name
  kind := .ordinary
  loader := none
  accessFlags := 33
  super := sup
  interfaces := #[]
  cf := none
  fields := #[]
  methods := #[]
  instanceTypes := #[]
  staticTypes := #[]
  resolved := #[]
  callSites := []
  init := .initialized
  statics := none
  mirror := none

def pool0 : Array CpInfo := pool [(5, u "<init>"), (0, u "()V"), (1, .class_ 10), (1, u "java/lang/Object"), (85, u "clone"), (0, u "()Ljava/lang/Object;")] 26

def k0c0 : Code := { maxStack := 0, maxLocals := 1, code := object_method_1_code, exceptionTable := #[], attributes := #[] }
def k0m0 : Method := { name := "<init>", desc := "()V", sig := { parameters := [], returnType := none }, accessFlags := 1, code := some k0c0 }
def k0m1 : Method := { name := "clone", desc := "()Ljava/lang/Object;", sig := { parameters := [], returnType := some (.object "java/lang/Object") }, accessFlags := 260, code := none }
/-- java/lang/Object -/
def k0 : Class := { plain "java/lang/Object" none with
  accessFlags := 33
  interfaces := #[]
  cf := some (fileOf pool0 8 #[] #[{ accessFlags := 1, nameIndex := 5, descriptorIndex := 6, attributes := #[] }, { accessFlags := 260, nameIndex := 96, descriptorIndex := 97, attributes := #[] }] 33 0 #[] #[])
  fields := #[]
  methods := #[k0m0, k0m1]
  instanceTypes := #[]
  staticTypes := #[]
  resolved := Array.replicate 124 none
  statics := none }

def pool1 : Array CpInfo := pool [(2, .class_ 4), (0, .nameAndType 5 6), (0, u "java/lang/Object"), (0, u "<init>"), (0, u "()V"), (0, .class_ 8), (0, u "java/lang/String"), (0, .methodref 7 10), (0, .nameAndType 5 11), (0, u "([C)V"), (0, .integer 2147483647), (0, .methodref 14 15), (0, .class_ 16), (0, .nameAndType 17 18), (0, u "com/example/rabotnik/rabotnik/coordinator/PrometheusTextFamilyPinLaw"), (0, u "pick"), (0, u "(I)C"), (0, .string 20), (0, u ""), (0, .methodref 7 22), (0, .nameAndType 23 24), (0, u "valueOf"), (0, u "(C)Ljava/lang/String;"), (0, .fieldref 26 27), (0, .class_ 28), (0, .nameAndType 29 30), (0, u "com/example/rabotnik/rabotnik/coordinator/PrometheusText$Type"), (0, u "COUNTER"), (0, u "Lcom/example/rabotnik/rabotnik/coordinator/PrometheusText$Type;"), (0, .fieldref 26 32), (0, .nameAndType 33 30), (0, u "GAUGE"), (0, .fieldref 26 35), (0, .nameAndType 36 30), (0, u "HISTOGRAM"), (0, .string 38), (0, u "counter"), (0, .string 40), (0, u "gauge"), (0, .string 42), (0, u "histogram"), (0, .class_ 44), (0, u "com/example/rabotnik/rabotnik/coordinator/PrometheusText"), (0, .methodref 43 3), (0, .methodref 43 47), (0, .nameAndType 48 49), (0, u "family"), (0, u "(Ljava/lang/String;Lcom/example/rabotnik/rabotnik/coordinator/PrometheusText$Type;Ljava/lang/String;)V"), (0, .long 7), (1, .methodref 43 53), (0, .nameAndType 54 55), (0, u "sample"), (0, u "(J[Ljava/lang/String;)V"), (0, .methodref 43 57), (0, .nameAndType 58 59), (0, u "text"), (0, u "()Ljava/lang/String;"), (0, .string 61), (0, u "# HELP "), (0, .methodref 14 63), (0, .nameAndType 64 65), (0, u "eqLit"), (0, u "(Ljava/lang/String;ILjava/lang/String;)Z"), (0, .methodref 14 67), (0, .nameAndType 68 69), (0, u "ch"), (0, u "(Ljava/lang/String;IC)Z"), (0, .methodref 14 71), (0, .nameAndType 72 69), (0, u "esc"), (0, .methodref 14 74), (0, .nameAndType 75 76), (0, u "escLen"), (0, u "(C)I"), (0, .string 78), (0, u "# TYPE "), (0, .methodref 7 80), (0, .nameAndType 81 82), (0, u "length"), (0, u "()I"), (0, .methodref 7 84), (0, .nameAndType 85 18), (0, u "charAt"), (0, .methodref 14 87), (0, .nameAndType 88 89), (0, u "at"), (0, u "(Ljava/lang/String;ILjava/lang/String;I)Z"), (2, u "law"), (0, u "(IIIII)Z")] 7

def k1m0 : Method := { name := "<init>", desc := "()V", sig := { parameters := [], returnType := none }, accessFlags := 1, code := none }
def k1c1 : Code := { maxStack := 6, maxLocals := 20, code := code, exceptionTable := #[], attributes := #[] }
def k1m1 : Method := { name := "law", desc := "(IIIII)Z", sig := { parameters := [.int, .int, .int, .int, .int], returnType := some .boolean }, accessFlags := 9, code := some k1c1 }
def k1c2 : Code := { maxStack := 2, maxLocals := 2, code := method_3_code, exceptionTable := #[], attributes := #[] }
def k1m2 : Method := { name := "pick", desc := "(I)C", sig := { parameters := [.int], returnType := some .char }, accessFlags := 10, code := some k1c2 }
def k1c3 : Code := { maxStack := 2, maxLocals := 3, code := method_4_code, exceptionTable := #[], attributes := #[] }
def k1m3 : Method := { name := "ch", desc := "(Ljava/lang/String;IC)Z", sig := { parameters := [(.object "java/lang/String"), .int, .char], returnType := some .boolean }, accessFlags := 10, code := some k1c3 }
def k1c4 : Code := { maxStack := 4, maxLocals := 4, code := method_5_code, exceptionTable := #[], attributes := #[] }
def k1m4 : Method := { name := "at", desc := "(Ljava/lang/String;ILjava/lang/String;I)Z", sig := { parameters := [(.object "java/lang/String"), .int, (.object "java/lang/String"), .int], returnType := some .boolean }, accessFlags := 10, code := some k1c4 }
def k1c5 : Code := { maxStack := 4, maxLocals := 3, code := method_6_code, exceptionTable := #[], attributes := #[] }
def k1m5 : Method := { name := "eqLit", desc := "(Ljava/lang/String;ILjava/lang/String;)Z", sig := { parameters := [(.object "java/lang/String"), .int, (.object "java/lang/String")], returnType := some .boolean }, accessFlags := 10, code := some k1c5 }
def k1c6 : Code := { maxStack := 2, maxLocals := 1, code := method_7_code, exceptionTable := #[], attributes := #[] }
def k1m6 : Method := { name := "escLen", desc := "(C)I", sig := { parameters := [.char], returnType := some .int }, accessFlags := 10, code := some k1c6 }
def k1c7 : Code := { maxStack := 3, maxLocals := 3, code := method_8_code, exceptionTable := #[], attributes := #[] }
def k1m7 : Method := { name := "esc", desc := "(Ljava/lang/String;IC)Z", sig := { parameters := [(.object "java/lang/String"), .int, .char], returnType := some .boolean }, accessFlags := 10, code := some k1c7 }
/-- com/example/rabotnik/rabotnik/coordinator/PrometheusTextFamilyPinLaw -/
def k1 : Class := { plain "com/example/rabotnik/rabotnik/coordinator/PrometheusTextFamilyPinLaw" (some 0) with
  accessFlags := 49
  interfaces := #[]
  cf := some (fileOf pool1 14 #[] #[{ accessFlags := 1, nameIndex := 5, descriptorIndex := 6, attributes := #[] }, { accessFlags := 9, nameIndex := 92, descriptorIndex := 93, attributes := #[] }, { accessFlags := 10, nameIndex := 17, descriptorIndex := 18, attributes := #[] }, { accessFlags := 10, nameIndex := 68, descriptorIndex := 69, attributes := #[] }, { accessFlags := 10, nameIndex := 88, descriptorIndex := 89, attributes := #[] }, { accessFlags := 10, nameIndex := 64, descriptorIndex := 65, attributes := #[] }, { accessFlags := 10, nameIndex := 75, descriptorIndex := 76, attributes := #[] }, { accessFlags := 10, nameIndex := 72, descriptorIndex := 69, attributes := #[] }] 49 2 #[] #[])
  fields := #[]
  methods := #[k1m0, k1m1, k1m2, k1m3, k1m4, k1m5, k1m6, k1m7]
  instanceTypes := #[]
  staticTypes := #[]
  resolved := Array.replicate 101 none
  statics := none }

def pool2 : Array CpInfo := pool [(1, .class_ 2), (0, u "java/io/Serializable"), (0, .class_ 4), (0, u "java/lang/Object")] 2

/-- java/io/Serializable -/
def k2 : Class := { plain "java/io/Serializable" (some 0) with
  accessFlags := 1537
  interfaces := #[]
  cf := some (fileOf pool2 1 #[] #[] 1537 3 #[] #[])
  fields := #[]
  methods := #[]
  instanceTypes := #[]
  staticTypes := #[]
  resolved := Array.replicate 7 none
  statics := none }

def pool3 : Array CpInfo := pool [(1, .class_ 2), (0, u "java/lang/Comparable"), (0, .class_ 4), (0, u "java/lang/Object")] 7

/-- java/lang/Comparable -/
def k3 : Class := { plain "java/lang/Comparable" (some 0) with
  accessFlags := 1537
  interfaces := #[]
  cf := some (fileOf pool3 1 #[] #[] 1537 3 #[] #[])
  fields := #[]
  methods := #[]
  instanceTypes := #[]
  staticTypes := #[]
  resolved := Array.replicate 12 none
  statics := none }

def pool4 : Array CpInfo := pool [(2, .class_ 4), (1, u "java/lang/CharSequence"), (42, .class_ 48), (0, u "java/lang/CharSequence$1CodePointIterator"), (10, .class_ 60), (0, u "java/lang/CharSequence$1CharIterator"), (5, .class_ 67), (0, u "java/lang/Object")] 63

/-- java/lang/CharSequence -/
def k4 : Class := { plain "java/lang/CharSequence" (some 0) with
  accessFlags := 1537
  interfaces := #[]
  cf := some (fileOf pool4 2 #[.nestMembers #[47, 59]] #[] 1537 66 #[] #[])
  fields := #[]
  methods := #[]
  instanceTypes := #[]
  staticTypes := #[]
  resolved := Array.replicate 131 none
  statics := none }

def pool5 : Array CpInfo := pool [(1, .class_ 2), (0, u "java/lang/constant/Constable"), (0, .class_ 4), (0, u "java/lang/Object")] 6

/-- java/lang/constant/Constable -/
def k5 : Class := { plain "java/lang/constant/Constable" (some 0) with
  accessFlags := 1537
  interfaces := #[]
  cf := some (fileOf pool5 1 #[] #[] 1537 3 #[] #[])
  fields := #[]
  methods := #[]
  instanceTypes := #[]
  staticTypes := #[]
  resolved := Array.replicate 11 none
  statics := none }

def pool6 : Array CpInfo := pool [(1, .class_ 2), (0, u "java/lang/constant/ConstantDesc"), (0, .class_ 4), (0, u "java/lang/Object")] 32

/-- java/lang/constant/ConstantDesc -/
def k6 : Class := { plain "java/lang/constant/ConstantDesc" (some 0) with
  accessFlags := 1537
  interfaces := #[]
  cf := some (fileOf pool6 1 #[] #[] 1537 3 #[] #[])
  fields := #[]
  methods := #[]
  instanceTypes := #[]
  staticTypes := #[]
  resolved := Array.replicate 37 none
  statics := none }

def pool7 : Array CpInfo := pool [(1, .methodref 2 3), (0, .class_ 4), (0, .nameAndType 5 6), (0, u "java/lang/Object"), (0, u "<init>"), (0, u "()V"), (2, .fieldref 10 11), (0, .class_ 12), (0, .nameAndType 13 14), (0, u "java/lang/String"), (0, u "value"), (0, u "[B"), (0, .fieldref 10 16), (0, .nameAndType 17 18), (0, u "coder"), (0, u "B"), (2, u "hash"), (0, u "I"), (2, u "hashIsZero"), (0, u "Z"), (0, .methodref 10 28), (0, .nameAndType 5 29), (0, u "([CIILjava/lang/Void;)V"), (8, .fieldref 10 39), (0, .nameAndType 40 26), (0, u "COMPACT_STRINGS"), (1, .class_ 44), (1, u "java/lang/StringUTF16"), (0, u "compress"), (1, .methodref 42 48), (0, .nameAndType 49 50), (0, u "coderFromArrayLen"), (0, u "([BI)B"), (2, u "toBytes"), (0, .methodref 55 56), (0, .class_ 57), (0, .nameAndType 58 59), (0, u "java/util/Arrays"), (0, u "copyOfRange"), (0, u "([BII)[B"), (47, .class_ 109), (1, u "java/lang/StringLatin1"), (32, u "()Z"), (34, .methodref 42 178), (0, .nameAndType 45 179), (0, u "([CII)[B"), (13, .class_ 195), (1, u "java/lang/System"), (13, .methodref 10 210), (0, .nameAndType 5 211), (0, u "([BB)V"), (0, .methodref 193 213), (0, .nameAndType 214 215), (0, u "arraycopy"), (0, u "(Ljava/lang/Object;ILjava/lang/Object;II)V"), (118, u "()I"), (0, .methodref 10 336), (0, .nameAndType 17 337), (0, u "()B"), (2, u "()[B"), (22, u "([BI)C"), (5, u "(C)Z"), (21, u "(II)V"), (35, u "(I)C"), (61, .methodref 10 490), (0, .nameAndType 5 491), (0, u "(Ljava/lang/AbstractStringBuilder;Ljava/lang/Void;)V"), (0, .methodref 10 493), (0, .nameAndType 494 142), (0, u "isLatin1"), (0, .methodref 107 496), (0, .nameAndType 497 363), (0, u "charAt"), (3, u "checkIndex"), (4, .nameAndType 507 334), (0, u "length"), (24, u "getBytes"), (16, .methodref 550 506), (0, .class_ 551), (0, u "java/lang/AbstractStringBuilder"), (0, .methodref 550 553), (0, .nameAndType 554 340), (0, u "getValue"), (20, .class_ 576), (0, u "java/lang/CharSequence"), (22, u "CASE_INSENSITIVE_ORDER"), (0, u "Ljava/util/Comparator;"), (181, u "valueOf"), (0, u "(C)Ljava/lang/String;"), (37, u "([BIB)V"), (188, u "([C)V"), (4, .methodref 107 1016), (0, .nameAndType 1017 369), (0, u "canEncode"), (0, .methodref 107 1019), (0, .nameAndType 53 1020), (0, u "(C)[B"), (26, .methodref 550 493), (5, .fieldref 1054 1055), (0, .class_ 1056), (0, .nameAndType 1057 1058), (0, u "jdk/internal/util/Preconditions"), (0, u "SIOOBE_FORMATTER"), (0, u "Ljava/util/function/BiFunction;"), (0, .methodref 1054 1060), (0, .nameAndType 501 1061), (0, u "(IILjava/util/function/BiFunction;)I"), (39, u "serialPersistentFields"), (0, u "[Ljava/io/ObjectStreamField;"), (0, .class_ 1104), (0, u "java/lang/String$CaseInsensitiveComparator"), (1, .class_ 1107), (0, u "java/io/Serializable"), (0, .class_ 1109), (0, u "java/lang/Comparable"), (0, .class_ 1111), (0, u "java/lang/constant/Constable"), (0, .class_ 1113), (0, u "java/lang/constant/ConstantDesc"), (2, u "serialVersionUID"), (0, u "J"), (3, u "REPL"), (0, u "C"), (2, u "LATIN1"), (1, u "UTF16"), (105, u "(Ljava/lang/StringBuilder;)V")] 217

def k7m0 : Method := { name := "<init>", desc := "()V", sig := { parameters := [], returnType := none }, accessFlags := 1, code := none }
def k7c1 : Code := { maxStack := 5, maxLocals := 2, code := jdk_42_method_3_code, exceptionTable := #[], attributes := #[] }
def k7m1 : Method := { name := "<init>", desc := "([C)V", sig := { parameters := [(.array .char)], returnType := none }, accessFlags := 1, code := some k7c1 }
def k7c2 : Code := { maxStack := 3, maxLocals := 2, code := jdk_42_method_53_code, exceptionTable := #[], attributes := #[] }
def k7m2 : Method := { name := "<init>", desc := "(Ljava/lang/StringBuilder;)V", sig := { parameters := [(.object "java/lang/StringBuilder")], returnType := none }, accessFlags := 1, code := some k7c2 }
def k7c3 : Code := { maxStack := 2, maxLocals := 1, code := jdk_42_method_54_code, exceptionTable := #[], attributes := #[] }
def k7m3 : Method := { name := "length", desc := "()I", sig := { parameters := [], returnType := some .int }, accessFlags := 1, code := some k7c3 }
def k7c4 : Code := { maxStack := 2, maxLocals := 2, code := jdk_42_method_56_code, exceptionTable := #[], attributes := #[] }
def k7m4 : Method := { name := "charAt", desc := "(I)C", sig := { parameters := [.int], returnType := some .char }, accessFlags := 1, code := some k7c4 }
def k7c5 : Code := { maxStack := 4, maxLocals := 1, code := jdk_42_method_139_code, exceptionTable := #[], attributes := #[] }
def k7m5 : Method := { name := "valueOf", desc := "(C)Ljava/lang/String;", sig := { parameters := [.char], returnType := some (.object "java/lang/String") }, accessFlags := 9, code := some k7c5 }
def k7c6 : Code := { maxStack := 5, maxLocals := 4, code := jdk_42_method_147_code, exceptionTable := #[], attributes := #[] }
def k7m6 : Method := { name := "getBytes", desc := "([BIB)V", sig := { parameters := [(.array .byte), .int, .byte], returnType := none }, accessFlags := 0, code := some k7c6 }
def k7c7 : Code := { maxStack := 4, maxLocals := 6, code := jdk_42_method_149_code, exceptionTable := #[], attributes := #[] }
def k7m7 : Method := { name := "<init>", desc := "([CIILjava/lang/Void;)V", sig := { parameters := [(.array .char), .int, .int, (.object "java/lang/Void")], returnType := none }, accessFlags := 2, code := some k7c7 }
def k7c8 : Code := { maxStack := 5, maxLocals := 5, code := jdk_42_method_150_code, exceptionTable := #[], attributes := #[] }
def k7m8 : Method := { name := "<init>", desc := "(Ljava/lang/AbstractStringBuilder;Ljava/lang/Void;)V", sig := { parameters := [(.object "java/lang/AbstractStringBuilder"), (.object "java/lang/Void")], returnType := none }, accessFlags := 0, code := some k7c8 }
def k7c9 : Code := { maxStack := 2, maxLocals := 3, code := jdk_42_method_151_code, exceptionTable := #[], attributes := #[] }
def k7m9 : Method := { name := "<init>", desc := "([BB)V", sig := { parameters := [(.array .byte), .byte], returnType := none }, accessFlags := 0, code := some k7c9 }
def k7c10 : Code := { maxStack := 1, maxLocals := 1, code := jdk_42_method_152_code, exceptionTable := #[], attributes := #[] }
def k7m10 : Method := { name := "coder", desc := "()B", sig := { parameters := [], returnType := some .byte }, accessFlags := 0, code := some k7c10 }
def k7c11 : Code := { maxStack := 1, maxLocals := 1, code := jdk_42_method_154_code, exceptionTable := #[], attributes := #[] }
def k7m11 : Method := { name := "isLatin1", desc := "()Z", sig := { parameters := [], returnType := some .boolean }, accessFlags := 0, code := some k7c11 }
def k7c12 : Code := { maxStack := 3, maxLocals := 2, code := jdk_42_method_155_code, exceptionTable := #[], attributes := #[] }
def k7m12 : Method := { name := "checkIndex", desc := "(II)V", sig := { parameters := [.int, .int], returnType := none }, accessFlags := 8, code := some k7c12 }
/-- java/lang/String -/
def k7 : Class := { plain "java/lang/String" (some 0) with
  accessFlags := 49
  interfaces := #[2, 3, 4, 5, 6]
  cf := some (fileOf pool7 10 #[.nestMembers #[1103]] #[{ accessFlags := 1, nameIndex := 5, descriptorIndex := 6, attributes := #[] }, { accessFlags := 1, nameIndex := 5, descriptorIndex := 1010, attributes := #[] }, { accessFlags := 1, nameIndex := 5, descriptorIndex := 1233, attributes := #[] }, { accessFlags := 1, nameIndex := 507, descriptorIndex := 334, attributes := #[] }, { accessFlags := 1, nameIndex := 497, descriptorIndex := 427, attributes := #[] }, { accessFlags := 9, nameIndex := 782, descriptorIndex := 783, attributes := #[] }, { accessFlags := 0, nameIndex := 532, descriptorIndex := 821, attributes := #[] }, { accessFlags := 2, nameIndex := 5, descriptorIndex := 29, attributes := #[] }, { accessFlags := 0, nameIndex := 5, descriptorIndex := 491, attributes := #[] }, { accessFlags := 0, nameIndex := 5, descriptorIndex := 211, attributes := #[] }, { accessFlags := 0, nameIndex := 17, descriptorIndex := 337, attributes := #[] }, { accessFlags := 0, nameIndex := 494, descriptorIndex := 142, attributes := #[] }, { accessFlags := 8, nameIndex := 501, descriptorIndex := 391, attributes := #[] }] 49 2 #[1106, 1108, 575, 1110, 1112] #[{ accessFlags := 18, nameIndex := 13, descriptorIndex := 14, attributes := #[] }, { accessFlags := 18, nameIndex := 17, descriptorIndex := 18, attributes := #[] }, { accessFlags := 2, nameIndex := 21, descriptorIndex := 22, attributes := #[] }, { accessFlags := 2, nameIndex := 25, descriptorIndex := 26, attributes := #[] }, { accessFlags := 26, nameIndex := 1116, descriptorIndex := 1117, attributes := #[] }, { accessFlags := 24, nameIndex := 40, descriptorIndex := 26, attributes := #[] }, { accessFlags := 26, nameIndex := 1101, descriptorIndex := 1102, attributes := #[] }, { accessFlags := 26, nameIndex := 1121, descriptorIndex := 1122, attributes := #[] }, { accessFlags := 25, nameIndex := 599, descriptorIndex := 600, attributes := #[] }, { accessFlags := 24, nameIndex := 1125, descriptorIndex := 18, attributes := #[] }, { accessFlags := 24, nameIndex := 1127, descriptorIndex := 18, attributes := #[] }])
  fields := #[{ name := "value", type := (.array .byte), accessFlags := 18, slot := 0, constantValue := 0 }, { name := "coder", type := .byte, accessFlags := 18, slot := 1, constantValue := 0 }, { name := "hash", type := .int, accessFlags := 2, slot := 2, constantValue := 0 }, { name := "hashIsZero", type := .boolean, accessFlags := 2, slot := 3, constantValue := 0 }, { name := "serialVersionUID", type := .long, accessFlags := 26, slot := 0, constantValue := 0 }, { name := "COMPACT_STRINGS", type := .boolean, accessFlags := 24, slot := 1, constantValue := 0 }, { name := "serialPersistentFields", type := (.array (.object "java/io/ObjectStreamField")), accessFlags := 26, slot := 2, constantValue := 0 }, { name := "REPL", type := .char, accessFlags := 26, slot := 3, constantValue := 0 }, { name := "CASE_INSENSITIVE_ORDER", type := (.object "java/util/Comparator"), accessFlags := 25, slot := 4, constantValue := 0 }, { name := "LATIN1", type := .byte, accessFlags := 24, slot := 5, constantValue := 0 }, { name := "UTF16", type := .byte, accessFlags := 24, slot := 6, constantValue := 0 }]
  methods := #[k7m0, k7m1, k7m2, k7m3, k7m4, k7m5, k7m6, k7m7, k7m8, k7m9, k7m10, k7m11, k7m12]
  instanceTypes := #[(.array .byte), .byte, .int, .boolean]
  staticTypes := #[.long, .boolean, (.array (.object "java/io/ObjectStreamField")), .char, (.object "java/util/Comparator"), .byte, .byte]
  resolved := Array.replicate 1451 none
  statics := some 0 }

def pool8 : Array CpInfo := pool [(6, .class_ 8), (1, u "java/lang/Object"), (0, u "<init>"), (0, u "()V"), (1, .class_ 14), (1, u "java/lang/StringUTF16"), (31, u "$assertionsDisabled"), (0, u "Z"), (13, u "HI_BYTE_SHIFT"), (0, u "I"), (2, u "LO_BYTE_SHIFT"), (49, .methodref 12 116), (0, .nameAndType 117 118), (0, u "compress"), (0, u "([CI[BII)I"), (3, u "([CII)[B"), (138, u "coderFromArrayLen"), (0, u "([BI)B"), (106, .class_ 371), (1, u "java/lang/StringUTF16$LinesSpliterator"), (58, u "MAX_LENGTH"), (196, .class_ 628), (0, u "java/lang/StringUTF16$CodePointsSpliterator"), (0, .class_ 630), (0, u "java/lang/StringUTF16$CharsSpliterator")] 4

def k8m0 : Method := { name := "<init>", desc := "()V", sig := { parameters := [], returnType := none }, accessFlags := 0, code := none }
def k8c1 : Code := { maxStack := 2, maxLocals := 2, code := jdk_52_method_15_code, exceptionTable := #[], attributes := #[] }
def k8m1 : Method := { name := "coderFromArrayLen", desc := "([BI)B", sig := { parameters := [(.array .byte), .int], returnType := some .byte }, accessFlags := 8, code := some k8c1 }
def k8c2 : Code := { maxStack := 5, maxLocals := 6, code := jdk_52_method_16_code, exceptionTable := #[], attributes := #[] }
def k8m2 : Method := { name := "compress", desc := "([CII)[B", sig := { parameters := [(.array .char), .int, .int], returnType := some (.array .byte) }, accessFlags := 9, code := some k8c2 }
def k8c3 : Code := { maxStack := 3, maxLocals := 7, code := jdk_52_method_21_code, exceptionTable := #[], attributes := #[] }
def k8m3 : Method := { name := "compress", desc := "([CI[BII)I", sig := { parameters := [(.array .char), .int, (.array .byte), .int, .int], returnType := some .int }, accessFlags := 9, code := some k8c3 }
/-- java/lang/StringUTF16 -/
def k8 : Class := { plain "java/lang/StringUTF16" (some 0) with
  accessFlags := 48
  interfaces := #[]
  cf := some (fileOf pool8 12 #[.nestMembers #[627, 629, 369]] #[{ accessFlags := 0, nameIndex := 9, descriptorIndex := 10, attributes := #[] }, { accessFlags := 8, nameIndex := 261, descriptorIndex := 262, attributes := #[] }, { accessFlags := 9, nameIndex := 117, descriptorIndex := 122, attributes := #[] }, { accessFlags := 9, nameIndex := 117, descriptorIndex := 118, attributes := #[] }] 48 6 #[] #[{ accessFlags := 26, nameIndex := 61, descriptorIndex := 62, attributes := #[] }, { accessFlags := 26, nameIndex := 65, descriptorIndex := 62, attributes := #[] }, { accessFlags := 24, nameIndex := 430, descriptorIndex := 62, attributes := #[] }, { accessFlags := 4120, nameIndex := 46, descriptorIndex := 47, attributes := #[] }])
  fields := #[{ name := "HI_BYTE_SHIFT", type := .int, accessFlags := 26, slot := 0, constantValue := 0 }, { name := "LO_BYTE_SHIFT", type := .int, accessFlags := 26, slot := 1, constantValue := 0 }, { name := "MAX_LENGTH", type := .int, accessFlags := 24, slot := 2, constantValue := 0 }, { name := "$assertionsDisabled", type := .boolean, accessFlags := 4120, slot := 3, constantValue := 0 }]
  methods := #[k8m0, k8m1, k8m2, k8m3]
  instanceTypes := #[]
  staticTypes := #[.int, .int, .int, .boolean]
  resolved := Array.replicate 635 none
  statics := none }

def pool9 : Array CpInfo := pool [(2, .class_ 4), (1, u "java/lang/Enum"), (0, u "name"), (0, u "Ljava/lang/String;"), (2, u "ordinal"), (0, u "I"), (1, .class_ 14), (1, u "java/lang/Object"), (4, u "hash"), (86, .class_ 108), (1, u "java/lang/Enum$EnumDesc"), (2, .class_ 112), (0, u "java/lang/constant/Constable"), (0, .class_ 114), (0, u "java/lang/Comparable"), (0, .class_ 116), (0, u "java/io/Serializable")] 87

/-- java/lang/Enum -/
def k9 : Class := { plain "java/lang/Enum" (some 0) with
  accessFlags := 1057
  interfaces := #[5, 3, 2]
  cf := some (fileOf pool9 2 #[.nestMembers #[106]] #[] 1057 12 #[111, 113, 115] #[{ accessFlags := 18, nameIndex := 5, descriptorIndex := 6, attributes := #[] }, { accessFlags := 18, nameIndex := 9, descriptorIndex := 10, attributes := #[] }, { accessFlags := 2, nameIndex := 19, descriptorIndex := 10, attributes := #[] }])
  fields := #[{ name := "name", type := (.object "java/lang/String"), accessFlags := 18, slot := 0, constantValue := 0 }, { name := "ordinal", type := .int, accessFlags := 18, slot := 1, constantValue := 0 }, { name := "hash", type := .int, accessFlags := 2, slot := 2, constantValue := 0 }]
  methods := #[]
  instanceTypes := #[(.object "java/lang/String"), .int, .int]
  staticTypes := #[]
  resolved := Array.replicate 204 none
  statics := none }

def pool10 : Array CpInfo := pool [(1, .class_ 2), (0, u "com/example/rabotnik/rabotnik/coordinator/PrometheusText$Type"), (2, u "COUNTER"), (0, u "Lcom/example/rabotnik/rabotnik/coordinator/PrometheusText$Type;"), (2, u "GAUGE"), (2, u "HISTOGRAM"), (2, u "$VALUES"), (0, u "[Lcom/example/rabotnik/rabotnik/coordinator/PrometheusText$Type;"), (6, .class_ 25), (1, u "java/lang/Enum"), (8, u "word"), (0, u "Ljava/lang/String;"), (29, .class_ 66), (0, u "com/example/rabotnik/rabotnik/coordinator/PrometheusText")] 2

/-- com/example/rabotnik/rabotnik/coordinator/PrometheusText$Type -/
def k10 : Class := { plain "com/example/rabotnik/rabotnik/coordinator/PrometheusText$Type" (some 9) with
  accessFlags := 16432
  interfaces := #[]
  cf := some (fileOf pool10 1 #[.nestHost 65] #[] 16432 23 #[] #[{ accessFlags := 16409, nameIndex := 5, descriptorIndex := 6, attributes := #[] }, { accessFlags := 16409, nameIndex := 9, descriptorIndex := 6, attributes := #[] }, { accessFlags := 16409, nameIndex := 12, descriptorIndex := 6, attributes := #[] }, { accessFlags := 18, nameIndex := 34, descriptorIndex := 35, attributes := #[] }, { accessFlags := 4122, nameIndex := 15, descriptorIndex := 16, attributes := #[] }])
  fields := #[{ name := "COUNTER", type := (.object "com/example/rabotnik/rabotnik/coordinator/PrometheusText$Type"), accessFlags := 16409, slot := 0, constantValue := 0 }, { name := "GAUGE", type := (.object "com/example/rabotnik/rabotnik/coordinator/PrometheusText$Type"), accessFlags := 16409, slot := 1, constantValue := 0 }, { name := "HISTOGRAM", type := (.object "com/example/rabotnik/rabotnik/coordinator/PrometheusText$Type"), accessFlags := 16409, slot := 2, constantValue := 0 }, { name := "word", type := (.object "java/lang/String"), accessFlags := 18, slot := 3, constantValue := 0 }, { name := "$VALUES", type := (.array (.object "com/example/rabotnik/rabotnik/coordinator/PrometheusText$Type")), accessFlags := 4122, slot := 3, constantValue := 0 }]
  methods := #[]
  instanceTypes := #[(.object "java/lang/String"), .int, .int, (.object "java/lang/String")]
  staticTypes := #[(.object "com/example/rabotnik/rabotnik/coordinator/PrometheusText$Type"), (.object "com/example/rabotnik/rabotnik/coordinator/PrometheusText$Type"), (.object "com/example/rabotnik/rabotnik/coordinator/PrometheusText$Type"), (.array (.object "com/example/rabotnik/rabotnik/coordinator/PrometheusText$Type"))]
  resolved := Array.replicate 69 none
  statics := some 1 }

def pool11 : Array CpInfo := pool [(1, .methodref 2 3), (0, .class_ 4), (0, .nameAndType 5 6), (0, u "java/lang/Object"), (0, u "<init>"), (0, u "()V"), (0, .class_ 8), (0, u "java/lang/StringBuilder"), (0, .methodref 7 3), (0, .fieldref 11 12), (0, .class_ 13), (0, .nameAndType 14 15), (0, u "com/example/rabotnik/rabotnik/coordinator/PrometheusText"), (0, u "page"), (0, u "Ljava/lang/StringBuilder;"), (0, .fieldref 11 17), (0, .nameAndType 18 19), (0, u "family"), (0, u "Ljava/lang/String;"), (0, .string 21), (0, u "# HELP "), (0, .methodref 7 23), (0, .nameAndType 24 25), (0, u "append"), (0, u "(Ljava/lang/String;)Ljava/lang/StringBuilder;"), (0, .methodref 7 27), (0, .nameAndType 24 28), (0, u "(C)Ljava/lang/StringBuilder;"), (0, .methodref 11 30), (0, .nameAndType 31 32), (0, u "escaped"), (0, u "(Ljava/lang/String;Z)V"), (0, .string 34), (0, u "# TYPE "), (0, .fieldref 36 37), (0, .class_ 38), (0, .nameAndType 39 19), (0, u "com/example/rabotnik/rabotnik/coordinator/PrometheusText$Type"), (0, u "word"), (0, .string 41), (0, u ""), (0, .methodref 11 43), (0, .nameAndType 44 45), (0, u "sampleName"), (0, u "(Ljava/lang/String;[Ljava/lang/String;)V"), (0, .methodref 7 47), (0, .nameAndType 24 48), (0, u "(J)Ljava/lang/StringBuilder;"), (19, u "()I"), (11, u "toString"), (12, .methodref 7 94), (0, .nameAndType 80 95), (0, u "()Ljava/lang/String;"), (5, .class_ 103), (1, u "java/lang/String"), (27, .methodref 101 132), (0, .nameAndType 133 68), (0, u "length"), (0, .methodref 101 135), (0, .nameAndType 136 137), (0, u "charAt"), (0, u "(I)C"), (0, .string 139), (0, u "\\\\"), (2, .string 143), (0, u "\\n"), (0, u "CONTENT_TYPE"), (5, u "(Ljava/lang/String;Lcom/example/rabotnik/rabotnik/coordinator/PrometheusText$Type;Ljava/lang/String;)V"), (0, u "sample"), (0, u "(J[Ljava/lang/String;)V"), (6, u "text")] 19

def k11c0 : Code := { maxStack := 3, maxLocals := 1, code := prog_37_method_1_code, exceptionTable := #[], attributes := #[] }
def k11m0 : Method := { name := "<init>", desc := "()V", sig := { parameters := [], returnType := none }, accessFlags := 0, code := some k11c0 }
def k11c1 : Code := { maxStack := 3, maxLocals := 4, code := prog_37_method_2_code, exceptionTable := #[], attributes := #[] }
def k11m1 : Method := { name := "family", desc := "(Ljava/lang/String;Lcom/example/rabotnik/rabotnik/coordinator/PrometheusText$Type;Ljava/lang/String;)V", sig := { parameters := [(.object "java/lang/String"), (.object "com/example/rabotnik/rabotnik/coordinator/PrometheusText$Type"), (.object "java/lang/String")], returnType := none }, accessFlags := 0, code := some k11c1 }
def k11c2 : Code := { maxStack := 3, maxLocals := 4, code := prog_37_method_3_code, exceptionTable := #[], attributes := #[] }
def k11m2 : Method := { name := "sample", desc := "(J[Ljava/lang/String;)V", sig := { parameters := [.long, (.array (.object "java/lang/String"))], returnType := none }, accessFlags := 128, code := some k11c2 }
def k11c3 : Code := { maxStack := 1, maxLocals := 1, code := prog_37_method_6_code, exceptionTable := #[], attributes := #[] }
def k11m3 : Method := { name := "text", desc := "()Ljava/lang/String;", sig := { parameters := [], returnType := some (.object "java/lang/String") }, accessFlags := 0, code := some k11c3 }
def k11c4 : Code := { maxStack := 4, maxLocals := 4, code := prog_37_method_7_code, exceptionTable := #[], attributes := #[] }
def k11m4 : Method := { name := "sampleName", desc := "(Ljava/lang/String;[Ljava/lang/String;)V", sig := { parameters := [(.object "java/lang/String"), (.array (.object "java/lang/String"))], returnType := none }, accessFlags := 130, code := some k11c4 }
def k11c5 : Code := { maxStack := 2, maxLocals := 5, code := prog_37_method_9_code, exceptionTable := #[], attributes := #[] }
def k11m5 : Method := { name := "escaped", desc := "(Ljava/lang/String;Z)V", sig := { parameters := [(.object "java/lang/String"), .boolean], returnType := none }, accessFlags := 2, code := some k11c5 }
/-- com/example/rabotnik/rabotnik/coordinator/PrometheusText -/
def k11 : Class := { plain "com/example/rabotnik/rabotnik/coordinator/PrometheusText" (some 0) with
  accessFlags := 48
  interfaces := #[]
  cf := some (fileOf pool11 11 #[.nestMembers #[36]] #[{ accessFlags := 0, nameIndex := 5, descriptorIndex := 6, attributes := #[] }, { accessFlags := 0, nameIndex := 18, descriptorIndex := 150, attributes := #[] }, { accessFlags := 128, nameIndex := 151, descriptorIndex := 152, attributes := #[] }, { accessFlags := 0, nameIndex := 159, descriptorIndex := 95, attributes := #[] }, { accessFlags := 130, nameIndex := 44, descriptorIndex := 45, attributes := #[] }, { accessFlags := 2, nameIndex := 31, descriptorIndex := 32, attributes := #[] }] 48 2 #[] #[{ accessFlags := 24, nameIndex := 144, descriptorIndex := 19, attributes := #[] }, { accessFlags := 18, nameIndex := 14, descriptorIndex := 15, attributes := #[] }, { accessFlags := 2, nameIndex := 18, descriptorIndex := 19, attributes := #[] }])
  fields := #[{ name := "CONTENT_TYPE", type := (.object "java/lang/String"), accessFlags := 24, slot := 0, constantValue := 0 }, { name := "page", type := (.object "java/lang/StringBuilder"), accessFlags := 18, slot := 0, constantValue := 0 }, { name := "family", type := (.object "java/lang/String"), accessFlags := 2, slot := 1, constantValue := 0 }]
  methods := #[k11m0, k11m1, k11m2, k11m3, k11m4, k11m5]
  instanceTypes := #[(.object "java/lang/StringBuilder"), (.object "java/lang/String")]
  staticTypes := #[(.object "java/lang/String")]
  resolved := (Array.replicate 179 none).setIfInBounds 35 (some (.field 10 3))
  statics := none }

def pool12 : Array CpInfo := pool [(1, .class_ 2), (0, u "java/lang/Appendable"), (0, .class_ 4), (0, u "java/lang/Object")] 9

/-- java/lang/Appendable -/
def k12 : Class := { plain "java/lang/Appendable" (some 0) with
  accessFlags := 1537
  interfaces := #[]
  cf := some (fileOf pool12 1 #[] #[] 1537 3 #[] #[])
  fields := #[]
  methods := #[]
  instanceTypes := #[]
  staticTypes := #[]
  resolved := Array.replicate 14 none
  statics := none }

def pool13 : Array CpInfo := pool [(1, .class_ 2), (0, u "java/lang/String"), (0, .methodref 4 5), (0, .class_ 6), (0, .nameAndType 7 8), (0, u "java/lang/Object"), (0, u "<init>"), (0, u "()V"), (1, .class_ 12), (1, u "java/lang/AbstractStringBuilder"), (0, u "EMPTYVALUE"), (0, u "[B"), (0, .fieldref 10 16), (0, .nameAndType 17 14), (0, u "value"), (0, .fieldref 1 19), (0, .nameAndType 20 21), (0, u "COMPACT_STRINGS"), (0, u "Z"), (0, .fieldref 10 23), (0, .nameAndType 24 25), (0, u "coder"), (0, u "B"), (6, .methodref 1 33), (0, .nameAndType 34 35), (0, u "length"), (0, u "()I"), (3, .integer 2147483647), (0, .methodref 1 41), (0, .nameAndType 24 42), (0, u "()B"), (2, u "append"), (0, u "(Ljava/lang/String;)Ljava/lang/AbstractStringBuilder;"), (1, .class_ 49), (0, u "java/lang/CharSequence"), (19, u "(Ljava/lang/String;)V"), (5, u "maybeLatin1"), (3, .fieldref 10 80), (0, .nameAndType 81 82), (0, u "count"), (0, u "I"), (0, .methodref 10 84), (0, .nameAndType 85 86), (0, u "isLatin1"), (0, u "()Z"), (1, .class_ 90), (1, u "java/lang/StringLatin1"), (9, .methodref 10 101), (0, .nameAndType 102 103), (0, u "ensureCapacityInternal"), (0, u "(I)V"), (0, .methodref 10 105), (0, .nameAndType 106 107), (0, u "newCapacity"), (0, u "(I)I"), (0, .methodref 109 110), (0, .class_ 111), (0, .nameAndType 112 113), (0, u "java/util/Arrays"), (0, u "copyOf"), (0, u "([BI)[B"), (0, .methodref 115 116), (0, .class_ 117), (0, .nameAndType 118 119), (0, u "jdk/internal/util/ArraysSupport"), (0, u "newLength"), (0, u "(III)I"), (68, u "getChars"), (2, .methodref 88 192), (0, .nameAndType 193 194), (0, u "canEncode"), (0, u "(C)Z"), (13, .methodref 10 209), (0, .nameAndType 210 211), (0, u "putStringAt"), (0, u "(ILjava/lang/String;)V"), (5, u "inflateIfNeededFor"), (2, .nameAndType 221 222), (0, u "getBytes"), (0, u "([BIB)V"), (24, u "stringSize"), (6, .methodref 255 256), (0, .class_ 257), (0, .nameAndType 247 258), (0, u "java/lang/Long"), (0, u "(J)I"), (0, .methodref 255 260), (0, .nameAndType 188 261), (0, u "(JI[B)I"), (30, u "(C)Ljava/lang/AbstractStringBuilder;"), (104, .methodref 10 398), (0, .nameAndType 217 69), (0, .methodref 1 220), (3, u "()[B"), (40, .class_ 445), (0, u "java/lang/Appendable"), (67, u "(J)Ljava/lang/AbstractStringBuilder;"), (38, u "getValue")] 56

def k13m0 : Method := { name := "<init>", desc := "()V", sig := { parameters := [], returnType := none }, accessFlags := 0, code := none }
def k13c1 : Code := { maxStack := 2, maxLocals := 2, code := jdk_68_method_2_code, exceptionTable := #[], attributes := #[] }
def k13m1 : Method := { name := "<init>", desc := "(I)V", sig := { parameters := [.int], returnType := none }, accessFlags := 0, code := some k13c1 }
def k13c2 : Code := { maxStack := 1, maxLocals := 1, code := jdk_68_method_6_code, exceptionTable := #[], attributes := #[] }
def k13m2 : Method := { name := "length", desc := "()I", sig := { parameters := [], returnType := some .int }, accessFlags := 1, code := some k13c2 }
def k13c3 : Code := { maxStack := 4, maxLocals := 3, code := jdk_68_method_9_code, exceptionTable := #[], attributes := #[] }
def k13m3 : Method := { name := "ensureCapacityInternal", desc := "(I)V", sig := { parameters := [.int], returnType := none }, accessFlags := 2, code := some k13c3 }
def k13c4 : Code := { maxStack := 5, maxLocals := 6, code := jdk_68_method_10_code, exceptionTable := #[], attributes := #[] }
def k13m4 : Method := { name := "newCapacity", desc := "(I)I", sig := { parameters := [.int], returnType := some .int }, accessFlags := 2, code := some k13c4 }
def k13c5 : Code := { maxStack := 3, maxLocals := 3, code := jdk_68_method_22_code, exceptionTable := #[], attributes := #[] }
def k13m5 : Method := { name := "append", desc := "(Ljava/lang/String;)Ljava/lang/AbstractStringBuilder;", sig := { parameters := [(.object "java/lang/String")], returnType := some (.object "java/lang/AbstractStringBuilder") }, accessFlags := 1, code := some k13c5 }
def k13c6 : Code := { maxStack := 5, maxLocals := 2, code := jdk_68_method_31_code, exceptionTable := #[], attributes := #[] }
def k13m6 : Method := { name := "append", desc := "(C)Ljava/lang/AbstractStringBuilder;", sig := { parameters := [.char], returnType := some (.object "java/lang/AbstractStringBuilder") }, accessFlags := 1, code := some k13c6 }
def k13c7 : Code := { maxStack := 5, maxLocals := 5, code := jdk_68_method_33_code, exceptionTable := #[], attributes := #[] }
def k13m7 : Method := { name := "append", desc := "(J)Ljava/lang/AbstractStringBuilder;", sig := { parameters := [.long], returnType := some (.object "java/lang/AbstractStringBuilder") }, accessFlags := 1, code := some k13c7 }
def k13c8 : Code := { maxStack := 1, maxLocals := 1, code := jdk_68_method_64_code, exceptionTable := #[], attributes := #[] }
def k13m8 : Method := { name := "getValue", desc := "()[B", sig := { parameters := [], returnType := some (.array .byte) }, accessFlags := 16, code := some k13c8 }
def k13c9 : Code := { maxStack := 1, maxLocals := 1, code := jdk_68_method_68_code, exceptionTable := #[], attributes := #[] }
def k13m9 : Method := { name := "isLatin1", desc := "()Z", sig := { parameters := [], returnType := some .boolean }, accessFlags := 16, code := some k13c9 }
def k13c10 : Code := { maxStack := 2, maxLocals := 2, code := jdk_68_method_71_code, exceptionTable := #[], attributes := #[] }
def k13m10 : Method := { name := "inflateIfNeededFor", desc := "(Ljava/lang/String;)V", sig := { parameters := [(.object "java/lang/String")], returnType := none }, accessFlags := 2, code := some k13c10 }
def k13c11 : Code := { maxStack := 4, maxLocals := 3, code := jdk_68_method_73_code, exceptionTable := #[], attributes := #[] }
def k13m11 : Method := { name := "putStringAt", desc := "(ILjava/lang/String;)V", sig := { parameters := [.int, (.object "java/lang/String")], returnType := none }, accessFlags := 2, code := some k13c11 }
/-- java/lang/AbstractStringBuilder -/
def k13 : Class := { plain "java/lang/AbstractStringBuilder" (some 0) with
  accessFlags := 1056
  interfaces := #[12, 4]
  cf := some (fileOf pool13 10 #[] #[{ accessFlags := 0, nameIndex := 7, descriptorIndex := 8, attributes := #[] }, { accessFlags := 0, nameIndex := 7, descriptorIndex := 103, attributes := #[] }, { accessFlags := 1, nameIndex := 34, descriptorIndex := 35, attributes := #[] }, { accessFlags := 2, nameIndex := 102, descriptorIndex := 103, attributes := #[] }, { accessFlags := 2, nameIndex := 106, descriptorIndex := 107, attributes := #[] }, { accessFlags := 1, nameIndex := 45, descriptorIndex := 46, attributes := #[] }, { accessFlags := 1, nameIndex := 45, descriptorIndex := 292, attributes := #[] }, { accessFlags := 1, nameIndex := 45, descriptorIndex := 513, attributes := #[] }, { accessFlags := 16, nameIndex := 552, descriptorIndex := 403, attributes := #[] }, { accessFlags := 16, nameIndex := 85, descriptorIndex := 86, attributes := #[] }, { accessFlags := 2, nameIndex := 217, descriptorIndex := 69, attributes := #[] }, { accessFlags := 2, nameIndex := 210, descriptorIndex := 211, attributes := #[] }] 1056 4 #[444, 48] #[{ accessFlags := 0, nameIndex := 17, descriptorIndex := 14, attributes := #[] }, { accessFlags := 0, nameIndex := 24, descriptorIndex := 25, attributes := #[] }, { accessFlags := 0, nameIndex := 75, descriptorIndex := 21, attributes := #[] }, { accessFlags := 0, nameIndex := 81, descriptorIndex := 82, attributes := #[] }, { accessFlags := 26, nameIndex := 13, descriptorIndex := 14, attributes := #[] }])
  fields := #[{ name := "value", type := (.array .byte), accessFlags := 0, slot := 0, constantValue := 0 }, { name := "coder", type := .byte, accessFlags := 0, slot := 1, constantValue := 0 }, { name := "maybeLatin1", type := .boolean, accessFlags := 0, slot := 2, constantValue := 0 }, { name := "count", type := .int, accessFlags := 0, slot := 3, constantValue := 0 }, { name := "EMPTYVALUE", type := (.array .byte), accessFlags := 26, slot := 0, constantValue := 0 }]
  methods := #[k13m0, k13m1, k13m2, k13m3, k13m4, k13m5, k13m6, k13m7, k13m8, k13m9, k13m10, k13m11]
  instanceTypes := #[(.array .byte), .byte, .boolean, .int]
  staticTypes := #[(.array .byte)]
  resolved := Array.replicate 609 none
  statics := none }

def pool14 : Array CpInfo := pool [(1, .methodref 2 3), (0, .class_ 4), (0, .nameAndType 5 6), (0, u "java/lang/AbstractStringBuilder"), (0, u "<init>"), (0, u "(I)V"), (11, .class_ 20), (1, u "java/lang/String"), (3, .class_ 26), (1, u "java/lang/StringBuilder"), (0, u "append"), (0, u "(Ljava/lang/String;)Ljava/lang/StringBuilder;"), (0, .methodref 2 30), (0, .nameAndType 27 31), (0, u "(Ljava/lang/String;)Ljava/lang/AbstractStringBuilder;"), (18, .methodref 2 51), (0, .nameAndType 27 52), (0, u "(C)Ljava/lang/AbstractStringBuilder;"), (3, .methodref 2 57), (0, .nameAndType 27 58), (0, u "(J)Ljava/lang/AbstractStringBuilder;"), (78, .methodref 18 138), (0, .nameAndType 5 139), (0, u "(Ljava/lang/StringBuilder;)V"), (5, u "()V"), (10, u "()I"), (124, u "(J)Ljava/lang/StringBuilder;"), (4, u "(C)Ljava/lang/StringBuilder;"), (56, .methodref 2 344), (0, .nameAndType 345 156), (0, u "length"), (3, .class_ 350), (0, u "java/lang/Appendable"), (0, .class_ 352), (0, u "java/io/Serializable"), (0, .class_ 354), (0, u "java/lang/Comparable"), (0, .class_ 356), (0, u "java/lang/CharSequence"), (0, u "serialVersionUID"), (0, u "J"), (40, u "toString"), (0, u "()Ljava/lang/String;")] 21

def k14c0 : Code := { maxStack := 2, maxLocals := 1, code := jdk_67_method_1_code, exceptionTable := #[], attributes := #[] }
def k14m0 : Method := { name := "<init>", desc := "()V", sig := { parameters := [], returnType := none }, accessFlags := 1, code := some k14c0 }
def k14c1 : Code := { maxStack := 2, maxLocals := 2, code := jdk_67_method_7_code, exceptionTable := #[], attributes := #[] }
def k14m1 : Method := { name := "append", desc := "(Ljava/lang/String;)Ljava/lang/StringBuilder;", sig := { parameters := [(.object "java/lang/String")], returnType := some (.object "java/lang/StringBuilder") }, accessFlags := 1, code := some k14c1 }
def k14c2 : Code := { maxStack := 2, maxLocals := 2, code := jdk_67_method_14_code, exceptionTable := #[], attributes := #[] }
def k14m2 : Method := { name := "append", desc := "(C)Ljava/lang/StringBuilder;", sig := { parameters := [.char], returnType := some (.object "java/lang/StringBuilder") }, accessFlags := 1, code := some k14c2 }
def k14c3 : Code := { maxStack := 3, maxLocals := 3, code := jdk_67_method_16_code, exceptionTable := #[], attributes := #[] }
def k14m3 : Method := { name := "append", desc := "(J)Ljava/lang/StringBuilder;", sig := { parameters := [.long], returnType := some (.object "java/lang/StringBuilder") }, accessFlags := 1, code := some k14c3 }
def k14c4 : Code := { maxStack := 3, maxLocals := 1, code := jdk_67_method_42_code, exceptionTable := #[], attributes := #[] }
def k14m4 : Method := { name := "toString", desc := "()Ljava/lang/String;", sig := { parameters := [], returnType := some (.object "java/lang/String") }, accessFlags := 1, code := some k14c4 }
def k14c5 : Code := { maxStack := 1, maxLocals := 1, code := jdk_67_method_93_code, exceptionTable := #[], attributes := #[] }
def k14m5 : Method := { name := "length", desc := "()I", sig := { parameters := [], returnType := some .int }, accessFlags := 4161, code := some k14c5 }
/-- java/lang/StringBuilder -/
def k14 : Class := { plain "java/lang/StringBuilder" (some 13) with
  accessFlags := 49
  interfaces := #[12, 2, 3, 4]
  cf := some (fileOf pool14 24 #[] #[{ accessFlags := 1, nameIndex := 5, descriptorIndex := 145, attributes := #[] }, { accessFlags := 1, nameIndex := 27, descriptorIndex := 28, attributes := #[] }, { accessFlags := 1, nameIndex := 27, descriptorIndex := 286, attributes := #[] }, { accessFlags := 1, nameIndex := 27, descriptorIndex := 281, attributes := #[] }, { accessFlags := 1, nameIndex := 399, descriptorIndex := 400, attributes := #[] }, { accessFlags := 4161, nameIndex := 345, descriptorIndex := 156, attributes := #[] }] 49 2 #[349, 351, 353, 355] #[{ accessFlags := 24, nameIndex := 357, descriptorIndex := 358, attributes := #[] }])
  fields := #[{ name := "serialVersionUID", type := .long, accessFlags := 24, slot := 0, constantValue := 0 }]
  methods := #[k14m0, k14m1, k14m2, k14m3, k14m4, k14m5]
  instanceTypes := #[(.array .byte), .byte, .boolean, .int]
  staticTypes := #[.long]
  resolved := Array.replicate 422 none
  statics := none }

def pool15 : Array CpInfo := pool [(2, .class_ 4), (1, u "java/lang/Object"), (0, u "<init>"), (0, u "()V"), (1, .class_ 10), (1, u "java/lang/System"), (0, u "allowSecurityManager"), (0, u "I"), (16, u "cons"), (0, u "Ljava/io/Console;"), (77, .class_ 110), (1, u "java/lang/System$CallersHolder"), (43, u "initialErrStream"), (0, u "Ljava/io/PrintStream;"), (19, u "security"), (0, u "Ljava/lang/SecurityManager;"), (31, .class_ 209), (0, u "java/lang/System$1"), (7, u "props"), (0, u "Ljava/util/Properties;"), (2, u "lineSeparator"), (0, u "Ljava/lang/String;"), (96, .class_ 321), (1, u "java/lang/System$LoggerFinder"), (5, .class_ 328), (0, u "java/lang/System$Logger"), (67, u "err"), (2, u "out"), (91, u "notSupportedJnuEncoding"), (15, u "in"), (17, u "initialIn"), (0, u "Ljava/io/InputStream;"), (35, u "bootLayer"), (0, u "Ljava/lang/ModuleLayer;"), (99, .class_ 664), (0, u "java/lang/System$2"), (9, u "NEVER"), (2, u "MAYBE"), (49, u "arraycopy"), (0, u "(Ljava/lang/Object;ILjava/lang/Object;II)V"), (72, .class_ 802), (0, u "java/lang/System$Logger$Level")] 31

def k15m0 : Method := { name := "<init>", desc := "()V", sig := { parameters := [], returnType := none }, accessFlags := 2, code := none }
def k15m1 : Method := { name := "arraycopy", desc := "(Ljava/lang/Object;ILjava/lang/Object;II)V", sig := { parameters := [(.object "java/lang/Object"), .int, (.object "java/lang/Object"), .int, .int], returnType := none }, accessFlags := 265, code := none }
/-- java/lang/System -/
def k15 : Class := { plain "java/lang/System" (some 0) with
  accessFlags := 49
  interfaces := #[]
  cf := some (fileOf pool15 8 #[.nestMembers #[319, 327, 801, 108, 663, 208]] #[{ accessFlags := 2, nameIndex := 5, descriptorIndex := 6, attributes := #[] }, { accessFlags := 265, nameIndex := 727, descriptorIndex := 728, attributes := #[] }] 49 2 #[] #[{ accessFlags := 25, nameIndex := 507, descriptorIndex := 526, attributes := #[] }, { accessFlags := 25, nameIndex := 399, descriptorIndex := 155, attributes := #[] }, { accessFlags := 25, nameIndex := 396, descriptorIndex := 155, attributes := #[] }, { accessFlags := 10, nameIndex := 525, descriptorIndex := 526, attributes := #[] }, { accessFlags := 26, nameIndex := 674, descriptorIndex := 12, attributes := #[] }, { accessFlags := 26, nameIndex := 677, descriptorIndex := 12, attributes := #[] }, { accessFlags := 10, nameIndex := 11, descriptorIndex := 12, attributes := #[] }, { accessFlags := 74, nameIndex := 175, descriptorIndex := 176, attributes := #[] }, { accessFlags := 10, nameIndex := 491, descriptorIndex := 222, attributes := #[] }, { accessFlags := 74, nameIndex := 29, descriptorIndex := 30, attributes := #[] }, { accessFlags := 74, nameIndex := 154, descriptorIndex := 155, attributes := #[] }, { accessFlags := 10, nameIndex := 217, descriptorIndex := 218, attributes := #[] }, { accessFlags := 10, nameIndex := 221, descriptorIndex := 222, attributes := #[] }, { accessFlags := 8, nameIndex := 562, descriptorIndex := 563, attributes := #[] }])
  fields := #[{ name := "in", type := (.object "java/io/InputStream"), accessFlags := 25, slot := 0, constantValue := 0 }, { name := "out", type := (.object "java/io/PrintStream"), accessFlags := 25, slot := 1, constantValue := 0 }, { name := "err", type := (.object "java/io/PrintStream"), accessFlags := 25, slot := 2, constantValue := 0 }, { name := "initialIn", type := (.object "java/io/InputStream"), accessFlags := 10, slot := 3, constantValue := 0 }, { name := "NEVER", type := .int, accessFlags := 26, slot := 4, constantValue := 0 }, { name := "MAYBE", type := .int, accessFlags := 26, slot := 5, constantValue := 0 }, { name := "allowSecurityManager", type := .int, accessFlags := 10, slot := 6, constantValue := 0 }, { name := "security", type := (.object "java/lang/SecurityManager"), accessFlags := 74, slot := 7, constantValue := 0 }, { name := "notSupportedJnuEncoding", type := (.object "java/lang/String"), accessFlags := 10, slot := 8, constantValue := 0 }, { name := "cons", type := (.object "java/io/Console"), accessFlags := 74, slot := 9, constantValue := 0 }, { name := "initialErrStream", type := (.object "java/io/PrintStream"), accessFlags := 74, slot := 10, constantValue := 0 }, { name := "props", type := (.object "java/util/Properties"), accessFlags := 10, slot := 11, constantValue := 0 }, { name := "lineSeparator", type := (.object "java/lang/String"), accessFlags := 10, slot := 12, constantValue := 0 }, { name := "bootLayer", type := (.object "java/lang/ModuleLayer"), accessFlags := 8, slot := 13, constantValue := 0 }]
  methods := #[k15m0, k15m1]
  instanceTypes := #[]
  staticTypes := #[(.object "java/io/InputStream"), (.object "java/io/PrintStream"), (.object "java/io/PrintStream"), (.object "java/io/InputStream"), .int, .int, .int, (.object "java/lang/SecurityManager"), (.object "java/lang/String"), (.object "java/io/Console"), (.object "java/io/PrintStream"), (.object "java/util/Properties"), (.object "java/lang/String"), (.object "java/lang/ModuleLayer")]
  resolved := Array.replicate 834 none
  statics := none }

def pool16 : Array CpInfo := pool [(1, .class_ 2), (0, u "java/lang/String"), (1, .class_ 6), (1, u "java/lang/Object"), (0, u "<init>"), (0, u "()V"), (0, .methodref 1 10), (0, .nameAndType 11 12), (0, u "checkIndex"), (0, u "(II)V"), (1, .class_ 16), (1, u "java/lang/StringLatin1"), (36, u "([BI)C"), (36, u "canEncode"), (14, u "(C)Z"), (15, u "$assertionsDisabled"), (0, u "Z"), (98, .class_ 223), (1, u "java/lang/StringLatin1$LinesSpliterator"), (28, u "charAt"), (127, u "toBytes"), (1, u "(C)[B"), (7, .class_ 391), (0, u "java/lang/StringLatin1$CharsSpliterator")] 3

def k16m0 : Method := { name := "<init>", desc := "()V", sig := { parameters := [], returnType := none }, accessFlags := 0, code := none }
def k16c1 : Code := { maxStack := 2, maxLocals := 2, code := jdk_43_method_2_code, exceptionTable := #[], attributes := #[] }
def k16m1 : Method := { name := "charAt", desc := "([BI)C", sig := { parameters := [(.array .byte), .int], returnType := some .char }, accessFlags := 9, code := some k16c1 }
def k16c2 : Code := { maxStack := 2, maxLocals := 1, code := jdk_43_method_3_code, exceptionTable := #[], attributes := #[] }
def k16m2 : Method := { name := "canEncode", desc := "(C)Z", sig := { parameters := [.char], returnType := some .boolean }, accessFlags := 9, code := some k16c2 }
def k16c3 : Code := { maxStack := 4, maxLocals := 1, code := jdk_43_method_46_code, exceptionTable := #[], attributes := #[] }
def k16m3 : Method := { name := "toBytes", desc := "(C)[B", sig := { parameters := [.char], returnType := some (.array .byte) }, accessFlags := 9, code := some k16c3 }
/-- java/lang/StringLatin1 -/
def k16 : Class := { plain "java/lang/StringLatin1" (some 0) with
  accessFlags := 48
  interfaces := #[]
  cf := some (fileOf pool16 14 #[.nestMembers #[390, 221]] #[{ accessFlags := 0, nameIndex := 7, descriptorIndex := 8, attributes := #[] }, { accessFlags := 9, nameIndex := 252, descriptorIndex := 53, attributes := #[] }, { accessFlags := 9, nameIndex := 90, descriptorIndex := 105, attributes := #[] }, { accessFlags := 9, nameIndex := 380, descriptorIndex := 382, attributes := #[] }] 48 4 #[] #[{ accessFlags := 4120, nameIndex := 121, descriptorIndex := 122, attributes := #[] }])
  fields := #[{ name := "$assertionsDisabled", type := .boolean, accessFlags := 4120, slot := 0, constantValue := 0 }]
  methods := #[k16m0, k16m1, k16m2, k16m3]
  instanceTypes := #[]
  staticTypes := #[.boolean]
  resolved := Array.replicate 395 none
  statics := none }

def pool17 : Array CpInfo := pool [(9, u "<init>"), (6, .class_ 18), (1, u "java/lang/Object"), (0, u "()V"), (1, .class_ 23), (1, u "jdk/internal/util/ArraysSupport"), (0, u "LOG2_ARRAY_LONG_INDEX_SCALE"), (0, u "I"), (2, u "U"), (0, u "Ljdk/internal/misc/Unsafe;"), (8, u "BIG_ENDIAN"), (0, u "Z"), (8, u "LOG2_BYTE_BIT_SIZE"), (4, u "LOG2_ARRAY_INT_INDEX_SCALE"), (54, u "JLA"), (0, u "Ljdk/internal/access/JavaLangAccess;"), (11, u "LOG2_ARRAY_BOOLEAN_INDEX_SCALE"), (9, u "LOG2_ARRAY_BYTE_INDEX_SCALE"), (5, u "LOG2_ARRAY_CHAR_INDEX_SCALE"), (5, u "LOG2_ARRAY_SHORT_INDEX_SCALE"), (18, u "LOG2_ARRAY_FLOAT_INDEX_SCALE"), (24, u "LOG2_ARRAY_DOUBLE_INDEX_SCALE"), (6, .methodref 195 196), (0, .class_ 197), (0, .nameAndType 198 199), (0, u "java/lang/Math"), (0, u "max"), (0, u "(II)I"), (0, .integer 2147483639), (76, u "T_BOOLEAN"), (2, u "T_CHAR"), (1, u "T_FLOAT"), (1, u "T_DOUBLE"), (1, u "T_BYTE"), (1, u "T_SHORT"), (1, u "T_INT"), (1, u "T_LONG"), (1, u "SOFT_MAX_ARRAY_LENGTH"), (56, u "newLength"), (0, u "(III)I")] 25

def k17m0 : Method := { name := "<init>", desc := "()V", sig := { parameters := [], returnType := none }, accessFlags := 2, code := none }
def k17c1 : Code := { maxStack := 3, maxLocals := 4, code := jdk_48_method_27_code, exceptionTable := #[], attributes := #[] }
def k17m1 : Method := { name := "newLength", desc := "(III)I", sig := { parameters := [.int, .int, .int], returnType := some .int }, accessFlags := 9, code := some k17c1 }
/-- jdk/internal/util/ArraysSupport -/
def k17 : Class := { plain "jdk/internal/util/ArraysSupport" (some 0) with
  accessFlags := 33
  interfaces := #[]
  cf := some (fileOf pool17 21 #[] #[{ accessFlags := 2, nameIndex := 9, descriptorIndex := 19, attributes := #[] }, { accessFlags := 9, nameIndex := 351, descriptorIndex := 352, attributes := #[] }] 33 16 #[] #[{ accessFlags := 24, nameIndex := 28, descriptorIndex := 29, attributes := #[] }, { accessFlags := 26, nameIndex := 38, descriptorIndex := 39, attributes := #[] }, { accessFlags := 25, nameIndex := 121, descriptorIndex := 25, attributes := #[] }, { accessFlags := 25, nameIndex := 131, descriptorIndex := 25, attributes := #[] }, { accessFlags := 25, nameIndex := 137, descriptorIndex := 25, attributes := #[] }, { accessFlags := 25, nameIndex := 143, descriptorIndex := 25, attributes := #[] }, { accessFlags := 25, nameIndex := 53, descriptorIndex := 25, attributes := #[] }, { accessFlags := 25, nameIndex := 24, descriptorIndex := 25, attributes := #[] }, { accessFlags := 25, nameIndex := 162, descriptorIndex := 25, attributes := #[] }, { accessFlags := 25, nameIndex := 187, descriptorIndex := 25, attributes := #[] }, { accessFlags := 26, nameIndex := 48, descriptorIndex := 25, attributes := #[] }, { accessFlags := 25, nameIndex := 277, descriptorIndex := 25, attributes := #[] }, { accessFlags := 25, nameIndex := 280, descriptorIndex := 25, attributes := #[] }, { accessFlags := 25, nameIndex := 282, descriptorIndex := 25, attributes := #[] }, { accessFlags := 25, nameIndex := 284, descriptorIndex := 25, attributes := #[] }, { accessFlags := 25, nameIndex := 286, descriptorIndex := 25, attributes := #[] }, { accessFlags := 25, nameIndex := 288, descriptorIndex := 25, attributes := #[] }, { accessFlags := 25, nameIndex := 290, descriptorIndex := 25, attributes := #[] }, { accessFlags := 25, nameIndex := 292, descriptorIndex := 25, attributes := #[] }, { accessFlags := 26, nameIndex := 108, descriptorIndex := 109, attributes := #[] }, { accessFlags := 25, nameIndex := 294, descriptorIndex := 25, attributes := #[] }])
  fields := #[{ name := "U", type := (.object "jdk/internal/misc/Unsafe"), accessFlags := 24, slot := 0, constantValue := 0 }, { name := "BIG_ENDIAN", type := .boolean, accessFlags := 26, slot := 1, constantValue := 0 }, { name := "LOG2_ARRAY_BOOLEAN_INDEX_SCALE", type := .int, accessFlags := 25, slot := 2, constantValue := 0 }, { name := "LOG2_ARRAY_BYTE_INDEX_SCALE", type := .int, accessFlags := 25, slot := 3, constantValue := 0 }, { name := "LOG2_ARRAY_CHAR_INDEX_SCALE", type := .int, accessFlags := 25, slot := 4, constantValue := 0 }, { name := "LOG2_ARRAY_SHORT_INDEX_SCALE", type := .int, accessFlags := 25, slot := 5, constantValue := 0 }, { name := "LOG2_ARRAY_INT_INDEX_SCALE", type := .int, accessFlags := 25, slot := 6, constantValue := 0 }, { name := "LOG2_ARRAY_LONG_INDEX_SCALE", type := .int, accessFlags := 25, slot := 7, constantValue := 0 }, { name := "LOG2_ARRAY_FLOAT_INDEX_SCALE", type := .int, accessFlags := 25, slot := 8, constantValue := 0 }, { name := "LOG2_ARRAY_DOUBLE_INDEX_SCALE", type := .int, accessFlags := 25, slot := 9, constantValue := 0 }, { name := "LOG2_BYTE_BIT_SIZE", type := .int, accessFlags := 26, slot := 10, constantValue := 0 }, { name := "T_BOOLEAN", type := .int, accessFlags := 25, slot := 11, constantValue := 0 }, { name := "T_CHAR", type := .int, accessFlags := 25, slot := 12, constantValue := 0 }, { name := "T_FLOAT", type := .int, accessFlags := 25, slot := 13, constantValue := 0 }, { name := "T_DOUBLE", type := .int, accessFlags := 25, slot := 14, constantValue := 0 }, { name := "T_BYTE", type := .int, accessFlags := 25, slot := 15, constantValue := 0 }, { name := "T_SHORT", type := .int, accessFlags := 25, slot := 16, constantValue := 0 }, { name := "T_INT", type := .int, accessFlags := 25, slot := 17, constantValue := 0 }, { name := "T_LONG", type := .int, accessFlags := 25, slot := 18, constantValue := 0 }, { name := "JLA", type := (.object "jdk/internal/access/JavaLangAccess"), accessFlags := 26, slot := 19, constantValue := 0 }, { name := "SOFT_MAX_ARRAY_LENGTH", type := .int, accessFlags := 25, slot := 20, constantValue := 0 }]
  methods := #[k17m0, k17m1]
  instanceTypes := #[]
  staticTypes := #[(.object "jdk/internal/misc/Unsafe"), .boolean, .int, .int, .int, .int, .int, .int, .int, .int, .int, .int, .int, .int, .int, .int, .int, .int, .int, (.object "jdk/internal/access/JavaLangAccess"), .int]
  resolved := Array.replicate 378 none
  statics := none }

def pool18 : Array CpInfo := pool [(1, .class_ 2), (0, u "java/lang/Math"), (1, .class_ 6), (1, u "java/lang/Object"), (0, u "<init>"), (0, u "()V"), (89, .class_ 100), (1, u "java/lang/Math$RandomNumberGeneratorHolder"), (71, u "negativeZeroFloatBits"), (0, u "J"), (2, u "negativeZeroDoubleBits"), (21, u "max"), (2, u "min"), (43, u "$assertionsDisabled"), (0, u "Z"), (88, u "(II)I"), (2, u "twoToTheDoubleScaleDown"), (0, u "D"), (4, u "twoToTheDoubleScaleUp"), (9, u "E"), (3, u "PI"), (2, u "TAU"), (2, u "DEGREES_TO_RADIANS"), (0, u "RADIANS_TO_DEGREES")] 94

def k18m0 : Method := { name := "<init>", desc := "()V", sig := { parameters := [], returnType := none }, accessFlags := 2, code := none }
def k18c1 : Code := { maxStack := 2, maxLocals := 2, code := jdk_29_method_65_code, exceptionTable := #[], attributes := #[] }
def k18m1 : Method := { name := "max", desc := "(II)I", sig := { parameters := [.int, .int], returnType := some .int }, accessFlags := 9, code := some k18c1 }
def k18c2 : Code := { maxStack := 2, maxLocals := 2, code := jdk_29_method_69_code, exceptionTable := #[], attributes := #[] }
def k18m2 : Method := { name := "min", desc := "(II)I", sig := { parameters := [.int, .int], returnType := some .int }, accessFlags := 9, code := some k18c2 }
/-- java/lang/Math -/
def k18 : Class := { plain "java/lang/Math" (some 0) with
  accessFlags := 49
  interfaces := #[]
  cf := some (fileOf pool18 1 #[.nestMembers #[98]] #[{ accessFlags := 2, nameIndex := 7, descriptorIndex := 8, attributes := #[] }, { accessFlags := 9, nameIndex := 198, descriptorIndex := 335, attributes := #[] }, { accessFlags := 9, nameIndex := 201, descriptorIndex := 335, attributes := #[] }] 49 4 #[] #[{ accessFlags := 25, nameIndex := 354, descriptorIndex := 339, attributes := #[] }, { accessFlags := 25, nameIndex := 358, descriptorIndex := 339, attributes := #[] }, { accessFlags := 25, nameIndex := 361, descriptorIndex := 339, attributes := #[] }, { accessFlags := 26, nameIndex := 364, descriptorIndex := 339, attributes := #[] }, { accessFlags := 26, nameIndex := 365, descriptorIndex := 339, attributes := #[] }, { accessFlags := 26, nameIndex := 172, descriptorIndex := 173, attributes := #[] }, { accessFlags := 26, nameIndex := 176, descriptorIndex := 173, attributes := #[] }, { accessFlags := 8, nameIndex := 344, descriptorIndex := 339, attributes := #[] }, { accessFlags := 8, nameIndex := 338, descriptorIndex := 339, attributes := #[] }, { accessFlags := 4120, nameIndex := 245, descriptorIndex := 246, attributes := #[] }])
  fields := #[{ name := "E", type := .double, accessFlags := 25, slot := 0, constantValue := 0 }, { name := "PI", type := .double, accessFlags := 25, slot := 1, constantValue := 0 }, { name := "TAU", type := .double, accessFlags := 25, slot := 2, constantValue := 0 }, { name := "DEGREES_TO_RADIANS", type := .double, accessFlags := 26, slot := 3, constantValue := 0 }, { name := "RADIANS_TO_DEGREES", type := .double, accessFlags := 26, slot := 4, constantValue := 0 }, { name := "negativeZeroFloatBits", type := .long, accessFlags := 26, slot := 5, constantValue := 0 }, { name := "negativeZeroDoubleBits", type := .long, accessFlags := 26, slot := 6, constantValue := 0 }, { name := "twoToTheDoubleScaleUp", type := .double, accessFlags := 8, slot := 7, constantValue := 0 }, { name := "twoToTheDoubleScaleDown", type := .double, accessFlags := 8, slot := 8, constantValue := 0 }, { name := "$assertionsDisabled", type := .boolean, accessFlags := 4120, slot := 9, constantValue := 0 }]
  methods := #[k18m0, k18m1, k18m2]
  instanceTypes := #[]
  staticTypes := #[.double, .double, .double, .double, .double, .long, .long, .double, .double, .boolean]
  resolved := Array.replicate 460 none
  statics := none }

def pool19 : Array CpInfo := pool [(2, .class_ 4), (1, u "java/lang/Object"), (0, u "<init>"), (0, u "()V"), (7, .class_ 16), (1, u "java/util/Arrays"), (57, .class_ 76), (1, u "java/util/Arrays$NaturalOrder"), (32, u "()Ljava/lang/Object;"), (3, .class_ 115), (1, u "java/util/Arrays$LegacyMergeSort"), (1, u "Z"), (10, .nameAndType 129 109), (0, u "clone"), (9, u "copyOfRange"), (10, .methodref 151 152), (0, .class_ 153), (0, .nameAndType 154 155), (0, u "java/lang/System"), (0, u "arraycopy"), (0, u "(Ljava/lang/Object;ILjava/lang/Object;II)V"), (146, u "copyOf"), (1, .methodref 305 306), (0, .class_ 307), (0, .nameAndType 308 309), (0, u "java/lang/Math"), (0, u "min"), (0, u "(II)I"), (0, .methodref 311 128), (0, .class_ 312), (0, u "[B"), (26, .methodref 14 340), (0, .nameAndType 341 342), (0, u "copyOfRangeByte"), (0, u "([BII)[B"), (0, .methodref 14 344), (0, .nameAndType 345 346), (0, u "checkLength"), (0, u "(II)V"), (28, .class_ 376), (0, u "java/util/Arrays$ArrayList"), (68, u "$assertionsDisabled"), (269, u "MIN_ARRAY_SORT_GRAN"), (0, u "I"), (2, u "INSERTIONSORT_THRESHOLD"), (149, u "([BI)[B"), (105, .class_ 976), (0, u "java/util/Arrays$ArrayItr")] 52

def k19m0 : Method := { name := "<init>", desc := "()V", sig := { parameters := [], returnType := none }, accessFlags := 2, code := none }
def k19c1 : Code := { maxStack := 6, maxLocals := 3, code := jdk_65_method_121_code, exceptionTable := #[], attributes := #[] }
def k19m1 : Method := { name := "copyOf", desc := "([BI)[B", sig := { parameters := [(.array .byte), .int], returnType := some (.array .byte) }, accessFlags := 9, code := some k19c1 }
def k19c2 : Code := { maxStack := 4, maxLocals := 2, code := jdk_65_method_131_code, exceptionTable := #[], attributes := #[] }
def k19m2 : Method := { name := "checkLength", desc := "(II)V", sig := { parameters := [.int, .int], returnType := none }, accessFlags := 10, code := some k19c2 }
def k19c3 : Code := { maxStack := 3, maxLocals := 3, code := jdk_65_method_132_code, exceptionTable := #[], attributes := #[] }
def k19m3 : Method := { name := "copyOfRange", desc := "([BII)[B", sig := { parameters := [(.array .byte), .int, .int], returnType := some (.array .byte) }, accessFlags := 9, code := some k19c3 }
def k19c4 : Code := { maxStack := 6, maxLocals := 5, code := jdk_65_method_133_code, exceptionTable := #[], attributes := #[] }
def k19m4 : Method := { name := "copyOfRangeByte", desc := "([BII)[B", sig := { parameters := [(.array .byte), .int, .int], returnType := some (.array .byte) }, accessFlags := 10, code := some k19c4 }
/-- java/util/Arrays -/
def k19 : Class := { plain "java/util/Arrays" (some 0) with
  accessFlags := 49
  interfaces := #[]
  cf := some (fileOf pool19 14 #[.nestMembers #[975, 375, 113, 74]] #[{ accessFlags := 2, nameIndex := 5, descriptorIndex := 6, attributes := #[] }, { accessFlags := 9, nameIndex := 302, descriptorIndex := 869, attributes := #[] }, { accessFlags := 10, nameIndex := 345, descriptorIndex := 346, attributes := #[] }, { accessFlags := 9, nameIndex := 139, descriptorIndex := 342, attributes := #[] }, { accessFlags := 10, nameIndex := 341, descriptorIndex := 342, attributes := #[] }] 49 2 #[] #[{ accessFlags := 26, nameIndex := 715, descriptorIndex := 716, attributes := #[] }, { accessFlags := 26, nameIndex := 719, descriptorIndex := 716, attributes := #[] }, { accessFlags := 4120, nameIndex := 445, descriptorIndex := 117, attributes := #[] }])
  fields := #[{ name := "MIN_ARRAY_SORT_GRAN", type := .int, accessFlags := 26, slot := 0, constantValue := 0 }, { name := "INSERTIONSORT_THRESHOLD", type := .int, accessFlags := 26, slot := 1, constantValue := 0 }, { name := "$assertionsDisabled", type := .boolean, accessFlags := 4120, slot := 2, constantValue := 0 }]
  methods := #[k19m0, k19m1, k19m2, k19m3, k19m4]
  instanceTypes := #[]
  staticTypes := #[.int, .int, .boolean]
  resolved := Array.replicate 1029 none
  statics := none }

def pool20 : Array CpInfo := pool [(2, .class_ 4), (1, u "java/lang/Object"), (0, u "<init>"), (0, u "()V"), (1, .class_ 10), (1, u "java/lang/Number"), (2, .class_ 14), (0, u "java/io/Serializable"), (0, u "serialVersionUID"), (0, u "J")] 20

def k20m0 : Method := { name := "<init>", desc := "()V", sig := { parameters := [], returnType := none }, accessFlags := 1, code := none }
/-- java/lang/Number -/
def k20 : Class := { plain "java/lang/Number" (some 0) with
  accessFlags := 1057
  interfaces := #[2]
  cf := some (fileOf pool20 8 #[] #[{ accessFlags := 1, nameIndex := 5, descriptorIndex := 6, attributes := #[] }] 1057 2 #[13] #[{ accessFlags := 26, nameIndex := 15, descriptorIndex := 16, attributes := #[] }])
  fields := #[{ name := "serialVersionUID", type := .long, accessFlags := 26, slot := 0, constantValue := 0 }]
  methods := #[k20m0]
  instanceTypes := #[]
  staticTypes := #[.long]
  resolved := Array.replicate 37 none
  statics := none }

def pool21 : Array CpInfo := pool [(1, .class_ 2), (0, u "java/lang/Long"), (15, .class_ 20), (1, u "java/lang/Integer"), (80, u "(J)I"), (18, u "stringSize"), (2, u "getChars"), (0, u "(JI[B)I"), (4, .long 18446744071562067968), (3, .fieldref 18 134), (0, .nameAndType 135 136), (0, u "DigitOnes"), (0, u "[B"), (3, .long 18446744073709551606), (94, .class_ 237), (1, u "java/lang/Long$LongCache"), (33, .class_ 272), (0, u "java/lang/Number"), (2, u "value"), (0, u "J"), (84, u "TYPE"), (0, u "Ljava/lang/Class;"), (0, .class_ 364), (0, u "java/lang/Comparable"), (0, .class_ 366), (0, u "java/lang/constant/Constable"), (0, .class_ 368), (0, u "java/lang/constant/ConstantDesc"), (0, u "MIN_VALUE"), (1, u "MAX_VALUE"), (4, u "SIZE"), (0, u "I"), (1, u "BYTES"), (1, u "serialVersionUID")] 142

def k21c0 : Code := { maxStack := 4, maxLocals := 11, code := jdk_35_method_14_code, exceptionTable := #[], attributes := #[] }
def k21m0 : Method := { name := "getChars", desc := "(JI[B)I", sig := { parameters := [.long, .int, (.array .byte)], returnType := some .int }, accessFlags := 8, code := some k21c0 }
def k21c1 : Code := { maxStack := 4, maxLocals := 6, code := jdk_35_method_15_code, exceptionTable := #[], attributes := #[] }
def k21m1 : Method := { name := "stringSize", desc := "(J)I", sig := { parameters := [.long], returnType := some .int }, accessFlags := 8, code := some k21c1 }
/-- java/lang/Long -/
def k21 : Class := { plain "java/lang/Long" (some 20) with
  accessFlags := 49
  interfaces := #[3, 5, 6]
  cf := some (fileOf pool21 1 #[.nestMembers #[235]] #[{ accessFlags := 8, nameIndex := 123, descriptorIndex := 124, attributes := #[] }, { accessFlags := 8, nameIndex := 120, descriptorIndex := 101, attributes := #[] }] 49 271 #[363, 365, 367] #[{ accessFlags := 25, nameIndex := 369, descriptorIndex := 276, attributes := #[] }, { accessFlags := 25, nameIndex := 371, descriptorIndex := 276, attributes := #[] }, { accessFlags := 25, nameIndex := 361, descriptorIndex := 362, attributes := #[] }, { accessFlags := 18, nameIndex := 275, descriptorIndex := 276, attributes := #[] }, { accessFlags := 25, nameIndex := 376, descriptorIndex := 377, attributes := #[] }, { accessFlags := 25, nameIndex := 379, descriptorIndex := 377, attributes := #[] }, { accessFlags := 26, nameIndex := 381, descriptorIndex := 276, attributes := #[] }])
  fields := #[{ name := "MIN_VALUE", type := .long, accessFlags := 25, slot := 0, constantValue := 0 }, { name := "MAX_VALUE", type := .long, accessFlags := 25, slot := 1, constantValue := 0 }, { name := "TYPE", type := (.object "java/lang/Class"), accessFlags := 25, slot := 2, constantValue := 0 }, { name := "value", type := .long, accessFlags := 18, slot := 0, constantValue := 0 }, { name := "SIZE", type := .int, accessFlags := 25, slot := 3, constantValue := 0 }, { name := "BYTES", type := .int, accessFlags := 25, slot := 4, constantValue := 0 }, { name := "serialVersionUID", type := .long, accessFlags := 26, slot := 5, constantValue := 0 }]
  methods := #[k21m0, k21m1]
  instanceTypes := #[.long]
  staticTypes := #[.long, .long, (.object "java/lang/Class"), .int, .int, .long]
  resolved := Array.replicate 524 none
  statics := none }

def pool22 : Array CpInfo := pool [(1, .class_ 2), (0, u "java/lang/Integer"), (16, u "digits"), (0, u "[C"), (64, u "DigitOnes"), (0, u "[B"), (2, u "DigitTens"), (99, .class_ 190), (0, u "java/lang/Integer$IntegerCache"), (3, u "I"), (8, .class_ 204), (0, u "java/lang/Number"), (2, u "value"), (94, u "TYPE"), (0, u "Ljava/lang/Class;"), (0, .class_ 305), (0, u "java/lang/Comparable"), (0, .class_ 307), (0, u "java/lang/constant/Constable"), (0, .class_ 309), (0, u "java/lang/constant/ConstantDesc"), (0, u "MIN_VALUE"), (1, u "MAX_VALUE"), (3, u "SIZE"), (1, u "BYTES"), (1, u "serialVersionUID"), (0, u "J")] 131

/-- java/lang/Integer -/
def k22 : Class := { plain "java/lang/Integer" (some 20) with
  accessFlags := 49
  interfaces := #[3, 5, 6]
  cf := some (fileOf pool22 1 #[.nestMembers #[189]] #[] 49 203 #[304, 306, 308] #[{ accessFlags := 25, nameIndex := 310, descriptorIndex := 194, attributes := #[] }, { accessFlags := 25, nameIndex := 312, descriptorIndex := 194, attributes := #[] }, { accessFlags := 25, nameIndex := 302, descriptorIndex := 303, attributes := #[] }, { accessFlags := 24, nameIndex := 19, descriptorIndex := 20, attributes := #[] }, { accessFlags := 24, nameIndex := 89, descriptorIndex := 86, attributes := #[] }, { accessFlags := 24, nameIndex := 85, descriptorIndex := 86, attributes := #[] }, { accessFlags := 18, nameIndex := 207, descriptorIndex := 194, attributes := #[] }, { accessFlags := 25, nameIndex := 316, descriptorIndex := 194, attributes := #[] }, { accessFlags := 25, nameIndex := 318, descriptorIndex := 194, attributes := #[] }, { accessFlags := 26, nameIndex := 320, descriptorIndex := 321, attributes := #[] }])
  fields := #[{ name := "MIN_VALUE", type := .int, accessFlags := 25, slot := 0, constantValue := 0 }, { name := "MAX_VALUE", type := .int, accessFlags := 25, slot := 1, constantValue := 0 }, { name := "TYPE", type := (.object "java/lang/Class"), accessFlags := 25, slot := 2, constantValue := 0 }, { name := "digits", type := (.array .char), accessFlags := 24, slot := 3, constantValue := 0 }, { name := "DigitTens", type := (.array .byte), accessFlags := 24, slot := 4, constantValue := 0 }, { name := "DigitOnes", type := (.array .byte), accessFlags := 24, slot := 5, constantValue := 0 }, { name := "value", type := .int, accessFlags := 18, slot := 0, constantValue := 0 }, { name := "SIZE", type := .int, accessFlags := 25, slot := 6, constantValue := 0 }, { name := "BYTES", type := .int, accessFlags := 25, slot := 7, constantValue := 0 }, { name := "serialVersionUID", type := .long, accessFlags := 26, slot := 8, constantValue := 0 }]
  methods := #[]
  instanceTypes := #[.int]
  staticTypes := #[.int, .int, (.object "java/lang/Class"), (.array .char), (.array .byte), (.array .byte), .int, .int, .long]
  resolved := Array.replicate 453 none
  statics := some 2 }

def pool23 : Array CpInfo := pool [(1, .class_ 2), (0, u "java/lang/Cloneable"), (0, .class_ 4), (0, u "java/lang/Object")] 2

/-- java/lang/Cloneable -/
def k23 : Class := { plain "java/lang/Cloneable" (some 0) with
  accessFlags := 1537
  interfaces := #[]
  cf := some (fileOf pool23 1 #[] #[] 1537 3 #[] #[])
  fields := #[]
  methods := #[]
  instanceTypes := #[]
  staticTypes := #[]
  resolved := Array.replicate 7 none
  statics := none }

def pool24 : Array CpInfo := pool [(2, .class_ 4), (1, u "java/lang/Object"), (0, u "<init>"), (0, u "()V"), (17, .class_ 26), (1, u "jdk/internal/util/Preconditions"), (6, u "checkIndex"), (21, .class_ 56), (0, u "jdk/internal/util/Preconditions$4"), (57, .class_ 115), (0, u "jdk/internal/util/Preconditions$1"), (7, u "SIOOBE_FORMATTER"), (0, u "Ljava/util/function/BiFunction;"), (0, .class_ 126), (0, u "jdk/internal/util/Preconditions$2"), (3, u "AIOOBE_FORMATTER"), (0, .class_ 132), (0, u "jdk/internal/util/Preconditions$3"), (3, u "IOOBE_FORMATTER"), (41, u "(IILjava/util/function/BiFunction;)I")] 15

def k24m0 : Method := { name := "<init>", desc := "()V", sig := { parameters := [], returnType := none }, accessFlags := 1, code := none }
def k24c1 : Code := { maxStack := 3, maxLocals := 3, code := jdk_41_method_11_code, exceptionTable := #[], attributes := #[] }
def k24m1 : Method := { name := "checkIndex", desc := "(IILjava/util/function/BiFunction;)I", sig := { parameters := [.int, .int, (.object "java/util/function/BiFunction")], returnType := some .int }, accessFlags := 9, code := some k24c1 }
/-- jdk/internal/util/Preconditions -/
def k24 : Class := { plain "jdk/internal/util/Preconditions" (some 0) with
  accessFlags := 33
  interfaces := #[]
  cf := some (fileOf pool24 24 #[.nestMembers #[55, 131, 125, 114]] #[{ accessFlags := 1, nameIndex := 5, descriptorIndex := 6, attributes := #[] }, { accessFlags := 9, nameIndex := 33, descriptorIndex := 178, attributes := #[] }] 33 2 #[] #[{ accessFlags := 25, nameIndex := 123, descriptorIndex := 124, attributes := #[] }, { accessFlags := 25, nameIndex := 130, descriptorIndex := 124, attributes := #[] }, { accessFlags := 25, nameIndex := 136, descriptorIndex := 124, attributes := #[] }])
  fields := #[{ name := "SIOOBE_FORMATTER", type := (.object "java/util/function/BiFunction"), accessFlags := 25, slot := 0, constantValue := 0 }, { name := "AIOOBE_FORMATTER", type := (.object "java/util/function/BiFunction"), accessFlags := 25, slot := 1, constantValue := 0 }, { name := "IOOBE_FORMATTER", type := (.object "java/util/function/BiFunction"), accessFlags := 25, slot := 2, constantValue := 0 }]
  methods := #[k24m0, k24m1]
  instanceTypes := #[]
  staticTypes := #[(.object "java/util/function/BiFunction"), (.object "java/util/function/BiFunction"), (.object "java/util/function/BiFunction")]
  resolved := Array.replicate 194 none
  statics := some 3 }

/-- the primitive byte -/
def k25 : Class := { plain "byte" none with kind := .primitive 'B', accessFlags := 0x411 }
/-- [B -/
def k26 : Class := { plain "[B" (some 0) with kind := .array 25 .byte, interfaces := #[23, 2], accessFlags := 1041 }

/-- the primitive char -/
def k27 : Class := { plain "char" none with kind := .primitive 'C', accessFlags := 0x411 }
/-- [C -/
def k28 : Class := { plain "[C" (some 0) with kind := .array 27 .char, interfaces := #[23, 2], accessFlags := 1041 }

/-- the primitive int -/
def k29 : Class := { plain "int" none with kind := .primitive 'I', accessFlags := 0x411 }
/-- [I -/
def k30 : Class := { plain "[I" (some 0) with kind := .array 29 .int, interfaces := #[23, 2], accessFlags := 1041 }

/-- [Ljava/lang/String; -/
def k31 : Class := { plain "[Ljava/lang/String;" (some 0) with kind := .array 7 (.object "java/lang/String"), interfaces := #[23, 2], accessFlags := 1041 }

def heap : Heap := #[{ cls := 7, slots := #[.long 0, .int 1, .null, .int 0, .null, .int 0, .int 0], vm := .statics 7 },
  { cls := 10, slots := #[.ref 4, .ref 5, .ref 6, .null], vm := .statics 10 },
  { cls := 22, slots := #[.int 0, .int 0, .null, .null, .ref 14, .ref 13, .int 0, .int 0, .long 0], vm := .statics 22 },
  { cls := 24, slots := #[.null, .null, .null], vm := .statics 24 },
  { cls := 10, slots := #[.null, .int 0, .int 0, .ref 7], vm := .none },
  { cls := 10, slots := #[.null, .int 1, .int 0, .ref 8], vm := .none },
  { cls := 10, slots := #[.null, .int 2, .int 0, .ref 9], vm := .none },
  { cls := 7, slots := #[.ref 10, .int 0, .int 0, .int 0], vm := .none },
  { cls := 7, slots := #[.ref 11, .int 0, .int 0, .int 0], vm := .none },
  { cls := 7, slots := #[.ref 12, .int 0, .int 0, .int 0], vm := .none },
  { cls := 26, slots := #[.int 99, .int 111, .int 117, .int 110, .int 116, .int 101, .int 114], vm := .none },
  { cls := 26, slots := #[.int 103, .int 97, .int 117, .int 103, .int 101], vm := .none },
  { cls := 26, slots := #[.int 104, .int 105, .int 115, .int 116, .int 111, .int 103, .int 114, .int 97, .int 109], vm := .none },
  { cls := 26, slots := #[.int 48, .int 49, .int 50, .int 51, .int 52, .int 53, .int 54, .int 55, .int 56, .int 57, .int 48, .int 49, .int 50, .int 51, .int 52, .int 53, .int 54, .int 55, .int 56, .int 57, .int 48, .int 49, .int 50, .int 51, .int 52, .int 53, .int 54, .int 55, .int 56, .int 57, .int 48, .int 49, .int 50, .int 51, .int 52, .int 53, .int 54, .int 55, .int 56, .int 57, .int 48, .int 49, .int 50, .int 51, .int 52, .int 53, .int 54, .int 55, .int 56, .int 57, .int 48, .int 49, .int 50, .int 51, .int 52, .int 53, .int 54, .int 55, .int 56, .int 57, .int 48, .int 49, .int 50, .int 51, .int 52, .int 53, .int 54, .int 55, .int 56, .int 57, .int 48, .int 49, .int 50, .int 51, .int 52, .int 53, .int 54, .int 55, .int 56, .int 57, .int 48, .int 49, .int 50, .int 51, .int 52, .int 53, .int 54, .int 55, .int 56, .int 57, .int 48, .int 49, .int 50, .int 51, .int 52, .int 53, .int 54, .int 55, .int 56, .int 57], vm := .none },
  { cls := 26, slots := #[.int 48, .int 48, .int 48, .int 48, .int 48, .int 48, .int 48, .int 48, .int 48, .int 48, .int 49, .int 49, .int 49, .int 49, .int 49, .int 49, .int 49, .int 49, .int 49, .int 49, .int 50, .int 50, .int 50, .int 50, .int 50, .int 50, .int 50, .int 50, .int 50, .int 50, .int 51, .int 51, .int 51, .int 51, .int 51, .int 51, .int 51, .int 51, .int 51, .int 51, .int 52, .int 52, .int 52, .int 52, .int 52, .int 52, .int 52, .int 52, .int 52, .int 52, .int 53, .int 53, .int 53, .int 53, .int 53, .int 53, .int 53, .int 53, .int 53, .int 53, .int 54, .int 54, .int 54, .int 54, .int 54, .int 54, .int 54, .int 54, .int 54, .int 54, .int 55, .int 55, .int 55, .int 55, .int 55, .int 55, .int 55, .int 55, .int 55, .int 55, .int 56, .int 56, .int 56, .int 56, .int 56, .int 56, .int 56, .int 56, .int 56, .int 56, .int 57, .int 57, .int 57, .int 57, .int 57, .int 57, .int 57, .int 57, .int 57, .int 57], vm := .none }]
def classes : Array Class := #[k0, k1, k2, k3, k4, k5, k6, k7, k8, k9, k10, k11, k12, k13, k14, k15, k16, k17, k18, k19, k20, k21, k22, k23, k24, k25, k26, k27, k28, k29, k30, k31]
def interned : List (Array UInt16 × Addr) := []
def slotsUsed : Nat := 268
def theMethod : MethodId := ⟨1, 1⟩
def args0 : Array Value := #[.int 5, .int 5, .int 5, .int 5, .int 5]
def aboutOver (below : List Frame) : State where
  vm := { classes := classes, interned := interned.toArray }
  heap := heap
  slotsUsed := slotsUsed
  threads := #[{ frames := .invoking theMethod args0 :: below }]
def below0 : List Frame := [.native { method := ⟨0, 0⟩, args := #[] }]
def about1 : State := aboutOver below0
def p0 : Program := .bare "" "" ""
def e0 : Env := launch0.env 0 0 0
theorem w_frames : about1.frames = Frame.invoking theMethod args0 :: below0 := rfl
set_option maxRecDepth 65536 in
theorem w_args : argsFit about1.vm theMethod args0 = true := by decide +kernel
set_option maxRecDepth 65536 in
theorem w_heap : heapFits about1 = true := by decide +kernel
set_option maxRecDepth 65536 in
theorem w_runnable : about1.curStatus? = some .runnable := by decide +kernel
set_option maxRecDepth 65536 in
theorem w_alone : about1.alone = true := by decide +kernel
set_option maxRecDepth 65536 in
theorem w_named : about1.methodNamed? x = some theMethod := by decide +kernel
set_option maxRecDepth 65536 in
theorem w_hears : about1.hears theMethod below0 = true := by decide +kernel
set_option maxRecDepth 65536 in
theorem w_ripe : about1.ripe theMethod args0 below0 = true := by decide +kernel
theorem w_running : about1.status = .running := rfl
set_option maxRecDepth 65536 in
theorem w_room : about1.hasRoom e0.platform room_1 = true :=
  launch0.hasRoom_least _ room_1 (by decide +kernel) (by decide +kernel) (by decide +kernel) (by decide +kernel) (by decide +kernel) (by decide +kernel)
theorem allAtoms_all (ts : List Jvm.Cond) (a : Array Jvm.Value) (st : Jvm.State) : (allAtoms ts).before a st = ts.all (fun c => c.before a st) := by
  induction ts with
  | nil => rfl
  | cons c t ih =>
    show (Jvm.Cond.and c (allAtoms t)).before a st = _
    rw [Jvm.Cond.before_and, ih, List.all_cons]
def words1 : List Jvm.Cond := Jvm.Cond.code x code maxLocals ret :: tables_1
/-- a 'code' word, met by the world's own term for the bytes: nothing is compared byte by byte -/
theorem code_word {y : MethodName} {bytes : ByteArray} {mx : Nat} {rt : Option FieldType} {a : Array Value} {s : State} {m : MethodId} {meth : Method} {c : Code} (h1 : s.methodNamed? y = some m) (h2 : s.vm.method? m = some meth) (h3 : meth.code = some c) (h4 : c.code = bytes)
    (h5 : (c.maxLocals == mx && c.exceptionTable.isEmpty && decide (c.maxStack ≤ mostOperands) && decide (meth.sig.returnType = rt) && !meth.locks && decide (parseMethodDescriptor y.desc = some meth.sig)) = true) : (Jvm.Cond.code y bytes mx rt).before a s = true := by
  simp only [Bool.and_eq_true, beq_iff_eq, Bool.not_eq_true', decide_eq_true_eq] at h5
  obtain ⟨⟨⟨⟨⟨g1, g2⟩, g3⟩, g4⟩, g5⟩, g6⟩ := h5
  simp [Cond.before, Cond.holds, Cond.value, h1, h2, h3, h4, g1, g2, g3, g4, g5, g6]
def isCode : Jvm.Cond → Bool
  | .code _ _ _ _ => true
  | _ => false
theorem all_split {L : List Jvm.Cond} {P : Jvm.Cond → Bool} (h1 : L.all (fun c => isCode c || P c) = true) (h2 : ∀ c ∈ L.filter isCode, P c = true) : L.all P = true := by
  refine List.all_eq_true.mpr fun c hc => ?_
  have h := List.all_eq_true.mp h1 c hc
  rcases Bool.eq_false_or_eq_true (isCode c) with hi | hi
  · exact h2 c (List.mem_filter.mpr ⟨hc, hi⟩)
  · simpa [hi] using h
set_option maxRecDepth 65536 in
theorem w_c0 : (Jvm.Cond.code x code maxLocals ret).before args0 about1 = true := code_word (m := ⟨1, 1⟩) (meth := k1m1) (c := k1c1) (by decide +kernel) rfl rfl rfl (by decide +kernel)
set_option maxRecDepth 65536 in
theorem w_c1 : (Jvm.Cond.code ({ cls := "java/lang/String", name := "<init>", desc := "([C)V" } : Jvm.MethodName) jdk_42_method_3_code (2 : Nat) (Option.none : Option Jvm.ClassFile.FieldType)).before args0 about1 = true := code_word (m := ⟨7, 1⟩) (meth := k7m1) (c := k7c1) (by decide +kernel) rfl rfl rfl (by decide +kernel)
set_option maxRecDepth 65536 in
theorem w_c2 : (Jvm.Cond.code ({ cls := "java/lang/String", name := "<init>", desc := "([CIILjava/lang/Void;)V" } : Jvm.MethodName) jdk_42_method_149_code (6 : Nat) (Option.none : Option Jvm.ClassFile.FieldType)).before args0 about1 = true := code_word (m := ⟨7, 7⟩) (meth := k7m7) (c := k7c7) (by decide +kernel) rfl rfl rfl (by decide +kernel)
set_option maxRecDepth 65536 in
theorem w_c3 : (Jvm.Cond.code ({ cls := "java/lang/Object", name := "<init>", desc := "()V" } : Jvm.MethodName) object_method_1_code (1 : Nat) (Option.none : Option Jvm.ClassFile.FieldType)).before args0 about1 = true := code_word (m := ⟨0, 0⟩) (meth := k0m0) (c := k0c0) (by decide +kernel) rfl rfl rfl (by decide +kernel)
set_option maxRecDepth 65536 in
theorem w_c4 : (Jvm.Cond.code ({ cls := "java/lang/StringUTF16", name := "compress", desc := "([CII)[B" } : Jvm.MethodName) jdk_52_method_16_code (6 : Nat) (Option.some (Jvm.ClassFile.FieldType.array Jvm.ClassFile.FieldType.byte))).before args0 about1 = true := code_word (m := ⟨8, 2⟩) (meth := k8m2) (c := k8c2) (by decide +kernel) rfl rfl rfl (by decide +kernel)
set_option maxRecDepth 65536 in
theorem w_c5 : (Jvm.Cond.code ({ cls := "java/lang/StringUTF16", name := "compress", desc := "([CI[BII)I" } : Jvm.MethodName) jdk_52_method_21_code (7 : Nat) (Option.some Jvm.ClassFile.FieldType.int)).before args0 about1 = true := code_word (m := ⟨8, 3⟩) (meth := k8m3) (c := k8c3) (by decide +kernel) rfl rfl rfl (by decide +kernel)
set_option maxRecDepth 65536 in
theorem w_c6 : (Jvm.Cond.code ({ cls := "java/lang/StringUTF16", name := "coderFromArrayLen", desc := "([BI)B" } : Jvm.MethodName) jdk_52_method_15_code (2 : Nat) (Option.some Jvm.ClassFile.FieldType.byte)).before args0 about1 = true := code_word (m := ⟨8, 1⟩) (meth := k8m1) (c := k8c1) (by decide +kernel) rfl rfl rfl (by decide +kernel)
set_option maxRecDepth 65536 in
theorem w_c7 : (Jvm.Cond.code ({ cls := "com/example/rabotnik/rabotnik/coordinator/PrometheusTextFamilyPinLaw", name := "pick", desc := "(I)C" } : Jvm.MethodName) method_3_code (2 : Nat) (Option.some Jvm.ClassFile.FieldType.char)).before args0 about1 = true := code_word (m := ⟨1, 2⟩) (meth := k1m2) (c := k1c2) (by decide +kernel) rfl rfl rfl (by decide +kernel)
set_option maxRecDepth 65536 in
theorem w_c8 : (Jvm.Cond.code ({ cls := "com/example/rabotnik/rabotnik/coordinator/PrometheusText", name := "<init>", desc := "()V" } : Jvm.MethodName) prog_37_method_1_code (1 : Nat) (Option.none : Option Jvm.ClassFile.FieldType)).before args0 about1 = true := code_word (m := ⟨11, 0⟩) (meth := k11m0) (c := k11c0) (by decide +kernel) rfl rfl rfl (by decide +kernel)
set_option maxRecDepth 65536 in
theorem w_c9 : (Jvm.Cond.code ({ cls := "java/lang/StringBuilder", name := "<init>", desc := "()V" } : Jvm.MethodName) jdk_67_method_1_code (1 : Nat) (Option.none : Option Jvm.ClassFile.FieldType)).before args0 about1 = true := code_word (m := ⟨14, 0⟩) (meth := k14m0) (c := k14c0) (by decide +kernel) rfl rfl rfl (by decide +kernel)
set_option maxRecDepth 65536 in
theorem w_c10 : (Jvm.Cond.code ({ cls := "java/lang/AbstractStringBuilder", name := "<init>", desc := "(I)V" } : Jvm.MethodName) jdk_68_method_2_code (2 : Nat) (Option.none : Option Jvm.ClassFile.FieldType)).before args0 about1 = true := code_word (m := ⟨13, 1⟩) (meth := k13m1) (c := k13c1) (by decide +kernel) rfl rfl rfl (by decide +kernel)
set_option maxRecDepth 65536 in
theorem w_c11 : (Jvm.Cond.code ({ cls := "com/example/rabotnik/rabotnik/coordinator/PrometheusText", name := "family", desc := "(Ljava/lang/String;Lcom/example/rabotnik/rabotnik/coordinator/PrometheusText$Type;Ljava/lang/String;)V" } : Jvm.MethodName) prog_37_method_2_code (4 : Nat) (Option.none : Option Jvm.ClassFile.FieldType)).before args0 about1 = true := code_word (m := ⟨11, 1⟩) (meth := k11m1) (c := k11c1) (by decide +kernel) rfl rfl rfl (by decide +kernel)
set_option maxRecDepth 65536 in
theorem w_c12 : (Jvm.Cond.code ({ cls := "java/lang/StringBuilder", name := "append", desc := "(Ljava/lang/String;)Ljava/lang/StringBuilder;" } : Jvm.MethodName) jdk_67_method_7_code (2 : Nat) (Option.some (Jvm.ClassFile.FieldType.object "java/lang/StringBuilder"))).before args0 about1 = true := code_word (m := ⟨14, 1⟩) (meth := k14m1) (c := k14c1) (by decide +kernel) rfl rfl rfl (by decide +kernel)
set_option maxRecDepth 65536 in
theorem w_c13 : (Jvm.Cond.code ({ cls := "java/lang/AbstractStringBuilder", name := "append", desc := "(Ljava/lang/String;)Ljava/lang/AbstractStringBuilder;" } : Jvm.MethodName) jdk_68_method_22_code (3 : Nat) (Option.some (Jvm.ClassFile.FieldType.object "java/lang/AbstractStringBuilder"))).before args0 about1 = true := code_word (m := ⟨13, 5⟩) (meth := k13m5) (c := k13c5) (by decide +kernel) rfl rfl rfl (by decide +kernel)
set_option maxRecDepth 65536 in
theorem w_c14 : (Jvm.Cond.code ({ cls := "java/lang/String", name := "length", desc := "()I" } : Jvm.MethodName) jdk_42_method_54_code (1 : Nat) (Option.some Jvm.ClassFile.FieldType.int)).before args0 about1 = true := code_word (m := ⟨7, 3⟩) (meth := k7m3) (c := k7c3) (by decide +kernel) rfl rfl rfl (by decide +kernel)
set_option maxRecDepth 65536 in
theorem w_c15 : (Jvm.Cond.code ({ cls := "java/lang/String", name := "coder", desc := "()B" } : Jvm.MethodName) jdk_42_method_152_code (1 : Nat) (Option.some Jvm.ClassFile.FieldType.byte)).before args0 about1 = true := code_word (m := ⟨7, 10⟩) (meth := k7m10) (c := k7c10) (by decide +kernel) rfl rfl rfl (by decide +kernel)
set_option maxRecDepth 65536 in
theorem w_c16 : (Jvm.Cond.code ({ cls := "java/lang/AbstractStringBuilder", name := "ensureCapacityInternal", desc := "(I)V" } : Jvm.MethodName) jdk_68_method_9_code (3 : Nat) (Option.none : Option Jvm.ClassFile.FieldType)).before args0 about1 = true := code_word (m := ⟨13, 3⟩) (meth := k13m3) (c := k13c3) (by decide +kernel) rfl rfl rfl (by decide +kernel)
set_option maxRecDepth 65536 in
theorem w_c17 : (Jvm.Cond.code ({ cls := "java/lang/AbstractStringBuilder", name := "putStringAt", desc := "(ILjava/lang/String;)V" } : Jvm.MethodName) jdk_68_method_73_code (3 : Nat) (Option.none : Option Jvm.ClassFile.FieldType)).before args0 about1 = true := code_word (m := ⟨13, 11⟩) (meth := k13m11) (c := k13c11) (by decide +kernel) rfl rfl rfl (by decide +kernel)
set_option maxRecDepth 65536 in
theorem w_c18 : (Jvm.Cond.code ({ cls := "java/lang/AbstractStringBuilder", name := "inflateIfNeededFor", desc := "(Ljava/lang/String;)V" } : Jvm.MethodName) jdk_68_method_71_code (2 : Nat) (Option.none : Option Jvm.ClassFile.FieldType)).before args0 about1 = true := code_word (m := ⟨13, 10⟩) (meth := k13m10) (c := k13c10) (by decide +kernel) rfl rfl rfl (by decide +kernel)
set_option maxRecDepth 65536 in
theorem w_c19 : (Jvm.Cond.code ({ cls := "java/lang/String", name := "getBytes", desc := "([BIB)V" } : Jvm.MethodName) jdk_42_method_147_code (4 : Nat) (Option.none : Option Jvm.ClassFile.FieldType)).before args0 about1 = true := code_word (m := ⟨7, 6⟩) (meth := k7m6) (c := k7c6) (by decide +kernel) rfl rfl rfl (by decide +kernel)
set_option maxRecDepth 65536 in
theorem w_c20 : (Jvm.Cond.code ({ cls := "java/lang/StringBuilder", name := "append", desc := "(C)Ljava/lang/StringBuilder;" } : Jvm.MethodName) jdk_67_method_14_code (2 : Nat) (Option.some (Jvm.ClassFile.FieldType.object "java/lang/StringBuilder"))).before args0 about1 = true := code_word (m := ⟨14, 2⟩) (meth := k14m2) (c := k14c2) (by decide +kernel) rfl rfl rfl (by decide +kernel)
set_option maxRecDepth 65536 in
theorem w_c21 : (Jvm.Cond.code ({ cls := "java/lang/AbstractStringBuilder", name := "append", desc := "(C)Ljava/lang/AbstractStringBuilder;" } : Jvm.MethodName) jdk_68_method_31_code (2 : Nat) (Option.some (Jvm.ClassFile.FieldType.object "java/lang/AbstractStringBuilder"))).before args0 about1 = true := code_word (m := ⟨13, 6⟩) (meth := k13m6) (c := k13c6) (by decide +kernel) rfl rfl rfl (by decide +kernel)
set_option maxRecDepth 65536 in
theorem w_c22 : (Jvm.Cond.code ({ cls := "java/lang/AbstractStringBuilder", name := "isLatin1", desc := "()Z" } : Jvm.MethodName) jdk_68_method_68_code (1 : Nat) (Option.some Jvm.ClassFile.FieldType.boolean)).before args0 about1 = true := code_word (m := ⟨13, 9⟩) (meth := k13m9) (c := k13c9) (by decide +kernel) rfl rfl rfl (by decide +kernel)
set_option maxRecDepth 65536 in
theorem w_c23 : (Jvm.Cond.code ({ cls := "java/lang/StringLatin1", name := "canEncode", desc := "(C)Z" } : Jvm.MethodName) jdk_43_method_3_code (1 : Nat) (Option.some Jvm.ClassFile.FieldType.boolean)).before args0 about1 = true := code_word (m := ⟨16, 2⟩) (meth := k16m2) (c := k16c2) (by decide +kernel) rfl rfl rfl (by decide +kernel)
set_option maxRecDepth 65536 in
theorem w_c24 : (Jvm.Cond.code ({ cls := "com/example/rabotnik/rabotnik/coordinator/PrometheusText", name := "escaped", desc := "(Ljava/lang/String;Z)V" } : Jvm.MethodName) prog_37_method_9_code (5 : Nat) (Option.none : Option Jvm.ClassFile.FieldType)).before args0 about1 = true := code_word (m := ⟨11, 5⟩) (meth := k11m5) (c := k11c5) (by decide +kernel) rfl rfl rfl (by decide +kernel)
set_option maxRecDepth 65536 in
theorem w_c25 : (Jvm.Cond.code ({ cls := "java/lang/AbstractStringBuilder", name := "newCapacity", desc := "(I)I" } : Jvm.MethodName) jdk_68_method_10_code (6 : Nat) (Option.some Jvm.ClassFile.FieldType.int)).before args0 about1 = true := code_word (m := ⟨13, 4⟩) (meth := k13m4) (c := k13c4) (by decide +kernel) rfl rfl rfl (by decide +kernel)
set_option maxRecDepth 65536 in
theorem w_c26 : (Jvm.Cond.code ({ cls := "jdk/internal/util/ArraysSupport", name := "newLength", desc := "(III)I" } : Jvm.MethodName) jdk_48_method_27_code (4 : Nat) (Option.some Jvm.ClassFile.FieldType.int)).before args0 about1 = true := code_word (m := ⟨17, 1⟩) (meth := k17m1) (c := k17c1) (by decide +kernel) rfl rfl rfl (by decide +kernel)
set_option maxRecDepth 65536 in
theorem w_c27 : (Jvm.Cond.code ({ cls := "java/lang/Math", name := "max", desc := "(II)I" } : Jvm.MethodName) jdk_29_method_65_code (2 : Nat) (Option.some Jvm.ClassFile.FieldType.int)).before args0 about1 = true := code_word (m := ⟨18, 1⟩) (meth := k18m1) (c := k18c1) (by decide +kernel) rfl rfl rfl (by decide +kernel)
set_option maxRecDepth 65536 in
theorem w_c28 : (Jvm.Cond.code ({ cls := "java/util/Arrays", name := "copyOf", desc := "([BI)[B" } : Jvm.MethodName) jdk_65_method_121_code (3 : Nat) (Option.some (Jvm.ClassFile.FieldType.array Jvm.ClassFile.FieldType.byte))).before args0 about1 = true := code_word (m := ⟨19, 1⟩) (meth := k19m1) (c := k19c1) (by decide +kernel) rfl rfl rfl (by decide +kernel)
set_option maxRecDepth 65536 in
theorem w_c29 : (Jvm.Cond.code ({ cls := "java/lang/Math", name := "min", desc := "(II)I" } : Jvm.MethodName) jdk_29_method_69_code (2 : Nat) (Option.some Jvm.ClassFile.FieldType.int)).before args0 about1 = true := code_word (m := ⟨18, 2⟩) (meth := k18m2) (c := k18c2) (by decide +kernel) rfl rfl rfl (by decide +kernel)
set_option maxRecDepth 65536 in
theorem w_c30 : (Jvm.Cond.code ({ cls := "com/example/rabotnik/rabotnik/coordinator/PrometheusText", name := "sample", desc := "(J[Ljava/lang/String;)V" } : Jvm.MethodName) prog_37_method_3_code (4 : Nat) (Option.none : Option Jvm.ClassFile.FieldType)).before args0 about1 = true := code_word (m := ⟨11, 2⟩) (meth := k11m2) (c := k11c2) (by decide +kernel) rfl rfl rfl (by decide +kernel)
set_option maxRecDepth 65536 in
theorem w_c31 : (Jvm.Cond.code ({ cls := "com/example/rabotnik/rabotnik/coordinator/PrometheusText", name := "sampleName", desc := "(Ljava/lang/String;[Ljava/lang/String;)V" } : Jvm.MethodName) prog_37_method_7_code (4 : Nat) (Option.none : Option Jvm.ClassFile.FieldType)).before args0 about1 = true := code_word (m := ⟨11, 4⟩) (meth := k11m4) (c := k11c4) (by decide +kernel) rfl rfl rfl (by decide +kernel)
set_option maxRecDepth 65536 in
theorem w_c32 : (Jvm.Cond.code ({ cls := "java/lang/StringBuilder", name := "append", desc := "(J)Ljava/lang/StringBuilder;" } : Jvm.MethodName) jdk_67_method_16_code (3 : Nat) (Option.some (Jvm.ClassFile.FieldType.object "java/lang/StringBuilder"))).before args0 about1 = true := code_word (m := ⟨14, 3⟩) (meth := k14m3) (c := k14c3) (by decide +kernel) rfl rfl rfl (by decide +kernel)
set_option maxRecDepth 65536 in
theorem w_c33 : (Jvm.Cond.code ({ cls := "java/lang/AbstractStringBuilder", name := "append", desc := "(J)Ljava/lang/AbstractStringBuilder;" } : Jvm.MethodName) jdk_68_method_33_code (5 : Nat) (Option.some (Jvm.ClassFile.FieldType.object "java/lang/AbstractStringBuilder"))).before args0 about1 = true := code_word (m := ⟨13, 7⟩) (meth := k13m7) (c := k13c7) (by decide +kernel) rfl rfl rfl (by decide +kernel)
set_option maxRecDepth 65536 in
theorem w_c34 : (Jvm.Cond.code ({ cls := "java/lang/Long", name := "stringSize", desc := "(J)I" } : Jvm.MethodName) jdk_35_method_15_code (6 : Nat) (Option.some Jvm.ClassFile.FieldType.int)).before args0 about1 = true := code_word (m := ⟨21, 1⟩) (meth := k21m1) (c := k21c1) (by decide +kernel) rfl rfl rfl (by decide +kernel)
set_option maxRecDepth 65536 in
theorem w_c35 : (Jvm.Cond.code ({ cls := "java/lang/Long", name := "getChars", desc := "(JI[B)I" } : Jvm.MethodName) jdk_35_method_14_code (11 : Nat) (Option.some Jvm.ClassFile.FieldType.int)).before args0 about1 = true := code_word (m := ⟨21, 0⟩) (meth := k21m0) (c := k21c0) (by decide +kernel) rfl rfl rfl (by decide +kernel)
set_option maxRecDepth 65536 in
theorem w_c36 : (Jvm.Cond.code ({ cls := "com/example/rabotnik/rabotnik/coordinator/PrometheusText", name := "text", desc := "()Ljava/lang/String;" } : Jvm.MethodName) prog_37_method_6_code (1 : Nat) (Option.some (Jvm.ClassFile.FieldType.object "java/lang/String"))).before args0 about1 = true := code_word (m := ⟨11, 3⟩) (meth := k11m3) (c := k11c3) (by decide +kernel) rfl rfl rfl (by decide +kernel)
set_option maxRecDepth 65536 in
theorem w_c37 : (Jvm.Cond.code ({ cls := "java/lang/StringBuilder", name := "toString", desc := "()Ljava/lang/String;" } : Jvm.MethodName) jdk_67_method_42_code (1 : Nat) (Option.some (Jvm.ClassFile.FieldType.object "java/lang/String"))).before args0 about1 = true := code_word (m := ⟨14, 4⟩) (meth := k14m4) (c := k14c4) (by decide +kernel) rfl rfl rfl (by decide +kernel)
set_option maxRecDepth 65536 in
theorem w_c38 : (Jvm.Cond.code ({ cls := "java/lang/String", name := "<init>", desc := "(Ljava/lang/StringBuilder;)V" } : Jvm.MethodName) jdk_42_method_53_code (2 : Nat) (Option.none : Option Jvm.ClassFile.FieldType)).before args0 about1 = true := code_word (m := ⟨7, 2⟩) (meth := k7m2) (c := k7c2) (by decide +kernel) rfl rfl rfl (by decide +kernel)
set_option maxRecDepth 65536 in
theorem w_c39 : (Jvm.Cond.code ({ cls := "java/lang/String", name := "<init>", desc := "(Ljava/lang/AbstractStringBuilder;Ljava/lang/Void;)V" } : Jvm.MethodName) jdk_42_method_150_code (5 : Nat) (Option.none : Option Jvm.ClassFile.FieldType)).before args0 about1 = true := code_word (m := ⟨7, 8⟩) (meth := k7m8) (c := k7c8) (by decide +kernel) rfl rfl rfl (by decide +kernel)
set_option maxRecDepth 65536 in
theorem w_c40 : (Jvm.Cond.code ({ cls := "java/lang/AbstractStringBuilder", name := "getValue", desc := "()[B" } : Jvm.MethodName) jdk_68_method_64_code (1 : Nat) (Option.some (Jvm.ClassFile.FieldType.array Jvm.ClassFile.FieldType.byte))).before args0 about1 = true := code_word (m := ⟨13, 8⟩) (meth := k13m8) (c := k13c8) (by decide +kernel) rfl rfl rfl (by decide +kernel)
set_option maxRecDepth 65536 in
theorem w_c41 : (Jvm.Cond.code ({ cls := "java/lang/StringBuilder", name := "length", desc := "()I" } : Jvm.MethodName) jdk_67_method_93_code (1 : Nat) (Option.some Jvm.ClassFile.FieldType.int)).before args0 about1 = true := code_word (m := ⟨14, 5⟩) (meth := k14m5) (c := k14c5) (by decide +kernel) rfl rfl rfl (by decide +kernel)
set_option maxRecDepth 65536 in
theorem w_c42 : (Jvm.Cond.code ({ cls := "java/lang/AbstractStringBuilder", name := "length", desc := "()I" } : Jvm.MethodName) jdk_68_method_6_code (1 : Nat) (Option.some Jvm.ClassFile.FieldType.int)).before args0 about1 = true := code_word (m := ⟨13, 2⟩) (meth := k13m2) (c := k13c2) (by decide +kernel) rfl rfl rfl (by decide +kernel)
set_option maxRecDepth 65536 in
theorem w_c43 : (Jvm.Cond.code ({ cls := "java/util/Arrays", name := "copyOfRange", desc := "([BII)[B" } : Jvm.MethodName) jdk_65_method_132_code (3 : Nat) (Option.some (Jvm.ClassFile.FieldType.array Jvm.ClassFile.FieldType.byte))).before args0 about1 = true := code_word (m := ⟨19, 3⟩) (meth := k19m3) (c := k19c3) (by decide +kernel) rfl rfl rfl (by decide +kernel)
set_option maxRecDepth 65536 in
theorem w_c44 : (Jvm.Cond.code ({ cls := "com/example/rabotnik/rabotnik/coordinator/PrometheusTextFamilyPinLaw", name := "eqLit", desc := "(Ljava/lang/String;ILjava/lang/String;)Z" } : Jvm.MethodName) method_6_code (3 : Nat) (Option.some Jvm.ClassFile.FieldType.boolean)).before args0 about1 = true := code_word (m := ⟨1, 5⟩) (meth := k1m5) (c := k1c5) (by decide +kernel) rfl rfl rfl (by decide +kernel)
set_option maxRecDepth 65536 in
theorem w_c45 : (Jvm.Cond.code ({ cls := "com/example/rabotnik/rabotnik/coordinator/PrometheusTextFamilyPinLaw", name := "at", desc := "(Ljava/lang/String;ILjava/lang/String;I)Z" } : Jvm.MethodName) method_5_code (4 : Nat) (Option.some Jvm.ClassFile.FieldType.boolean)).before args0 about1 = true := code_word (m := ⟨1, 4⟩) (meth := k1m4) (c := k1c4) (by decide +kernel) rfl rfl rfl (by decide +kernel)
set_option maxRecDepth 65536 in
theorem w_c46 : (Jvm.Cond.code ({ cls := "java/lang/String", name := "charAt", desc := "(I)C" } : Jvm.MethodName) jdk_42_method_56_code (2 : Nat) (Option.some Jvm.ClassFile.FieldType.char)).before args0 about1 = true := code_word (m := ⟨7, 4⟩) (meth := k7m4) (c := k7c4) (by decide +kernel) rfl rfl rfl (by decide +kernel)
set_option maxRecDepth 65536 in
theorem w_c47 : (Jvm.Cond.code ({ cls := "java/lang/String", name := "isLatin1", desc := "()Z" } : Jvm.MethodName) jdk_42_method_154_code (1 : Nat) (Option.some Jvm.ClassFile.FieldType.boolean)).before args0 about1 = true := code_word (m := ⟨7, 11⟩) (meth := k7m11) (c := k7c11) (by decide +kernel) rfl rfl rfl (by decide +kernel)
set_option maxRecDepth 65536 in
theorem w_c48 : (Jvm.Cond.code ({ cls := "java/lang/StringLatin1", name := "charAt", desc := "([BI)C" } : Jvm.MethodName) jdk_43_method_2_code (2 : Nat) (Option.some Jvm.ClassFile.FieldType.char)).before args0 about1 = true := code_word (m := ⟨16, 1⟩) (meth := k16m1) (c := k16c1) (by decide +kernel) rfl rfl rfl (by decide +kernel)
set_option maxRecDepth 65536 in
theorem w_c49 : (Jvm.Cond.code ({ cls := "java/lang/String", name := "checkIndex", desc := "(II)V" } : Jvm.MethodName) jdk_42_method_155_code (2 : Nat) (Option.none : Option Jvm.ClassFile.FieldType)).before args0 about1 = true := code_word (m := ⟨7, 12⟩) (meth := k7m12) (c := k7c12) (by decide +kernel) rfl rfl rfl (by decide +kernel)
set_option maxRecDepth 65536 in
theorem w_c50 : (Jvm.Cond.code ({ cls := "jdk/internal/util/Preconditions", name := "checkIndex", desc := "(IILjava/util/function/BiFunction;)I" } : Jvm.MethodName) jdk_41_method_11_code (3 : Nat) (Option.some Jvm.ClassFile.FieldType.int)).before args0 about1 = true := code_word (m := ⟨24, 1⟩) (meth := k24m1) (c := k24c1) (by decide +kernel) rfl rfl rfl (by decide +kernel)
set_option maxRecDepth 65536 in
theorem w_c51 : (Jvm.Cond.code ({ cls := "com/example/rabotnik/rabotnik/coordinator/PrometheusTextFamilyPinLaw", name := "ch", desc := "(Ljava/lang/String;IC)Z" } : Jvm.MethodName) method_4_code (3 : Nat) (Option.some Jvm.ClassFile.FieldType.boolean)).before args0 about1 = true := code_word (m := ⟨1, 3⟩) (meth := k1m3) (c := k1c3) (by decide +kernel) rfl rfl rfl (by decide +kernel)
set_option maxRecDepth 65536 in
theorem w_c52 : (Jvm.Cond.code ({ cls := "java/lang/String", name := "valueOf", desc := "(C)Ljava/lang/String;" } : Jvm.MethodName) jdk_42_method_139_code (1 : Nat) (Option.some (Jvm.ClassFile.FieldType.object "java/lang/String"))).before args0 about1 = true := code_word (m := ⟨7, 5⟩) (meth := k7m5) (c := k7c5) (by decide +kernel) rfl rfl rfl (by decide +kernel)
set_option maxRecDepth 65536 in
theorem w_c53 : (Jvm.Cond.code ({ cls := "java/lang/StringLatin1", name := "toBytes", desc := "(C)[B" } : Jvm.MethodName) jdk_43_method_46_code (1 : Nat) (Option.some (Jvm.ClassFile.FieldType.array Jvm.ClassFile.FieldType.byte))).before args0 about1 = true := code_word (m := ⟨16, 3⟩) (meth := k16m3) (c := k16c3) (by decide +kernel) rfl rfl rfl (by decide +kernel)
set_option maxRecDepth 65536 in
theorem w_c54 : (Jvm.Cond.code ({ cls := "java/lang/String", name := "<init>", desc := "([BB)V" } : Jvm.MethodName) jdk_42_method_151_code (3 : Nat) (Option.none : Option Jvm.ClassFile.FieldType)).before args0 about1 = true := code_word (m := ⟨7, 9⟩) (meth := k7m9) (c := k7c9) (by decide +kernel) rfl rfl rfl (by decide +kernel)
set_option maxRecDepth 65536 in
theorem w_c55 : (Jvm.Cond.code ({ cls := "com/example/rabotnik/rabotnik/coordinator/PrometheusTextFamilyPinLaw", name := "esc", desc := "(Ljava/lang/String;IC)Z" } : Jvm.MethodName) method_8_code (3 : Nat) (Option.some Jvm.ClassFile.FieldType.boolean)).before args0 about1 = true := code_word (m := ⟨1, 7⟩) (meth := k1m7) (c := k1c7) (by decide +kernel) rfl rfl rfl (by decide +kernel)
set_option maxRecDepth 65536 in
theorem w_c56 : (Jvm.Cond.code ({ cls := "com/example/rabotnik/rabotnik/coordinator/PrometheusTextFamilyPinLaw", name := "escLen", desc := "(C)I" } : Jvm.MethodName) method_7_code (1 : Nat) (Option.some Jvm.ClassFile.FieldType.int)).before args0 about1 = true := code_word (m := ⟨1, 6⟩) (meth := k1m6) (c := k1c6) (by decide +kernel) rfl rfl rfl (by decide +kernel)
set_option maxRecDepth 65536 in
theorem w_c57 : (Jvm.Cond.code ({ cls := "java/util/Arrays", name := "copyOfRangeByte", desc := "([BII)[B" } : Jvm.MethodName) jdk_65_method_133_code (5 : Nat) (Option.some (Jvm.ClassFile.FieldType.array Jvm.ClassFile.FieldType.byte))).before args0 about1 = true := code_word (m := ⟨19, 4⟩) (meth := k19m4) (c := k19c4) (by decide +kernel) rfl rfl rfl (by decide +kernel)
set_option maxRecDepth 65536 in
theorem w_c58 : (Jvm.Cond.code ({ cls := "java/util/Arrays", name := "checkLength", desc := "(II)V" } : Jvm.MethodName) jdk_65_method_131_code (2 : Nat) (Option.none : Option Jvm.ClassFile.FieldType)).before args0 about1 = true := code_word (m := ⟨19, 2⟩) (meth := k19m2) (c := k19c2) (by decide +kernel) rfl rfl rfl (by decide +kernel)
def codes1 : List Jvm.Cond := [Jvm.Cond.code x code maxLocals ret, Jvm.Cond.code ({ cls := "java/lang/String", name := "<init>", desc := "([C)V" } : Jvm.MethodName) jdk_42_method_3_code (2 : Nat) (Option.none : Option Jvm.ClassFile.FieldType), Jvm.Cond.code ({ cls := "java/lang/String", name := "<init>", desc := "([CIILjava/lang/Void;)V" } : Jvm.MethodName) jdk_42_method_149_code (6 : Nat) (Option.none : Option Jvm.ClassFile.FieldType), Jvm.Cond.code ({ cls := "java/lang/Object", name := "<init>", desc := "()V" } : Jvm.MethodName) object_method_1_code (1 : Nat) (Option.none : Option Jvm.ClassFile.FieldType), Jvm.Cond.code ({ cls := "java/lang/StringUTF16", name := "compress", desc := "([CII)[B" } : Jvm.MethodName) jdk_52_method_16_code (6 : Nat) (Option.some (Jvm.ClassFile.FieldType.array Jvm.ClassFile.FieldType.byte)), Jvm.Cond.code ({ cls := "java/lang/StringUTF16", name := "compress", desc := "([CI[BII)I" } : Jvm.MethodName) jdk_52_method_21_code (7 : Nat) (Option.some Jvm.ClassFile.FieldType.int), Jvm.Cond.code ({ cls := "java/lang/StringUTF16", name := "coderFromArrayLen", desc := "([BI)B" } : Jvm.MethodName) jdk_52_method_15_code (2 : Nat) (Option.some Jvm.ClassFile.FieldType.byte), Jvm.Cond.code ({ cls := "com/example/rabotnik/rabotnik/coordinator/PrometheusTextFamilyPinLaw", name := "pick", desc := "(I)C" } : Jvm.MethodName) method_3_code (2 : Nat) (Option.some Jvm.ClassFile.FieldType.char), Jvm.Cond.code ({ cls := "com/example/rabotnik/rabotnik/coordinator/PrometheusText", name := "<init>", desc := "()V" } : Jvm.MethodName) prog_37_method_1_code (1 : Nat) (Option.none : Option Jvm.ClassFile.FieldType), Jvm.Cond.code ({ cls := "java/lang/StringBuilder", name := "<init>", desc := "()V" } : Jvm.MethodName) jdk_67_method_1_code (1 : Nat) (Option.none : Option Jvm.ClassFile.FieldType), Jvm.Cond.code ({ cls := "java/lang/AbstractStringBuilder", name := "<init>", desc := "(I)V" } : Jvm.MethodName) jdk_68_method_2_code (2 : Nat) (Option.none : Option Jvm.ClassFile.FieldType), Jvm.Cond.code ({ cls := "com/example/rabotnik/rabotnik/coordinator/PrometheusText", name := "family", desc := "(Ljava/lang/String;Lcom/example/rabotnik/rabotnik/coordinator/PrometheusText$Type;Ljava/lang/String;)V" } : Jvm.MethodName) prog_37_method_2_code (4 : Nat) (Option.none : Option Jvm.ClassFile.FieldType), Jvm.Cond.code ({ cls := "java/lang/StringBuilder", name := "append", desc := "(Ljava/lang/String;)Ljava/lang/StringBuilder;" } : Jvm.MethodName) jdk_67_method_7_code (2 : Nat) (Option.some (Jvm.ClassFile.FieldType.object "java/lang/StringBuilder")), Jvm.Cond.code ({ cls := "java/lang/AbstractStringBuilder", name := "append", desc := "(Ljava/lang/String;)Ljava/lang/AbstractStringBuilder;" } : Jvm.MethodName) jdk_68_method_22_code (3 : Nat) (Option.some (Jvm.ClassFile.FieldType.object "java/lang/AbstractStringBuilder")), Jvm.Cond.code ({ cls := "java/lang/String", name := "length", desc := "()I" } : Jvm.MethodName) jdk_42_method_54_code (1 : Nat) (Option.some Jvm.ClassFile.FieldType.int), Jvm.Cond.code ({ cls := "java/lang/String", name := "coder", desc := "()B" } : Jvm.MethodName) jdk_42_method_152_code (1 : Nat) (Option.some Jvm.ClassFile.FieldType.byte), Jvm.Cond.code ({ cls := "java/lang/AbstractStringBuilder", name := "ensureCapacityInternal", desc := "(I)V" } : Jvm.MethodName) jdk_68_method_9_code (3 : Nat) (Option.none : Option Jvm.ClassFile.FieldType), Jvm.Cond.code ({ cls := "java/lang/AbstractStringBuilder", name := "putStringAt", desc := "(ILjava/lang/String;)V" } : Jvm.MethodName) jdk_68_method_73_code (3 : Nat) (Option.none : Option Jvm.ClassFile.FieldType), Jvm.Cond.code ({ cls := "java/lang/AbstractStringBuilder", name := "inflateIfNeededFor", desc := "(Ljava/lang/String;)V" } : Jvm.MethodName) jdk_68_method_71_code (2 : Nat) (Option.none : Option Jvm.ClassFile.FieldType), Jvm.Cond.code ({ cls := "java/lang/String", name := "getBytes", desc := "([BIB)V" } : Jvm.MethodName) jdk_42_method_147_code (4 : Nat) (Option.none : Option Jvm.ClassFile.FieldType), Jvm.Cond.code ({ cls := "java/lang/StringBuilder", name := "append", desc := "(C)Ljava/lang/StringBuilder;" } : Jvm.MethodName) jdk_67_method_14_code (2 : Nat) (Option.some (Jvm.ClassFile.FieldType.object "java/lang/StringBuilder")), Jvm.Cond.code ({ cls := "java/lang/AbstractStringBuilder", name := "append", desc := "(C)Ljava/lang/AbstractStringBuilder;" } : Jvm.MethodName) jdk_68_method_31_code (2 : Nat) (Option.some (Jvm.ClassFile.FieldType.object "java/lang/AbstractStringBuilder")), Jvm.Cond.code ({ cls := "java/lang/AbstractStringBuilder", name := "isLatin1", desc := "()Z" } : Jvm.MethodName) jdk_68_method_68_code (1 : Nat) (Option.some Jvm.ClassFile.FieldType.boolean), Jvm.Cond.code ({ cls := "java/lang/StringLatin1", name := "canEncode", desc := "(C)Z" } : Jvm.MethodName) jdk_43_method_3_code (1 : Nat) (Option.some Jvm.ClassFile.FieldType.boolean), Jvm.Cond.code ({ cls := "com/example/rabotnik/rabotnik/coordinator/PrometheusText", name := "escaped", desc := "(Ljava/lang/String;Z)V" } : Jvm.MethodName) prog_37_method_9_code (5 : Nat) (Option.none : Option Jvm.ClassFile.FieldType), Jvm.Cond.code ({ cls := "java/lang/AbstractStringBuilder", name := "newCapacity", desc := "(I)I" } : Jvm.MethodName) jdk_68_method_10_code (6 : Nat) (Option.some Jvm.ClassFile.FieldType.int), Jvm.Cond.code ({ cls := "jdk/internal/util/ArraysSupport", name := "newLength", desc := "(III)I" } : Jvm.MethodName) jdk_48_method_27_code (4 : Nat) (Option.some Jvm.ClassFile.FieldType.int), Jvm.Cond.code ({ cls := "java/lang/Math", name := "max", desc := "(II)I" } : Jvm.MethodName) jdk_29_method_65_code (2 : Nat) (Option.some Jvm.ClassFile.FieldType.int), Jvm.Cond.code ({ cls := "java/util/Arrays", name := "copyOf", desc := "([BI)[B" } : Jvm.MethodName) jdk_65_method_121_code (3 : Nat) (Option.some (Jvm.ClassFile.FieldType.array Jvm.ClassFile.FieldType.byte)), Jvm.Cond.code ({ cls := "java/lang/Math", name := "min", desc := "(II)I" } : Jvm.MethodName) jdk_29_method_69_code (2 : Nat) (Option.some Jvm.ClassFile.FieldType.int), Jvm.Cond.code ({ cls := "com/example/rabotnik/rabotnik/coordinator/PrometheusText", name := "sample", desc := "(J[Ljava/lang/String;)V" } : Jvm.MethodName) prog_37_method_3_code (4 : Nat) (Option.none : Option Jvm.ClassFile.FieldType), Jvm.Cond.code ({ cls := "com/example/rabotnik/rabotnik/coordinator/PrometheusText", name := "sampleName", desc := "(Ljava/lang/String;[Ljava/lang/String;)V" } : Jvm.MethodName) prog_37_method_7_code (4 : Nat) (Option.none : Option Jvm.ClassFile.FieldType), Jvm.Cond.code ({ cls := "java/lang/StringBuilder", name := "append", desc := "(J)Ljava/lang/StringBuilder;" } : Jvm.MethodName) jdk_67_method_16_code (3 : Nat) (Option.some (Jvm.ClassFile.FieldType.object "java/lang/StringBuilder")), Jvm.Cond.code ({ cls := "java/lang/AbstractStringBuilder", name := "append", desc := "(J)Ljava/lang/AbstractStringBuilder;" } : Jvm.MethodName) jdk_68_method_33_code (5 : Nat) (Option.some (Jvm.ClassFile.FieldType.object "java/lang/AbstractStringBuilder")), Jvm.Cond.code ({ cls := "java/lang/Long", name := "stringSize", desc := "(J)I" } : Jvm.MethodName) jdk_35_method_15_code (6 : Nat) (Option.some Jvm.ClassFile.FieldType.int), Jvm.Cond.code ({ cls := "java/lang/Long", name := "getChars", desc := "(JI[B)I" } : Jvm.MethodName) jdk_35_method_14_code (11 : Nat) (Option.some Jvm.ClassFile.FieldType.int), Jvm.Cond.code ({ cls := "com/example/rabotnik/rabotnik/coordinator/PrometheusText", name := "text", desc := "()Ljava/lang/String;" } : Jvm.MethodName) prog_37_method_6_code (1 : Nat) (Option.some (Jvm.ClassFile.FieldType.object "java/lang/String")), Jvm.Cond.code ({ cls := "java/lang/StringBuilder", name := "toString", desc := "()Ljava/lang/String;" } : Jvm.MethodName) jdk_67_method_42_code (1 : Nat) (Option.some (Jvm.ClassFile.FieldType.object "java/lang/String")), Jvm.Cond.code ({ cls := "java/lang/String", name := "<init>", desc := "(Ljava/lang/StringBuilder;)V" } : Jvm.MethodName) jdk_42_method_53_code (2 : Nat) (Option.none : Option Jvm.ClassFile.FieldType), Jvm.Cond.code ({ cls := "java/lang/String", name := "<init>", desc := "(Ljava/lang/AbstractStringBuilder;Ljava/lang/Void;)V" } : Jvm.MethodName) jdk_42_method_150_code (5 : Nat) (Option.none : Option Jvm.ClassFile.FieldType), Jvm.Cond.code ({ cls := "java/lang/AbstractStringBuilder", name := "getValue", desc := "()[B" } : Jvm.MethodName) jdk_68_method_64_code (1 : Nat) (Option.some (Jvm.ClassFile.FieldType.array Jvm.ClassFile.FieldType.byte)), Jvm.Cond.code ({ cls := "java/lang/StringBuilder", name := "length", desc := "()I" } : Jvm.MethodName) jdk_67_method_93_code (1 : Nat) (Option.some Jvm.ClassFile.FieldType.int), Jvm.Cond.code ({ cls := "java/lang/AbstractStringBuilder", name := "length", desc := "()I" } : Jvm.MethodName) jdk_68_method_6_code (1 : Nat) (Option.some Jvm.ClassFile.FieldType.int), Jvm.Cond.code ({ cls := "java/util/Arrays", name := "copyOfRange", desc := "([BII)[B" } : Jvm.MethodName) jdk_65_method_132_code (3 : Nat) (Option.some (Jvm.ClassFile.FieldType.array Jvm.ClassFile.FieldType.byte)), Jvm.Cond.code ({ cls := "com/example/rabotnik/rabotnik/coordinator/PrometheusTextFamilyPinLaw", name := "eqLit", desc := "(Ljava/lang/String;ILjava/lang/String;)Z" } : Jvm.MethodName) method_6_code (3 : Nat) (Option.some Jvm.ClassFile.FieldType.boolean), Jvm.Cond.code ({ cls := "com/example/rabotnik/rabotnik/coordinator/PrometheusTextFamilyPinLaw", name := "at", desc := "(Ljava/lang/String;ILjava/lang/String;I)Z" } : Jvm.MethodName) method_5_code (4 : Nat) (Option.some Jvm.ClassFile.FieldType.boolean), Jvm.Cond.code ({ cls := "java/lang/String", name := "charAt", desc := "(I)C" } : Jvm.MethodName) jdk_42_method_56_code (2 : Nat) (Option.some Jvm.ClassFile.FieldType.char), Jvm.Cond.code ({ cls := "java/lang/String", name := "isLatin1", desc := "()Z" } : Jvm.MethodName) jdk_42_method_154_code (1 : Nat) (Option.some Jvm.ClassFile.FieldType.boolean), Jvm.Cond.code ({ cls := "java/lang/StringLatin1", name := "charAt", desc := "([BI)C" } : Jvm.MethodName) jdk_43_method_2_code (2 : Nat) (Option.some Jvm.ClassFile.FieldType.char), Jvm.Cond.code ({ cls := "java/lang/String", name := "checkIndex", desc := "(II)V" } : Jvm.MethodName) jdk_42_method_155_code (2 : Nat) (Option.none : Option Jvm.ClassFile.FieldType), Jvm.Cond.code ({ cls := "jdk/internal/util/Preconditions", name := "checkIndex", desc := "(IILjava/util/function/BiFunction;)I" } : Jvm.MethodName) jdk_41_method_11_code (3 : Nat) (Option.some Jvm.ClassFile.FieldType.int), Jvm.Cond.code ({ cls := "com/example/rabotnik/rabotnik/coordinator/PrometheusTextFamilyPinLaw", name := "ch", desc := "(Ljava/lang/String;IC)Z" } : Jvm.MethodName) method_4_code (3 : Nat) (Option.some Jvm.ClassFile.FieldType.boolean), Jvm.Cond.code ({ cls := "java/lang/String", name := "valueOf", desc := "(C)Ljava/lang/String;" } : Jvm.MethodName) jdk_42_method_139_code (1 : Nat) (Option.some (Jvm.ClassFile.FieldType.object "java/lang/String")), Jvm.Cond.code ({ cls := "java/lang/StringLatin1", name := "toBytes", desc := "(C)[B" } : Jvm.MethodName) jdk_43_method_46_code (1 : Nat) (Option.some (Jvm.ClassFile.FieldType.array Jvm.ClassFile.FieldType.byte)), Jvm.Cond.code ({ cls := "java/lang/String", name := "<init>", desc := "([BB)V" } : Jvm.MethodName) jdk_42_method_151_code (3 : Nat) (Option.none : Option Jvm.ClassFile.FieldType), Jvm.Cond.code ({ cls := "com/example/rabotnik/rabotnik/coordinator/PrometheusTextFamilyPinLaw", name := "esc", desc := "(Ljava/lang/String;IC)Z" } : Jvm.MethodName) method_8_code (3 : Nat) (Option.some Jvm.ClassFile.FieldType.boolean), Jvm.Cond.code ({ cls := "com/example/rabotnik/rabotnik/coordinator/PrometheusTextFamilyPinLaw", name := "escLen", desc := "(C)I" } : Jvm.MethodName) method_7_code (1 : Nat) (Option.some Jvm.ClassFile.FieldType.int), Jvm.Cond.code ({ cls := "java/util/Arrays", name := "copyOfRangeByte", desc := "([BII)[B" } : Jvm.MethodName) jdk_65_method_133_code (5 : Nat) (Option.some (Jvm.ClassFile.FieldType.array Jvm.ClassFile.FieldType.byte)), Jvm.Cond.code ({ cls := "java/util/Arrays", name := "checkLength", desc := "(II)V" } : Jvm.MethodName) jdk_65_method_131_code (2 : Nat) (Option.none : Option Jvm.ClassFile.FieldType)]
set_option maxRecDepth 65536 in
theorem codes_eq : words1.filter isCode = codes1 := rfl
theorem w_codes : ∀ c ∈ words1.filter isCode, c.before args0 about1 = true := by
  rw [codes_eq]
  intro c hc
  simp only [codes1, List.mem_cons, List.not_mem_nil, or_false] at hc
  rcases hc with rfl | rfl | rfl | rfl | rfl | rfl | rfl | rfl | rfl | rfl | rfl | rfl | rfl | rfl | rfl | rfl | rfl | rfl | rfl | rfl | rfl | rfl | rfl | rfl | rfl | rfl | rfl | rfl | rfl | rfl | rfl | rfl | rfl | rfl | rfl | rfl | rfl | rfl | rfl | rfl | rfl | rfl | rfl | rfl | rfl | rfl | rfl | rfl | rfl | rfl | rfl | rfl | rfl | rfl | rfl | rfl | rfl | rfl | rfl
  · exact w_c0
  · exact w_c1
  · exact w_c2
  · exact w_c3
  · exact w_c4
  · exact w_c5
  · exact w_c6
  · exact w_c7
  · exact w_c8
  · exact w_c9
  · exact w_c10
  · exact w_c11
  · exact w_c12
  · exact w_c13
  · exact w_c14
  · exact w_c15
  · exact w_c16
  · exact w_c17
  · exact w_c18
  · exact w_c19
  · exact w_c20
  · exact w_c21
  · exact w_c22
  · exact w_c23
  · exact w_c24
  · exact w_c25
  · exact w_c26
  · exact w_c27
  · exact w_c28
  · exact w_c29
  · exact w_c30
  · exact w_c31
  · exact w_c32
  · exact w_c33
  · exact w_c34
  · exact w_c35
  · exact w_c36
  · exact w_c37
  · exact w_c38
  · exact w_c39
  · exact w_c40
  · exact w_c41
  · exact w_c42
  · exact w_c43
  · exact w_c44
  · exact w_c45
  · exact w_c46
  · exact w_c47
  · exact w_c48
  · exact w_c49
  · exact w_c50
  · exact w_c51
  · exact w_c52
  · exact w_c53
  · exact w_c54
  · exact w_c55
  · exact w_c56
  · exact w_c57
  · exact w_c58
set_option maxRecDepth 65536 in
theorem w_t1 : (words1.take 24).all (fun c => isCode c || c.before args0 about1) = true := by decide +kernel
set_option maxRecDepth 65536 in
theorem w_t2 : ((words1.drop 24).take 24).all (fun c => isCode c || c.before args0 about1) = true := by decide +kernel
set_option maxRecDepth 65536 in
theorem w_t3 : (((words1.drop 24).drop 24).take 24).all (fun c => isCode c || c.before args0 about1) = true := by decide +kernel
set_option maxRecDepth 65536 in
theorem w_t4 : ((((words1.drop 24).drop 24).drop 24).take 24).all (fun c => isCode c || c.before args0 about1) = true := by decide +kernel
set_option maxRecDepth 65536 in
theorem w_t5 : (((((words1.drop 24).drop 24).drop 24).drop 24).take 24).all (fun c => isCode c || c.before args0 about1) = true := by decide +kernel
set_option maxRecDepth 65536 in
theorem w_t6 : ((((((words1.drop 24).drop 24).drop 24).drop 24).drop 24).take 24).all (fun c => isCode c || c.before args0 about1) = true := by decide +kernel
set_option maxRecDepth 65536 in
theorem w_t7 : (((((((words1.drop 24).drop 24).drop 24).drop 24).drop 24).drop 24).take 24).all (fun c => isCode c || c.before args0 about1) = true := by decide +kernel
set_option maxRecDepth 65536 in
theorem w_t8 : ((((((((words1.drop 24).drop 24).drop 24).drop 24).drop 24).drop 24).drop 24).take 24).all (fun c => isCode c || c.before args0 about1) = true := by decide +kernel
set_option maxRecDepth 65536 in
theorem w_t9 : (((((((((words1.drop 24).drop 24).drop 24).drop 24).drop 24).drop 24).drop 24).drop 24).take 24).all (fun c => isCode c || c.before args0 about1) = true := by decide +kernel
set_option maxRecDepth 65536 in
theorem w_t10 : ((((((((((words1.drop 24).drop 24).drop 24).drop 24).drop 24).drop 24).drop 24).drop 24).drop 24).take 24).all (fun c => isCode c || c.before args0 about1) = true := by decide +kernel
set_option maxRecDepth 65536 in
theorem w_t11 : (((((((((((words1.drop 24).drop 24).drop 24).drop 24).drop 24).drop 24).drop 24).drop 24).drop 24).drop 24).take 24).all (fun c => isCode c || c.before args0 about1) = true := by decide +kernel
set_option maxRecDepth 65536 in
theorem w_t12 : ((((((((((((words1.drop 24).drop 24).drop 24).drop 24).drop 24).drop 24).drop 24).drop 24).drop 24).drop 24).drop 24).take 24).all (fun c => isCode c || c.before args0 about1) = true := by decide +kernel
set_option maxRecDepth 65536 in
theorem w_t13 : (((((((((((((words1.drop 24).drop 24).drop 24).drop 24).drop 24).drop 24).drop 24).drop 24).drop 24).drop 24).drop 24).drop 24).take 24).all (fun c => isCode c || c.before args0 about1) = true := by decide +kernel
set_option maxRecDepth 65536 in
theorem w_t14 : (((((((((((((words1.drop 24).drop 24).drop 24).drop 24).drop 24).drop 24).drop 24).drop 24).drop 24).drop 24).drop 24).drop 24).drop 24).all (fun c => isCode c || c.before args0 about1) = true := by decide +kernel
theorem w_tables : (allAtoms (Jvm.Cond.code x code maxLocals ret :: tables_1)).before args0 about1 = true := by
  rw [allAtoms_all]
  show words1.all (fun c => c.before args0 about1) = true
  refine all_split ?_ w_codes
  rw [← List.take_append_drop 24 words1, List.all_append, w_t1, ← List.take_append_drop 24 (words1.drop 24), List.all_append, w_t2, ← List.take_append_drop 24 ((words1.drop 24).drop 24), List.all_append, w_t3, ← List.take_append_drop 24 (((words1.drop 24).drop 24).drop 24), List.all_append, w_t4, ← List.take_append_drop 24 ((((words1.drop 24).drop 24).drop 24).drop 24), List.all_append, w_t5, ← List.take_append_drop 24 (((((words1.drop 24).drop 24).drop 24).drop 24).drop 24), List.all_append, w_t6, ← List.take_append_drop 24 ((((((words1.drop 24).drop 24).drop 24).drop 24).drop 24).drop 24), List.all_append, w_t7, ← List.take_append_drop 24 (((((((words1.drop 24).drop 24).drop 24).drop 24).drop 24).drop 24).drop 24), List.all_append, w_t8, ← List.take_append_drop 24 ((((((((words1.drop 24).drop 24).drop 24).drop 24).drop 24).drop 24).drop 24).drop 24), List.all_append, w_t9, ← List.take_append_drop 24 (((((((((words1.drop 24).drop 24).drop 24).drop 24).drop 24).drop 24).drop 24).drop 24).drop 24), List.all_append, w_t10, ← List.take_append_drop 24 ((((((((((words1.drop 24).drop 24).drop 24).drop 24).drop 24).drop 24).drop 24).drop 24).drop 24).drop 24), List.all_append, w_t11, ← List.take_append_drop 24 (((((((((((words1.drop 24).drop 24).drop 24).drop 24).drop 24).drop 24).drop 24).drop 24).drop 24).drop 24).drop 24), List.all_append, w_t12, ← List.take_append_drop 24 ((((((((((((words1.drop 24).drop 24).drop 24).drop 24).drop 24).drop 24).drop 24).drop 24).drop 24).drop 24).drop 24).drop 24), List.all_append, w_t13, w_t14]
  rfl
set_option maxRecDepth 65536 in
theorem w_rest : rest_1_c.before args0 about1 = true := by decide +kernel
set_option maxRecDepth 65536 in
theorem w_case : (Jvm.Cond.and given_1 narrow_1).before args0 about1 = true := by decide +kernel
set_option maxRecDepth 65536 in
theorem w_consts : constsHeld consts_1 about1 := Jvm.Lit.constsHeldB_iff.mp (by decide +kernel)
theorem w_applies : (headSpec (Jvm.Cond.code x code maxLocals ret :: tables_1) room_1).applies x e0.platform about1 = true :=
  (Spec.applies_iff w_frames).mpr ⟨w_running, w_runnable, w_alone, w_named, w_hears, w_ripe, w_room, w_tables⟩
theorem atStart : AtStart classFile x code maxLocals ret World_1 tables_1 room_1 Calls_1 rest_1 Pre_1 launch0 p0 e0 about1 theMethod args0 below0 :=
  ⟨lists_1, trivial, launch0.admits_env _ _ _, launch0.least_env, fairChoices_fair.cas, fairChoices_fair.clock, w_frames, w_args, w_heap, w_applies, ⟨w_consts, trivial⟩, w_rest, w_case⟩
end start1
theorem witness_1 : WitnessClaimed_1 := ⟨start1.p0, start1.e0, start1.about1, start1.theMethod, start1.args0, start1.below0, start1.atStart⟩
end Jvm.Pilot.@@N@@
