import JvmDerived
import JvmDerived.Pilot.@@N@@Statement
import JvmDerived.Pilot.@@N@@Code
set_option linter.unusedVariables false
set_option linter.unusedSimpArgs false
/- laws to paste: Road.backV (cut by pick.py; bodies as the Statement names them) -/
namespace Jvm.Pilot.@@N@@
namespace StrChars
open Jvm Sem ClassFile Op Lib Jvm.Stand Jvm.Free.XT Jvm.Free.ALB Jvm.Free.JM Jvm.Free
open Jvm.Lib.Cold (StaticIs)
/-- a char array whose places are chars -/
def Ch (a : Addr) (A : Cell) (U : State) : Prop := Arr .char a A U ∧ Typed .char A
theorem Ch.mv {a : Addr} {A : Cell} {U U' : State} (h : Ch a A U) (hal : U.vm.Alike U'.vm) (hh : U'.heap = U.heap) : Ch a A U' := ⟨h.1.mv hal hh, h.2⟩
theorem Ch.keep {a : Addr} {A : Cell} {U U' : State} (h : Ch a A U) (hal : U.vm.Alike U'.vm) (hk : U'.heap[a]? = some A) : Ch a A U' := ⟨h.1.keep hal hk, h.2⟩
/-- what place i of a char[]'s cell holds -/
def cv (A : Cell) (i : Nat) : Int32 := match A.slots[i]? with | some (.int x) => x | _ => 0
theorem Ch.get {a : Addr} {A : Cell} {U : State} (h : Ch a A U) {i : Nat} (hi : i < A.slots.size) : A.slots[i]? = some (.int (cv A i)) := by
  have e := Array.getElem?_eq_getElem hi
  have f := h.2 i _ e
  unfold cv; rw [e]
  generalize A.slots[i] = v at f
  cases v <;> simp [fits] at f ⊢
/-- the byte that i2b leaves of a char -/
def lo8 (x : Int32) : Int32 := x.toInt8.toInt32
theorem fits_lo8 (y : Int32) : fits .byte (.int (lo8 y)) = true := by
  have h1 := y.toInt8.le_toInt
  have h2 := y.toInt8.toInt_lt
  simp only [lo8, fits, Bool.and_eq_true, decide_eq_true_eq, Int32.le_iff_toInt_le, Int8.toInt_toInt32, show (-128 : Int32).toInt = -128 from by decide, show (127 : Int32).toInt = 127 from by decide]
  omega
/-- A' is A but that each place j of lo .. hi - 1 holds f j -/
def Laid (A A' : Cell) (lo hi : Nat) (f : Nat → Value) : Prop := A'.cls = A.cls ∧ A'.vm = A.vm ∧ A'.slots.size = A.slots.size ∧ ∀ i, A'.slots[i]? = if lo ≤ i ∧ i < hi then some (f i) else A.slots[i]?
theorem Laid.zero (A : Cell) (lo : Nat) (f : Nat → Value) : Laid A A lo (lo + 0) f := ⟨rfl, rfl, rfl, fun i => by rw [if_neg (by omega)]⟩
theorem Laid.step {A Ak : Cell} {lo k : Nat} {f : Nat → Value} {v : Value} (h : Laid A Ak lo k f) (hlo : lo ≤ k) (hk : k < Ak.slots.size) (hv : v = f k) : Laid A (Ak.setSlot k v) lo (k + 1) f := by
  refine ⟨h.1, h.2.1, by simpa [Cell.setSlot] using h.2.2.1, fun i => ?_⟩
  by_cases e : k = i
  · subst e; rw [Cell.slots_setSlot_self v hk, if_pos (by omega), hv]
  · rw [Cell.slots_setSlot_ne v e, h.2.2.2 i]
    by_cases q : lo ≤ i ∧ i < k
    · rw [if_pos q, if_pos (by omega)]
    · rw [if_neg q, if_neg (by omega)]
def U16 : String := "java/lang/StringUTF16"
namespace Cmp5
def yN : MethodName := ⟨"java/lang/StringUTF16", "compress", "([CI[BII)I"⟩
abbrev yB : ByteArray := jdk_52_method_21_code
theorem d0 : decode yB 0 = .ok (.iconst 0, 1) := by decide +kernel
theorem d1 : decode yB 1 = .ok (.istore 5, 2) := by decide +kernel
theorem d3 : decode yB 3 = .ok (.iload 5, 2) := by decide +kernel
theorem d5 : decode yB 5 = .ok (.iload 4, 2) := by decide +kernel
theorem d7 : decode yB 7 = .ok (.if_icmp (.ge) 37, 3) := by decide +kernel
theorem d10 : decode yB 10 = .ok (.aload_n 0, 1) := by decide +kernel
theorem d11 : decode yB 11 = .ok (.iload_n 1, 1) := by decide +kernel
theorem d12 : decode yB 12 = .ok (.caload, 1) := by decide +kernel
theorem d13 : decode yB 13 = .ok (.istore 6, 2) := by decide +kernel
theorem d15 : decode yB 15 = .ok (.iload 6, 2) := by decide +kernel
theorem d17 : decode yB 17 = .ok (.sipush 255, 3) := by decide +kernel
theorem d20 : decode yB 20 = .ok (.if_icmp (.le) 6, 3) := by decide +kernel
theorem d26 : decode yB 26 = .ok (.aload_n 2, 1) := by decide +kernel
theorem d27 : decode yB 27 = .ok (.iload_n 3, 1) := by decide +kernel
theorem d28 : decode yB 28 = .ok (.iload 6, 2) := by decide +kernel
theorem d30 : decode yB 30 = .ok (.i2b, 1) := by decide +kernel
theorem d31 : decode yB 31 = .ok (.bastore, 1) := by decide +kernel
theorem d32 : decode yB 32 = .ok (.iinc 1 1, 3) := by decide +kernel
theorem d35 : decode yB 35 = .ok (.iinc 3 1, 3) := by decide +kernel
theorem d38 : decode yB 38 = .ok (.iinc 5 1, 3) := by decide +kernel
theorem d41 : decode yB 41 = .ok (.goto (-38), 3) := by decide +kernel
theorem d44 : decode yB 44 = .ok (.iload 4, 2) := by decide +kernel
theorem d46 : decode yB 46 = .ok (.ireturn, 1) := by decide +kernel
def site : List Cond := []
def tab : Cond := tabOf yN yB 7 (some .int) site
def P (b : Addr) (A : Cell) (d : Addr) (B : Cell) (o q len : Nat) (args : Array Value) (s : State) : Prop := args = #[.ref b, .int (Int32.ofNat o), .ref d, .int (Int32.ofNat q), .int (Int32.ofNat len)] ∧ Ch b A s ∧ Arr .byte d B s ∧ b ≠ d ∧ o + len ≤ A.slots.size ∧ q + len ≤ B.slots.size ∧ ∀ i, i < len → ¬ 255 < cv A (o + i)
def E (b : Addr) (A : Cell) (d : Addr) (B : Cell) (o q len : Nat) (r : Option Value) (s u : State) : Prop := r = some (.int (Int32.ofNat len)) ∧ ∃ B', Put d B' s u ∧ Laid B B' q (q + len) (fun j => Value.int (lo8 (cv A (o + (j - q)))))
/-- no char of the range above 255: len; the places written hold each char's low byte -/
theorem law (l : Launch) (b : Addr) (A : Cell) (d : Addr) (B : Cell) (o q len : Nat) : Law l yN 5 5 0 0 yB 7 (some .int) site (P b A d B o q len) (E b A d B o q len) (copyLocs d q len) 0 0 := by
  refine Law.of_walk (plainFor_of_name (by decide +kernel)) (by decide +kernel) (by decide +kernel) (by decide) (fun _ _ h => by rw [h.1]; rfl) (fun _ U U' hal hh h => ⟨h.1, h.2.1.mv hal hh, h.2.2.1.mv hal hh, h.2.2.2⟩) (fun r U U' V V' h1 hal h2 h => ⟨h.1, h.2.elim fun B' q => ⟨B', q.1.mv h1 h2, q.2⟩⟩) ?_
  intro p e s m args below meth c s₁ X0 hexec hbytes hml hret hlk hnm hown hh0 W hP
  obtain ⟨rfl, hA, hB, hne, l1, l2, hp⟩ := hP
  have c1 : Steps p.tables e below (s₁.setTop (entryFrame m #[.ref b, .int (Int32.ofNat o), .ref d, .int (Int32.ofNat q), .int (Int32.ofNat len)] 7)) (s₁.setTop (mkF m 0 #[.val (.ref b), .val (.int (Int32.ofNat o)), .val (.ref d), .val (.int (Int32.ofNat q)), .val (.int (Int32.ofNat len)), .unset, .unset] [])) := entry rfl
  have hA0 := hA.1.mv X0.warmed.alike hh0
  have hB0 := hB.mv X0.warmed.alike hh0
  have a31 := hA.1.2.2.2
  have c2 : Steps p.tables e below (s₁.setTop (entryFrame m #[.ref b, .int (Int32.ofNat o), .ref d, .int (Int32.ofNat q), .int (Int32.ofNat len)] 7)) (s₁.setTop (mkF m 3 #[.val (.ref b), .val (.int (Int32.ofNat o)), .val (.ref d), .val (.int (Int32.ofNat q)), .val (.int (Int32.ofNat len)), .val (.int 0), .unset] [])) := c1.trans (by
    refine iconstV X0.here hexec rfl 0 (hb hbytes d0) (by decide) ?_
    refine XS.istore X0.here hexec rfl (hb hbytes d1) rfl rfl ?_
    exact Steps.refl _)
  have loop : ∀ (r i : Nat), i + r = len → ∀ (z : Slot), (z = .unset ∨ ∃ w, z = .val w ∧ w.category = 1) → ∀ (Tl : State) (Bk : Cell), Stand p l e { frames := 0, locals := 0, cells := 0, slots := 0 } s m #[.ref b, .int (Int32.ofNat o), .ref d, .int (Int32.ofNat q), .int (Int32.ofNat len)] below meth c Tl ([] ++ copyLocs d q i) 0 0 → Put d Bk s₁ Tl → Laid B Bk q (q + i) (fun j => Value.int (lo8 (cv A (o + (j - q))))) →
      Steps p.tables e below (s₁.setTop (entryFrame m #[.ref b, .int (Int32.ofNat o), .ref d, .int (Int32.ofNat q), .int (Int32.ofNat len)] 7)) (Tl.setTop (mkF m 3 #[.val (.ref b), .val (.int (Int32.ofNat (o + i))), .val (.ref d), .val (.int (Int32.ofNat (q + i))), .val (.int (Int32.ofNat len)), .val (.int (Int32.ofNat i)), z] [])) → ∃ (T' : State) (B' : Cell) (z' : Slot), Stand p l e { frames := 0, locals := 0, cells := 0, slots := 0 } s m #[.ref b, .int (Int32.ofNat o), .ref d, .int (Int32.ofNat q), .int (Int32.ofNat len)] below meth c T' ([] ++ copyLocs d q len) 0 0 ∧ Put d B' s₁ T' ∧ Laid B B' q (q + len) (fun j => Value.int (lo8 (cv A (o + (j - q))))) ∧
      Steps p.tables e below (s₁.setTop (entryFrame m #[.ref b, .int (Int32.ofNat o), .ref d, .int (Int32.ofNat q), .int (Int32.ofNat len)] 7)) (T'.setTop (mkF m 3 #[.val (.ref b), .val (.int (Int32.ofNat (o + len))), .val (.ref d), .val (.int (Int32.ofNat (q + len))), .val (.int (Int32.ofNat len)), .val (.int (Int32.ofNat len)), z'] [])) := by
    intro r
    induction r with
    | zero =>
      intro i hi z hz Tl Bk Xl pl fl cl
      have hil : i = len := by omega
      rw [hil] at Xl fl cl
      exact ⟨Tl, Bk, z, Xl, pl, fl, cl⟩
    | succ r ih =>
      intro i hi z hz Tl Bk Xl pl fl cl
      have all := X0.warmed.alike.symm.trans Xl.warmed.alike
      have hAl := hA0.keep all (pl.other hne hA0.1)
      have hBk := hB0.like all pl.1 fl.1 fl.2.1 fl.2.2.1
      have hlt : q + i < Bk.slots.size := by rw [fl.2.2.1]; omega
      have c3 : Steps p.tables e below (s₁.setTop (entryFrame m #[.ref b, .int (Int32.ofNat o), .ref d, .int (Int32.ofNat q), .int (Int32.ofNat len)] 7)) (Tl.setTop (mkF m 12 #[.val (.ref b), .val (.int (Int32.ofNat (o + i))), .val (.ref d), .val (.int (Int32.ofNat (q + i))), .val (.int (Int32.ofNat len)), .val (.int (Int32.ofNat i)), z] [.int (Int32.ofNat (o + i)), .ref b])) := cl.trans (by
        refine XS.iload Xl.here hexec rfl (hb hbytes d3) rfl ?_
        refine XS.iload Xl.here hexec rfl (hb hbytes d5) rfl ?_
        refine XS.icmpNo Xl.here hexec rfl (hb hbytes d7) rfl (ii_ge_f (lt32 (by omega) (by omega))) ?_
        refine XS.aloadN Xl.here hexec rfl (hb hbytes d10) rfl rfl ?_
        refine XS.iloadN Xl.here hexec rfl (hb hbytes d11) rfl ?_
        exact Steps.refl _)
      have c4 : Steps p.tables e below (s₁.setTop (entryFrame m #[.ref b, .int (Int32.ofNat o), .ref d, .int (Int32.ofNat q), .int (Int32.ofNat len)] 7)) (Tl.setTop (mkF m 13 #[.val (.ref b), .val (.int (Int32.ofNat (o + i))), .val (.ref d), .val (.int (Int32.ofNat (q + i))), .val (.int (Int32.ofNat len)), .val (.int (Int32.ofNat i)), z] [.int (cv A (o + i))])) := c3.trans (by
        refine Xl.aget hexec hAl rfl (hA.get (i := o + i) (by omega)) rfl rfl (hb hbytes d12) ?_
        exact Steps.refl _)
      have c5 : Steps p.tables e below (s₁.setTop (entryFrame m #[.ref b, .int (Int32.ofNat o), .ref d, .int (Int32.ofNat q), .int (Int32.ofNat len)] 7)) (Tl.setTop (mkF m 15 #[.val (.ref b), .val (.int (Int32.ofNat (o + i))), .val (.ref d), .val (.int (Int32.ofNat (q + i))), .val (.int (Int32.ofNat len)), .val (.int (Int32.ofNat i)), .val (.int (cv A (o + i)))] [])) := c4.trans (by
        refine XS.istoreS Xl.here hexec rfl (hb hbytes d13) rfl rfl hz ?_
        exact Steps.refl _)
      have c6 : Steps p.tables e below (s₁.setTop (entryFrame m #[.ref b, .int (Int32.ofNat o), .ref d, .int (Int32.ofNat q), .int (Int32.ofNat len)] 7)) (Tl.setTop (mkF m 31 #[.val (.ref b), .val (.int (Int32.ofNat (o + i))), .val (.ref d), .val (.int (Int32.ofNat (q + i))), .val (.int (Int32.ofNat len)), .val (.int (Int32.ofNat i)), .val (.int (cv A (o + i)))] [.int (lo8 (cv A (o + i))), .int (Int32.ofNat (q + i)), .ref d])) := c5.trans (by
        refine XS.iload Xl.here hexec rfl (hb hbytes d15) rfl ?_
        refine sipushV Xl.here hexec rfl 255 (hb hbytes d17) (by decide) ?_
        refine XS.icmpYes Xl.here hexec rfl (pc0 := 20) rfl (hb hbytes d20) rfl (ii_le_t (hp i (by omega))) (by decide) rfl ?_
        refine XS.aloadN Xl.here hexec rfl (hb hbytes d26) rfl rfl ?_
        refine XS.iloadN Xl.here hexec rfl (hb hbytes d27) rfl ?_
        refine XS.iload Xl.here hexec rfl (hb hbytes d28) rfl ?_
        refine i2b Xl.here hexec rfl (hb hbytes d30) rfl ?_
        exact Steps.refl _)
      obtain ⟨T7, X7, p7, st7⟩ := Xl.aput hexec hBk rfl hlt rfl (fits_lo8 (cv A (o + i))) (g := (mkF m 31 #[.val (.ref b), .val (.int (Int32.ofNat (o + i))), .val (.ref d), .val (.int (Int32.ofNat (q + i))), .val (.int (Int32.ofNat len)), .val (.int (Int32.ofNat i)), .val (.int (cv A (o + i)))] [.int (lo8 (cv A (o + i))), .int (Int32.ofNat (q + i)), .ref d])) rfl (rest := []) rfl (hb hbytes d31)
      have c8 : Steps p.tables e below (s₁.setTop (entryFrame m #[.ref b, .int (Int32.ofNat o), .ref d, .int (Int32.ofNat q), .int (Int32.ofNat len)] 7)) (T7.setTop (mkF m 32 #[.val (.ref b), .val (.int (Int32.ofNat (o + i))), .val (.ref d), .val (.int (Int32.ofNat (q + i))), .val (.int (Int32.ofNat len)), .val (.int (Int32.ofNat i)), .val (.int (cv A (o + i)))] [])) := c6.trans (st7 _ (Steps.refl _))
      have c9 : Steps p.tables e below (s₁.setTop (entryFrame m #[.ref b, .int (Int32.ofNat o), .ref d, .int (Int32.ofNat q), .int (Int32.ofNat len)] 7)) (T7.setTop (mkF m 3 #[.val (.ref b), .val (.int (Int32.ofNat (o + i) + 1)), .val (.ref d), .val (.int (Int32.ofNat (q + i) + 1)), .val (.int (Int32.ofNat len)), .val (.int (Int32.ofNat i + 1)), .val (.int (cv A (o + i)))] [])) := c8.trans (by
        refine iincV X7.here hexec rfl 1 (hb hbytes d32) (by decide) rfl rfl ?_
        refine iincV X7.here hexec rfl 1 (hb hbytes d35) (by decide) rfl rfl ?_
        refine iincV X7.here hexec rfl 1 (hb hbytes d38) (by decide) rfl rfl ?_
        refine XS.goto X7.here hexec rfl (pc0 := 41) rfl (hb hbytes d41) (by decide) rfl ?_
        exact Steps.refl _)
      have c10 : Steps p.tables e below (s₁.setTop (entryFrame m #[.ref b, .int (Int32.ofNat o), .ref d, .int (Int32.ofNat q), .int (Int32.ofNat len)] 7)) (T7.setTop (mkF m 3 #[.val (.ref b), .val (.int (Int32.ofNat (o + (i + 1)))), .val (.ref d), .val (.int (Int32.ofNat (q + (i + 1)))), .val (.int (Int32.ofNat len)), .val (.int (Int32.ofNat (i + 1))), .val (.int (cv A (o + i)))] [])) := by
        have := c9
        rw [succ32, succ32, succ32] at this
        exact this
      exact ih (i + 1) (by omega) _ (Or.inr ⟨_, rfl, rfl⟩) T7 _ (by rw [copyLocs_step, ← List.append_assoc]; exact X7) (pl.trans p7) (fl.step (by omega) hlt (by simp)) c10
  obtain ⟨T9, B9, z9, X9, p9, f9, g9⟩ := loop len 0 (by omega) .unset (Or.inl rfl) s₁ B (by simpa [copyLocs] using X0) ⟨hB0.1, fun _ _ => rfl, rfl⟩ (Laid.zero _ _ _) c2
  have c11 : Steps p.tables e below (s₁.setTop (entryFrame m #[.ref b, .int (Int32.ofNat o), .ref d, .int (Int32.ofNat q), .int (Int32.ofNat len)] 7)) (T9.setTop (mkF m 46 #[.val (.ref b), .val (.int (Int32.ofNat (o + len))), .val (.ref d), .val (.int (Int32.ofNat (q + len))), .val (.int (Int32.ofNat len)), .val (.int (Int32.ofNat len)), z9] [.int (Int32.ofNat len)])) := g9.trans (by
    refine XS.iload X9.here hexec rfl (hb hbytes d3) rfl ?_
    refine XS.iload X9.here hexec rfl (hb hbytes d5) rfl ?_
    refine XS.icmpYes X9.here hexec rfl (pc0 := 7) rfl (hb hbytes d7) rfl (ii_ge_t (nlt32 (by omega) (Nat.le_refl _))) (by decide) rfl ?_
    refine XS.iload X9.here hexec rfl (hb hbytes d44) rfl ?_
    exact Steps.refl _)
  exact ⟨T9, some (.int (Int32.ofNat len)), _, _, _, X9, by simp, rfl, rfl, (fun h => by cases h), ⟨rfl, B9, p9.from hh0, f9⟩, fun fs hl => c11.trans (X9.ireturnOut hexec hret rfl (Or.inl rfl) (hb hbytes d46) hl)⟩
end Cmp5
namespace Cmp3
def yN : MethodName := ⟨"java/lang/StringUTF16", "compress", "([CII)[B"⟩
abbrev yB : ByteArray := jdk_52_method_16_code
theorem d0 : decode yB 0 = .ok (.iload_n 2, 1) := by decide +kernel
theorem d1 : decode yB 1 = .ok (.newarray .byte, 2) := by decide +kernel
theorem d3 : decode yB 3 = .ok (.astore_n 3, 1) := by decide +kernel
theorem d4 : decode yB 4 = .ok (.aload_n 0, 1) := by decide +kernel
theorem d5 : decode yB 5 = .ok (.iload_n 1, 1) := by decide +kernel
theorem d6 : decode yB 6 = .ok (.aload_n 3, 1) := by decide +kernel
theorem d7 : decode yB 7 = .ok (.iconst 0, 1) := by decide +kernel
theorem d8 : decode yB 8 = .ok (.iload_n 2, 1) := by decide +kernel
theorem d9 : decode yB 9 = .ok (.invokestatic 115, 3) := by decide +kernel
theorem d12 : decode yB 12 = .ok (.istore 4, 2) := by decide +kernel
theorem d14 : decode yB 14 = .ok (.iload 4, 2) := by decide +kernel
theorem d16 : decode yB 16 = .ok (.iload_n 2, 1) := by decide +kernel
theorem d17 : decode yB 17 = .ok (.if_icmp (.eq) 40, 3) := by decide +kernel
theorem d57 : decode yB 57 = .ok (.aload_n 3, 1) := by decide +kernel
theorem d58 : decode yB 58 = .ok (.areturn, 1) := by decide +kernel
def site : List Cond := [.arrayClass .byte, Cmp5.tab] ++ staticW U16 115 Cmp5.yN
def tab : Cond := tabOf yN yB 6 (some (.array .byte)) site
def P (b : Addr) (A : Cell) (o len : Nat) (args : Array Value) (s : State) : Prop := args = #[.ref b, .int (Int32.ofNat o), .int (Int32.ofNat len)] ∧ Ch b A s ∧ o + len ≤ A.slots.size ∧ len ≤ 536870912 ∧ ∀ i, i < len → ¬ 255 < cv A (o + i)
def E (b : Addr) (A : Cell) (o len : Nat) (r : Option Value) (s u : State) : Prop := NewArr .byte "[B" len (fun j => .int (lo8 (cv A (o + j)))) r s u ∧ u.heap.size = s.heap.size + 1
/-- no char of the range above 255: a new byte[] of their low bytes -/
theorem law (l : Launch) (b : Addr) (A : Cell) (o len : Nat) : Law l yN 3 3 1 18 yB 6 (some (.array .byte)) site (P b A o len) (E b A o len) [] 1 len := by
  refine Law.of_walk (plainFor_of_name (by decide +kernel)) (by decide +kernel) (by decide +kernel) (by decide) (fun _ _ h => by rw [h.1]; rfl) (fun _ U U' hal hh h => ⟨h.1, h.2.1.mv hal hh, h.2.2⟩) (fun r U U' V V' h1 hal h2 h => ⟨NewArr.mv r U U' V V' h1 hal h2 h.1, by rw [h1, h2]; exact h.2⟩) ?_
  intro p e s m args below meth c s₁ X0 hexec hbytes hml hret hlk hnm hown hh0 W hP
  obtain ⟨rfl, hA, l1, l2, hp⟩ := hP
  have a31 := hA.1.2.2.2
  have c1 : Steps p.tables e below (s₁.setTop (entryFrame m #[.ref b, .int (Int32.ofNat o), .int (Int32.ofNat len)] 6)) (s₁.setTop (mkF m 0 #[.val (.ref b), .val (.int (Int32.ofNat o)), .val (.int (Int32.ofNat len)), .unset, .unset, .unset] [])) := entry rfl
  have c2 : Steps p.tables e below (s₁.setTop (entryFrame m #[.ref b, .int (Int32.ofNat o), .int (Int32.ofNat len)] 6)) (s₁.setTop (mkF m 1 #[.val (.ref b), .val (.int (Int32.ofNat o)), .val (.int (Int32.ofNat len)), .unset, .unset, .unset] [.int (Int32.ofNat len)])) := c1.trans (by
    refine XS.iloadN X0.here hexec rfl (hb hbytes d0) rfl ?_
    exact Steps.refl _)
  obtain ⟨T3, B3, X3, ba3, bs3, bv3, bh3, bf3, st3⟩ := X0.anew hexec (atype := .byte) (wk W (.arrayClass .byte)) rfl (by show len * 1 ≤ _; omega) (by omega) (g := (mkF m 1 #[.val (.ref b), .val (.int (Int32.ofNat o)), .val (.int (Int32.ofNat len)), .unset, .unset, .unset] [.int (Int32.ofNat len)])) rfl (hb hbytes d1) (rest := []) rfl (Nat.le_refl _) (by show 0 + len ≤ len; omega)
  rw [hh0] at ba3 st3
  have kp3 : XT.Kept s T3 := (XT.Kept.of_eq hh0).push bh3
  have hA3 := hA.keep X3.warmed.alike (kp3 _ _ hA.1.1)
  have hne : b ≠ s.heap.size := hA.1.ne
  have c4 : Steps p.tables e below (s₁.setTop (entryFrame m #[.ref b, .int (Int32.ofNat o), .int (Int32.ofNat len)] 6)) (T3.setTop (mkF m 3 #[.val (.ref b), .val (.int (Int32.ofNat o)), .val (.int (Int32.ofNat len)), .unset, .unset, .unset] [.ref s.heap.size])) := c2.trans (st3 _ (Steps.refl _))
  have c5 : Steps p.tables e below (s₁.setTop (entryFrame m #[.ref b, .int (Int32.ofNat o), .int (Int32.ofNat len)] 6)) (T3.setTop (mkF m 9 #[.val (.ref b), .val (.int (Int32.ofNat o)), .val (.int (Int32.ofNat len)), .val (.ref s.heap.size), .unset, .unset] [.int (Int32.ofNat len), .int 0, .ref s.heap.size, .int (Int32.ofNat o), .ref b])) := c4.trans (by
    refine XS.astoreN X3.here hexec rfl (hb hbytes d3) rfl rfl rfl ?_
    refine XS.aloadN X3.here hexec rfl (hb hbytes d4) rfl rfl ?_
    refine XS.iloadN X3.here hexec rfl (hb hbytes d5) rfl ?_
    refine XS.aloadN X3.here hexec rfl (hb hbytes d6) rfl rfl ?_
    refine iconstV X3.here hexec rfl 0 (hb hbytes d7) (by decide) ?_
    refine XS.iloadN X3.here hexec rfl (hb hbytes d8) rfl ?_
    exact Steps.refl _)
  obtain ⟨v6, T6, X6, E6, g6⟩ := X3.callS hexec (Cmp5.law l b A s.heap.size B3 o 0 len) hown (wks W (staticW U16 115 Cmp5.yN)) (wk W Cmp5.tab) (W := 0) (Nat.le_of_ble_eq_true rfl) (Nat.le_of_ble_eq_true rfl) (Nat.le_refl _) (by show 0 + len + 0 ≤ len; omega) (g := (mkF m 9 #[.val (.ref b), .val (.int (Int32.ofNat o)), .val (.int (Int32.ofNat len)), .val (.ref s.heap.size), .unset, .unset] [.int (Int32.ofNat len), .int (Int32.ofNat 0), .ref s.heap.size, .int (Int32.ofNat o), .ref b])) rfl (by rw [hml]; rfl) c5 (argsL := [.ref b, .int (Int32.ofNat o), .ref s.heap.size, .int (Int32.ofNat 0), .int (Int32.ofNat len)]) (rest := []) rfl rfl (by show 2 * 0 + 0 ≤ _; decide) (hb hbytes d9) (⟨rfl, hA3, ba3, hne, l1, by rw [bs3]; simp, hp⟩)
  obtain ⟨rfl, B6, p6, f6⟩ := E6
  have c7 : Steps p.tables e below (s₁.setTop (entryFrame m #[.ref b, .int (Int32.ofNat o), .int (Int32.ofNat len)] 6)) (T6.setTop (mkF m 12 #[.val (.ref b), .val (.int (Int32.ofNat o)), .val (.int (Int32.ofNat len)), .val (.ref s.heap.size), .unset, .unset] [.int (Int32.ofNat len)])) := g6
  have c8 : Steps p.tables e below (s₁.setTop (entryFrame m #[.ref b, .int (Int32.ofNat o), .int (Int32.ofNat len)] 6)) (T6.setTop (mkF m 58 #[.val (.ref b), .val (.int (Int32.ofNat o)), .val (.int (Int32.ofNat len)), .val (.ref s.heap.size), .val (.int (Int32.ofNat len)), .unset] [.ref s.heap.size])) := c7.trans (by
    refine XS.istore X6.here hexec rfl (hb hbytes d12) rfl rfl ?_
    refine XS.iload X6.here hexec rfl (hb hbytes d14) rfl ?_
    refine XS.iloadN X6.here hexec rfl (hb hbytes d16) rfl ?_
    refine XS.icmpYes X6.here hexec rfl (pc0 := 17) rfl (hb hbytes d17) rfl (ii_eq_t rfl) (by decide) rfl ?_
    refine XS.aloadN X6.here hexec rfl (hb hbytes d57) rfl rfl ?_
    exact Steps.refl _)
  have X8 := X6.wide (L' := []) (cells' := 1) (slots' := len) (fun x hx hlt => by
    simp only [List.nil_append, copyLocs, List.mem_map, List.mem_range] at hx
    obtain ⟨i, -, rfl⟩ := hx
    exact absurd hlt (Nat.lt_irrefl _)) (Nat.le_refl _) (by omega)
  exact ⟨T6, some (.ref s.heap.size), _, _, _, X8, rfl, rfl, rfl, (fun h => by cases h), ⟨⟨rfl, B6, ba3.like (X3.warmed.alike.symm.trans X6.warmed.alike) p6.1 f6.1 f6.2.1 f6.2.2.1, f6.2.1.trans bv3, by rw [X6.warmed.alike.findClass, f6.1]; exact bf3, by rw [f6.2.2.1, bs3]; simp, fun j hj => by rw [f6.2.2.2 j, if_pos (by omega)]; rfl, kp3.put p6 (Nat.le_refl _)⟩, by rw [p6.2.2, bh3, hh0]; simp⟩, fun fs hl => c8.trans (X8.areturnOut hexec rfl hret rfl (hb hbytes d58) hl)⟩
end Cmp3
namespace CodL
def yN : MethodName := ⟨"java/lang/StringUTF16", "coderFromArrayLen", "([BI)B"⟩
abbrev yB : ByteArray := jdk_52_method_15_code
theorem d0 : decode yB 0 = .ok (.iload_n 1, 1) := by decide +kernel
theorem d1 : decode yB 1 = .ok (.aload_n 0, 1) := by decide +kernel
theorem d2 : decode yB 2 = .ok (.arraylength, 1) := by decide +kernel
theorem d3 : decode yB 3 = .ok (.isub, 1) := by decide +kernel
theorem d4 : decode yB 4 = .ok (.bipush 31, 2) := by decide +kernel
theorem d6 : decode yB 6 = .ok (.iushr, 1) := by decide +kernel
theorem d7 : decode yB 7 = .ok (.i2b, 1) := by decide +kernel
theorem d8 : decode yB 8 = .ok (.ireturn, 1) := by decide +kernel
def site : List Cond := []
def tab : Cond := tabOf yN yB 2 (some .byte) site
def P (d : Addr) (B : Cell) (args : Array Value) (s : State) : Prop := args = #[.ref d, .int (Int32.ofNat B.slots.size)] ∧ Arr .byte d B s
def E (r : Option Value) (s u : State) : Prop := XT.PureE (some (.int 0)) r s u
/-- an array as long as the number of chars: LATIN1 -/
theorem law (l : Launch) (d : Addr) (B : Cell) : Law l yN 2 2 0 0 yB 2 (some .byte) site (P d B) E [] 0 0 := by
  refine Law.of_walk (plainFor_of_name (by decide +kernel)) (by decide +kernel) (by decide +kernel) (by decide) (fun _ _ h => by rw [h.1]; rfl) (fun _ U U' hal hh h => ⟨h.1, h.2.mv hal hh⟩) (fun r U U' V V' h1 hal h2 h => XT.PureE.mv r U U' V V' h1 hal h2 h) ?_
  intro p e s m args below meth c s₁ X0 hexec hbytes hml hret hlk hnm hown hh0 W hP
  obtain ⟨rfl, hB⟩ := hP
  have hB0 := hB.mv X0.warmed.alike hh0
  have c1 : Steps p.tables e below (s₁.setTop (entryFrame m #[.ref d, .int (Int32.ofNat B.slots.size)] 2)) (s₁.setTop (mkF m 0 #[.val (.ref d), .val (.int (Int32.ofNat B.slots.size))] [])) := entry rfl
  have c2 : Steps p.tables e below (s₁.setTop (entryFrame m #[.ref d, .int (Int32.ofNat B.slots.size)] 2)) (s₁.setTop (mkF m 2 #[.val (.ref d), .val (.int (Int32.ofNat B.slots.size))] [.ref d, .int (Int32.ofNat B.slots.size)])) := c1.trans (by
    refine XS.iloadN X0.here hexec rfl (hb hbytes d0) rfl ?_
    refine XS.aloadN X0.here hexec rfl (hb hbytes d1) rfl rfl ?_
    exact Steps.refl _)
  have c3 : Steps p.tables e below (s₁.setTop (entryFrame m #[.ref d, .int (Int32.ofNat B.slots.size)] 2)) (s₁.setTop (mkF m 8 #[.val (.ref d), .val (.int (Int32.ofNat B.slots.size))] [.int (lo8 (ushr (Int32.ofNat B.slots.size - Int32.ofNat B.slots.size) 31))])) := c2.trans (by
    refine X0.alen hexec hB0 rfl rfl (hb hbytes d2) ?_
    refine XS.isub X0.here hexec rfl (hb hbytes d3) rfl ?_
    refine bipushV X0.here hexec rfl 31 (hb hbytes d4) (by decide) ?_
    refine iushr X0.here hexec rfl (hb hbytes d6) rfl ?_
    refine i2b X0.here hexec rfl (hb hbytes d7) rfl ?_
    exact Steps.refl _)
  have e0 : lo8 (ushr (Int32.ofNat B.slots.size - Int32.ofNat B.slots.size) 31) = 0 := by rw [Int32.sub_self]; decide
  rw [e0] at c3
  exact ⟨s₁, some (.int 0), _, _, _, X0, rfl, rfl, rfl, (fun h => by cases h), ⟨rfl, hh0⟩, fun fs hl => c3.trans (X0.ireturnOut hexec hret rfl (Or.inr (Or.inr (Or.inl rfl))) (hb hbytes d8) hl)⟩
end CodL
/-- the String at a is Latin-1 over a new byte[] (the heap's one new cell): the low bytes of the len chars of A from o on; every cell but a is kept -/
def Got (a : Addr) (D : Cell) (fV fC : Field) (A : Cell) (o len : Nat) (r : Option Value) (s u : State) : Prop := r = none ∧ ∃ D' V : Cell, Blank "java/lang/String" a D' u ∧ Same D D' [fV.slot, fC.slot] ∧ D'.slots[fV.slot]? = some (.ref s.heap.size) ∧ D'.slots[fC.slot]? = some (.int 0) ∧ Arr .byte s.heap.size V u ∧ V.vm = .none ∧ u.vm.findClass "[B" = some V.cls ∧ V.slots.size = len ∧ (∀ j, j < len → V.slots[j]? = some (.int (lo8 (cv A (o + j))))) ∧ (∀ (y : Addr) (c : Cell), y ≠ a → s.heap[y]? = some c → u.heap[y]? = some c) ∧ u.heap.size = s.heap.size + 1
theorem Got.mv {a : Addr} {D A : Cell} {fV fC : Field} {o len : Nat} : ∀ r (U U' V V' : State), U'.heap = U.heap → V.vm.Alike V'.vm → V'.heap = V.heap → Got a D fV fC A o len r U V → Got a D fV fC A o len r U' V' :=
  fun r U U' V V' h1 hal h2 ⟨e0, D', X, a1, a2, a3, a4, a5, a6, a7, a8, a9, a10, a11⟩ => ⟨e0, D', X, a1.mv hal h2, a2, by rw [h1]; exact a3, a4, by rw [h1]; exact a5.mv hal h2, a6, by rw [hal.findClass]; exact a7, a8, a9, by rw [h1, h2]; exact a10, by rw [h1, h2]; exact a11⟩
namespace New4
def yN : MethodName := ⟨"java/lang/String", "<init>", "([CIILjava/lang/Void;)V"⟩
abbrev yB : ByteArray := jdk_42_method_149_code
theorem d0 : decode yB 0 = .ok (.aload_n 0, 1) := by decide +kernel
theorem d1 : decode yB 1 = .ok (.invokespecial 1, 3) := by decide +kernel
theorem d4 : decode yB 4 = .ok (.iload_n 3, 1) := by decide +kernel
theorem d5 : decode yB 5 = .ok (.ifCond (.ne) 22, 3) := by decide +kernel
theorem d27 : decode yB 27 = .ok (.getstatic 38, 3) := by decide +kernel
theorem d30 : decode yB 30 = .ok (.ifCond (.eq) 28, 3) := by decide +kernel
theorem d33 : decode yB 33 = .ok (.aload_n 1, 1) := by decide +kernel
theorem d34 : decode yB 34 = .ok (.iload_n 2, 1) := by decide +kernel
theorem d35 : decode yB 35 = .ok (.iload_n 3, 1) := by decide +kernel
theorem d36 : decode yB 36 = .ok (.invokestatic 177, 3) := by decide +kernel
theorem d39 : decode yB 39 = .ok (.astore 5, 2) := by decide +kernel
theorem d41 : decode yB 41 = .ok (.aload_n 0, 1) := by decide +kernel
theorem d42 : decode yB 42 = .ok (.aload 5, 2) := by decide +kernel
theorem d44 : decode yB 44 = .ok (.iload_n 3, 1) := by decide +kernel
theorem d45 : decode yB 45 = .ok (.invokestatic 47, 3) := by decide +kernel
theorem d48 : decode yB 48 = .ok (.putfield 15, 3) := by decide +kernel
theorem d51 : decode yB 51 = .ok (.aload_n 0, 1) := by decide +kernel
theorem d52 : decode yB 52 = .ok (.aload 5, 2) := by decide +kernel
theorem d54 : decode yB 54 = .ok (.putfield 9, 3) := by decide +kernel
theorem d57 : decode yB 57 = .ok (.return_, 1) := by decide +kernel
def site : List Cond := [.fieldLink "java/lang/String" 38 "java/lang/String" "COMPACT_STRINGS" "Z", Cmp3.tab, CodL.tab, .laysFinal "java/lang/String" "java/lang/String" "value" "[B", .fieldLink "java/lang/String" 9 "java/lang/String" "value" "[B", .laysFinal "java/lang/String" "java/lang/String" "coder" "B", .fieldLink "java/lang/String" 15 "java/lang/String" "coder" "B"] ++ objW "java/lang/String" 1 ++ staticW "java/lang/String" 177 Cmp3.yN ++ staticW "java/lang/String" 47 CodL.yN
def tab : Cond := tabOf yN yB 6 none site
def P (a : Addr) (D : Cell) (fV fC : Field) (b : Addr) (A : Cell) (z : Int32) (o len : Nat) (args : Array Value) (s : State) : Prop := args = #[.ref a, .ref b, .int (Int32.ofNat o), .int (Int32.ofNat len), .null] ∧ Blank "java/lang/String" a D s ∧ Found "java/lang/String" "value" "[B" fV s ∧ Found "java/lang/String" "coder" "B" fC s ∧ Ch b A s ∧ StaticIs s "java/lang/String" "COMPACT_STRINGS" "Z" (.int z) ∧ ¬ z = 0 ∧ 0 < len ∧ o + len ≤ A.slots.size ∧ len ≤ 536870912 ∧ ∀ i, i < len → ¬ 255 < cv A (o + i)
def E (a : Addr) (D : Cell) (fV fC : Field) (A : Cell) (o len : Nat) (r : Option Value) (s u : State) : Prop := Got a D fV fC A o len r s u
/-- len > 0, no char of the range above 255: a Latin-1 String of their low bytes -/
theorem law (l : Launch) (a : Addr) (D : Cell) (fV fC : Field) (b : Addr) (A : Cell) (z : Int32) (o len : Nat) : Law l yN 5 4 2 35 yB 6 none site (P a D fV fC b A z o len) (E a D fV fC A o len) [⟨a, fC.slot⟩, ⟨a, fV.slot⟩] 1 len := by
  refine Law.of_walk (plainFor_of_name (by decide +kernel)) (by decide +kernel) (by decide +kernel) (by decide) (fun _ _ h => by rw [h.1]; rfl) (fun _ U U' hal hh h => ⟨h.1, h.2.1.mv hal hh, h.2.2.1.al hal, h.2.2.2.1.al hal, h.2.2.2.2.1.mv hal hh, h.2.2.2.2.2.1.there hal hh, h.2.2.2.2.2.2⟩) (fun r U U' V V' h1 hal h2 h => Got.mv r U U' V V' h1 hal h2 h) ?_
  intro p e s m args below meth c s₁ X0 hexec hbytes hml hret hlk hnm hown hh0 W hP
  obtain ⟨rfl, hB, f1, f2, hA, s1, hz, l0, l1, l2, hp⟩ := hP
  have a31 := hA.1.2.2.2
  have c1 : Steps p.tables e below (s₁.setTop (entryFrame m #[.ref a, .ref b, .int (Int32.ofNat o), .int (Int32.ofNat len), .null] 6)) (s₁.setTop (mkF m 0 #[.val (.ref a), .val (.ref b), .val (.int (Int32.ofNat o)), .val (.int (Int32.ofNat len)), .val .null, .unset] [])) := entry rfl
  have c2 : Steps p.tables e below (s₁.setTop (entryFrame m #[.ref a, .ref b, .int (Int32.ofNat o), .int (Int32.ofNat len), .null] 6)) (s₁.setTop (mkF m 1 #[.val (.ref a), .val (.ref b), .val (.int (Int32.ofNat o)), .val (.int (Int32.ofNat len)), .val .null, .unset] [.ref a])) := c1.trans (by
    refine XS.aloadN X0.here hexec rfl (hb hbytes d0) rfl rfl ?_
    exact Steps.refl _)
  obtain ⟨T3, X3, q3, st3⟩ := X0.oinit hexec hown (wks W (objW "java/lang/String" 1)) (g := (mkF m 1 #[.val (.ref a), .val (.ref b), .val (.int (Int32.ofNat o)), .val (.int (Int32.ofNat len)), .val .null, .unset] [.ref a])) rfl (by rw [hml]; rfl) (rest := []) rfl (hb hbytes d1) (W := 0) (by show 2 * 0 + 0 ≤ _; decide) (Nat.le_of_ble_eq_true rfl) (Nat.le_of_ble_eq_true rfl)
  have hh3 := q3.trans hh0
  have c4 : Steps p.tables e below (s₁.setTop (entryFrame m #[.ref a, .ref b, .int (Int32.ofNat o), .int (Int32.ofNat len), .null] 6)) (T3.setTop (mkF m 27 #[.val (.ref a), .val (.ref b), .val (.int (Int32.ofNat o)), .val (.int (Int32.ofNat len)), .val .null, .unset] [])) := (c2.trans (st3 _ (Steps.refl _))).trans (by
    refine XS.iloadN X3.here hexec rfl (hb hbytes d4) rfl ?_
    refine XS.ifYes X3.here hexec rfl (pc0 := 5) rfl (hb hbytes d5) rfl (i0_ne_t (nz32 (by omega) l0)) (by decide) rfl ?_
    exact Steps.refl _)
  obtain ⟨T5, X5, q5, st5⟩ := X3.sget hexec hown (wk W (.fieldLink "java/lang/String" 38 "java/lang/String" "COMPACT_STRINGS" "Z")) s1 (fun _ _ h => by rw [hh3]; exact h) (g := (mkF m 27 #[.val (.ref a), .val (.ref b), .val (.int (Int32.ofNat o)), .val (.int (Int32.ofNat len)), .val .null, .unset] [])) rfl (hb hbytes d27)
  have hh5 := q5.trans hh3
  have c6 : Steps p.tables e below (s₁.setTop (entryFrame m #[.ref a, .ref b, .int (Int32.ofNat o), .int (Int32.ofNat len), .null] 6)) (T5.setTop (mkF m 30 #[.val (.ref a), .val (.ref b), .val (.int (Int32.ofNat o)), .val (.int (Int32.ofNat len)), .val .null, .unset] [.int z])) := c4.trans (st5 _ (Steps.refl _))
  have c7 : Steps p.tables e below (s₁.setTop (entryFrame m #[.ref a, .ref b, .int (Int32.ofNat o), .int (Int32.ofNat len), .null] 6)) (T5.setTop (mkF m 36 #[.val (.ref a), .val (.ref b), .val (.int (Int32.ofNat o)), .val (.int (Int32.ofNat len)), .val .null, .unset] [.int (Int32.ofNat len), .int (Int32.ofNat o), .ref b])) := c6.trans (by
    refine XS.ifNo X5.here hexec rfl (hb hbytes d30) rfl (i0_eq_f hz) ?_
    refine XS.aloadN X5.here hexec rfl (hb hbytes d33) rfl rfl ?_
    refine XS.iloadN X5.here hexec rfl (hb hbytes d34) rfl ?_
    refine XS.iloadN X5.here hexec rfl (hb hbytes d35) rfl ?_
    exact Steps.refl _)
  obtain ⟨v8, T8, X8, E8, g8⟩ := X5.callS hexec (Cmp3.law l b A o len) hown (wks W (staticW "java/lang/String" 177 Cmp3.yN)) (wk W Cmp3.tab) (W := 0) (Nat.le_of_ble_eq_true rfl) (Nat.le_of_ble_eq_true rfl) (Nat.le_refl _) (by show 0 + len ≤ len; omega) (g := (mkF m 36 #[.val (.ref a), .val (.ref b), .val (.int (Int32.ofNat o)), .val (.int (Int32.ofNat len)), .val .null, .unset] [.int (Int32.ofNat len), .int (Int32.ofNat o), .ref b])) rfl (by rw [hml]; rfl) c7 (argsL := [.ref b, .int (Int32.ofNat o), .int (Int32.ofNat len)]) (rest := []) rfl rfl (by show 2 * 0 + 0 ≤ _; decide) (hb hbytes d36) (⟨rfl, hA.mv X5.warmed.alike hh5, l1, l2, hp⟩)
  obtain ⟨e8, z8⟩ := E8
  obtain ⟨rfl, N, n1, n2, n3, n4, n5, n6⟩ := NewArr.mv _ T5 s _ _ hh5.symm (Vm.Alike.refl _) rfl e8
  rw [hh5] at z8
  have hB1 := hB.keep X8.warmed.alike (n6 _ _ hB.1)
  have hne : s.heap.size ≠ a := (Nat.ne_of_lt (Array.getElem?_eq_some_iff.mp hB.1).1).symm
  have c9 : Steps p.tables e below (s₁.setTop (entryFrame m #[.ref a, .ref b, .int (Int32.ofNat o), .int (Int32.ofNat len), .null] 6)) (T8.setTop (mkF m 39 #[.val (.ref a), .val (.ref b), .val (.int (Int32.ofNat o)), .val (.int (Int32.ofNat len)), .val .null, .unset] [.ref s.heap.size])) := g8
  have c10 : Steps p.tables e below (s₁.setTop (entryFrame m #[.ref a, .ref b, .int (Int32.ofNat o), .int (Int32.ofNat len), .null] 6)) (T8.setTop (mkF m 45 #[.val (.ref a), .val (.ref b), .val (.int (Int32.ofNat o)), .val (.int (Int32.ofNat len)), .val .null, .val (.ref s.heap.size)] [.int (Int32.ofNat N.slots.size), .ref s.heap.size, .ref a])) := by
    have hc : Steps p.tables e below (s₁.setTop (entryFrame m #[.ref a, .ref b, .int (Int32.ofNat o), .int (Int32.ofNat len), .null] 6)) (T8.setTop (mkF m 45 #[.val (.ref a), .val (.ref b), .val (.int (Int32.ofNat o)), .val (.int (Int32.ofNat len)), .val .null, .val (.ref s.heap.size)] [.int (Int32.ofNat len), .ref s.heap.size, .ref a])) := c9.trans (by
      refine XS.astore X8.here hexec rfl (hb hbytes d39) rfl rfl rfl ?_
      refine XS.aloadN X8.here hexec rfl (hb hbytes d41) rfl rfl ?_
      refine XS.aload X8.here hexec rfl (hb hbytes d42) rfl rfl ?_
      refine XS.iloadN X8.here hexec rfl (hb hbytes d44) rfl ?_
      exact Steps.refl _)
    rw [n4]; exact hc
  obtain ⟨v11, T11, X11, E11, g11⟩ := X8.callS hexec (CodL.law l s.heap.size N) hown (wks W (staticW "java/lang/String" 47 CodL.yN)) (wk W CodL.tab) (W := 1) (Nat.le_of_ble_eq_true rfl) (Nat.le_of_ble_eq_true rfl) (Nat.le_refl _) (by show 0 + len + 0 ≤ len; omega) (g := (mkF m 45 #[.val (.ref a), .val (.ref b), .val (.int (Int32.ofNat o)), .val (.int (Int32.ofNat len)), .val .null, .val (.ref s.heap.size)] [.int (Int32.ofNat N.slots.size), .ref s.heap.size, .ref a])) rfl (by rw [hml]; rfl) c10 (argsL := [.ref s.heap.size, .int (Int32.ofNat N.slots.size)]) (rest := [.ref a]) rfl rfl (by show 2 * 0 + (1 + 0) ≤ _; decide) (hb hbytes d45) (⟨rfl, n1⟩)
  obtain ⟨rfl, q11⟩ := E11
  have hB11 := hB1.mv (X8.warmed.alike.symm.trans X11.warmed.alike) q11
  have c12 : Steps p.tables e below (s₁.setTop (entryFrame m #[.ref a, .ref b, .int (Int32.ofNat o), .int (Int32.ofNat len), .null] 6)) (T11.setTop (mkF m 48 #[.val (.ref a), .val (.ref b), .val (.int (Int32.ofNat o)), .val (.int (Int32.ofNat len)), .val .null, .val (.ref s.heap.size)] [.int 0, .ref a])) := g11
  obtain ⟨T13, X13, p13, bl13, sl13, st13⟩ := X11.finit hexec hown (wk W (.fieldLink "java/lang/String" 15 "java/lang/String" "coder" "B")) (Or.inr ⟨_, (wk W (.laysFinal "java/lang/String" "java/lang/String" "coder" "B"))⟩) (Or.inl ⟨rfl, hnm⟩) f2 (Or.inl rfl) hB11 (t := .byte) (by decide +kernel) rfl (g := (mkF m 48 #[.val (.ref a), .val (.ref b), .val (.int (Int32.ofNat o)), .val (.int (Int32.ofNat len)), .val .null, .val (.ref s.heap.size)] [.int 0, .ref a])) rfl (rest := []) rfl (hb hbytes d48)
  have c14 : Steps p.tables e below (s₁.setTop (entryFrame m #[.ref a, .ref b, .int (Int32.ofNat o), .int (Int32.ofNat len), .null] 6)) (T13.setTop (mkF m 54 #[.val (.ref a), .val (.ref b), .val (.int (Int32.ofNat o)), .val (.int (Int32.ofNat len)), .val .null, .val (.ref s.heap.size)] [.ref s.heap.size, .ref a])) := (c12.trans (st13 _ (Steps.refl _))).trans (by
    refine XS.aloadN X13.here hexec rfl (hb hbytes d51) rfl rfl ?_
    refine XS.aload X13.here hexec rfl (hb hbytes d52) rfl rfl ?_
    exact Steps.refl _)
  obtain ⟨T15, X15, p15, bl15, sl15, st15⟩ := X13.finit hexec hown (wk W (.fieldLink "java/lang/String" 9 "java/lang/String" "value" "[B")) (Or.inr ⟨_, (wk W (.laysFinal "java/lang/String" "java/lang/String" "value" "[B"))⟩) (Or.inl ⟨rfl, hnm⟩) f1 (Or.inl rfl) bl13 (t := (.array .byte)) (by decide +kernel) rfl (g := (mkF m 54 #[.val (.ref a), .val (.ref b), .val (.int (Int32.ofNat o)), .val (.int (Int32.ofNat len)), .val .null, .val (.ref s.heap.size)] [.ref s.heap.size, .ref a])) rfl (rest := []) rfl (hb hbytes d54)
  have c16 : Steps p.tables e below (s₁.setTop (entryFrame m #[.ref a, .ref b, .int (Int32.ofNat o), .int (Int32.ofNat len), .null] 6)) (T15.setTop (mkF m 57 #[.val (.ref a), .val (.ref b), .val (.int (Int32.ofNat o)), .val (.int (Int32.ofNat len)), .val .null, .val (.ref s.heap.size)] [])) := c14.trans (st15 _ (Steps.refl _))
  have ap := apart (Or.inr ⟨_, (wk W (.laysFinal "java/lang/String" "java/lang/String" "value" "[B"))⟩) (Or.inr ⟨_, (wk W (.laysFinal "java/lang/String" "java/lang/String" "coder" "B"))⟩) f1 f2 (t₁ := .array .byte) (t₂ := .byte) (by decide +kernel) (by decide +kernel) (by decide)
  have al := X8.warmed.alike.symm.trans X15.warmed.alike
  have n7 : T11.heap[s.heap.size]? = some N := by rw [q11]; exact n1.1
  exact ⟨T15, none, _, _, _, X15, by simp, rfl, by omega, (fun _ => rfl), ⟨rfl, _, N, bl15, ((Same.refl D _).set _ (by simp)).set _ (by simp), sl15, (Cell.slots_setSlot_ne _ ap).trans sl13, n1.keep al (p15.other hne (p13.other hne n7)), n2, by rw [al.findClass]; exact n3, n4, n5, fun y c h1 h2 => p15.other h1 (p13.other h1 (by rw [q11]; exact n6 y c h2)), by rw [p15.2.2, p13.2.2, q11]; exact z8⟩, fun fs hl => c16.trans (X15.returnOut hexec hret (hb hbytes d57) hl)⟩
end New4
namespace New1
def yN : MethodName := ⟨"java/lang/String", "<init>", "([C)V"⟩
abbrev yB : ByteArray := jdk_42_method_3_code
theorem d0 : decode yB 0 = .ok (.aload_n 0, 1) := by decide +kernel
theorem d1 : decode yB 1 = .ok (.aload_n 1, 1) := by decide +kernel
theorem d2 : decode yB 2 = .ok (.iconst 0, 1) := by decide +kernel
theorem d3 : decode yB 3 = .ok (.aload_n 1, 1) := by decide +kernel
theorem d4 : decode yB 4 = .ok (.arraylength, 1) := by decide +kernel
theorem d5 : decode yB 5 = .ok (.aconst_null, 1) := by decide +kernel
theorem d6 : decode yB 6 = .ok (.invokespecial 27, 3) := by decide +kernel
theorem d9 : decode yB 9 = .ok (.return_, 1) := by decide +kernel
def site : List Cond := [New4.tab] ++ initW "java/lang/String" 27 New4.yN
def tab : Cond := tabOf yN yB 2 none site
def P (a : Addr) (D : Cell) (fV fC : Field) (b : Addr) (A : Cell) (z : Int32) (args : Array Value) (s : State) : Prop := args = #[.ref a, .ref b] ∧ Blank "java/lang/String" a D s ∧ Found "java/lang/String" "value" "[B" fV s ∧ Found "java/lang/String" "coder" "B" fC s ∧ Ch b A s ∧ StaticIs s "java/lang/String" "COMPACT_STRINGS" "Z" (.int z) ∧ ¬ z = 0 ∧ 0 < A.slots.size ∧ A.slots.size ≤ 536870912 ∧ ∀ i, i < A.slots.size → ¬ 255 < cv A i
def E (a : Addr) (D : Cell) (fV fC : Field) (A : Cell) (r : Option Value) (s u : State) : Prop := Got a D fV fC A 0 A.slots.size r s u
/-- new String(chars), not empty, no char above 255: a Latin-1 String of their low bytes -/
theorem law (l : Launch) (a : Addr) (D : Cell) (fV fC : Field) (b : Addr) (A : Cell) (z : Int32) : Law l yN 2 1 3 52 yB 2 none site (P a D fV fC b A z) (E a D fV fC A) [⟨a, fC.slot⟩, ⟨a, fV.slot⟩] 1 A.slots.size := by
  refine Law.of_walk (plainFor_of_name (by decide +kernel)) (by decide +kernel) (by decide +kernel) (by decide) (fun _ _ h => by rw [h.1]; rfl) (fun _ U U' hal hh h => ⟨h.1, h.2.1.mv hal hh, h.2.2.1.al hal, h.2.2.2.1.al hal, h.2.2.2.2.1.mv hal hh, h.2.2.2.2.2.1.there hal hh, h.2.2.2.2.2.2⟩) (fun r U U' V V' h1 hal h2 h => Got.mv r U U' V V' h1 hal h2 h) ?_
  intro p e s m args below meth c s₁ X0 hexec hbytes hml hret hlk hnm hown hh0 W hP
  obtain ⟨rfl, hB, f1, f2, hA, s1, hz, l0, l2, hp⟩ := hP
  have c1 : Steps p.tables e below (s₁.setTop (entryFrame m #[.ref a, .ref b] 2)) (s₁.setTop (mkF m 0 #[.val (.ref a), .val (.ref b)] [])) := entry rfl
  have c2 : Steps p.tables e below (s₁.setTop (entryFrame m #[.ref a, .ref b] 2)) (s₁.setTop (mkF m 6 #[.val (.ref a), .val (.ref b)] [.null, .int (Int32.ofNat A.slots.size), .int 0, .ref b, .ref a])) := c1.trans (by
    refine XS.aloadN X0.here hexec rfl (hb hbytes d0) rfl rfl ?_
    refine XS.aloadN X0.here hexec rfl (hb hbytes d1) rfl rfl ?_
    refine iconstV X0.here hexec rfl 0 (hb hbytes d2) (by decide) ?_
    refine XS.aloadN X0.here hexec rfl (hb hbytes d3) rfl rfl ?_
    refine X0.alen hexec (hA.1.mv X0.warmed.alike hh0) rfl rfl (hb hbytes d4) ?_
    refine XS.aconstNull X0.here hexec rfl (hb hbytes d5) ?_
    exact Steps.refl _)
  obtain ⟨v3, T3, X3, E3, g3⟩ := X0.callN hexec (New4.law l a D fV fC b A z 0 A.slots.size) rfl hown (wks W (initW "java/lang/String" 27 New4.yN)) (W New4.tab (by simp only [site, List.mem_cons, List.mem_append, true_or, or_true])) (W := 0) (Nat.le_of_ble_eq_true rfl) (Nat.le_of_ble_eq_true rfl) (Nat.le_refl _) (by show 0 + A.slots.size ≤ A.slots.size; omega) (g := (mkF m 6 #[.val (.ref a), .val (.ref b)] [.null, .int (Int32.ofNat A.slots.size), .int (Int32.ofNat 0), .ref b, .ref a])) rfl (by rw [hml]; rfl) c2 (argsL := [.ref b, .int (Int32.ofNat 0), .int (Int32.ofNat A.slots.size), .null]) (rest := []) rfl rfl (by show 2 * 0 + 0 ≤ _; decide) (hb hbytes d6) (⟨rfl, hB.mv X0.warmed.alike hh0, f1.al X0.warmed.alike, f2.al X0.warmed.alike, hA.mv X0.warmed.alike hh0, s1.there X0.warmed.alike hh0, hz, l0, by omega, l2, fun i hi => by rw [Nat.zero_add]; exact hp i hi⟩)
  have e0 := Got.mv _ s₁ s _ _ hh0.symm (Vm.Alike.refl _) rfl E3
  obtain rfl := e0.1
  have c4 : Steps p.tables e below (s₁.setTop (entryFrame m #[.ref a, .ref b] 2)) (T3.setTop (mkF m 9 #[.val (.ref a), .val (.ref b)] [])) := g3
  exact ⟨T3, none, _, _, _, X3, by simp, rfl, by omega, (fun _ => rfl), e0, fun fs hl => c4.trans (X3.returnOut hexec hret (hb hbytes d9) hl)⟩
theorem pays {l : Launch} {R : Room} {p : Program} {e : Env} {below : List Frame} {s : State} {sargs : Array Value} {len W : Nat} (a : Addr) (D : Cell) (fV fC : Field) (b : Addr) (A : Cell) (z : Int32) (htab : tab.before sargs s = true) (hfr : 4 ≤ R.frames) (hlo : W + 65 ≤ R.locals) :
    Back l R p e below s sargs yN len W (fun A₁ a₁ => A₁.cells + 1 ≤ R.cells ∧ A₁.slots + A.slots.size ≤ R.slots ∧ P a D fV fC b A z a₁ A₁.U) (fun A₁ _ v₁ B₁ => E a D fV fC A v₁ A₁.U B₁.U ∧ B₁.locs = A₁.locs ++ [⟨a, fC.slot⟩, ⟨a, fV.slot⟩] ∧ B₁.cells = A₁.cells + 1 ∧ B₁.slots = A₁.slots + A.slots.size) :=
  (law l a D fV fC b A z).pays htab hfr (by omega)
end New1
end StrChars
namespace StrChars.Road
open Jvm Sem ClassFile Op Lib Jvm.Stand Jvm.Free Jvm.Free.XT
open Jvm.Lib.Cold (StaticIs)
abbrev ST : String := "java/lang/String"
/-- every table word that New1's law asks, flat -/
abbrev words : List Jvm.Cond := [.code New1.yN New1.yB 2 none, .initialized ST, .methodLink ST 27 New4.yN, .instanceMethod New4.yN,
  .code New4.yN New4.yB 6 none, .fieldLink ST 38 ST "COMPACT_STRINGS" "Z", .laysFinal ST ST "value" "[B", .fieldLink ST 9 ST "value" "[B", .laysFinal ST ST "coder" "B", .fieldLink ST 15 ST "coder" "B",
  .methodLink ST 1 Lib.objectInit, .instanceMethod Lib.objectInit, .code Lib.objectInit ⟨#[0xb1]⟩ 1 none, .methodLink ST 177 Cmp3.yN, .static Cmp3.yN, .methodLink ST 47 CodL.yN, .static CodL.yN,
  .code Cmp3.yN Cmp3.yB 6 (some (.array .byte)), .initialized U16, .arrayClass .byte, .methodLink U16 115 Cmp5.yN, .static Cmp5.yN, .code Cmp5.yN Cmp5.yB 7 (some .int), .code CodL.yN CodL.yB 2 (some .byte)]
theorem tab_of {a : Array Value} {s : State} (h : ∀ w ∈ words, w.before a s = true) : New1.tab.before a s = true := by
  have h5 : Cmp5.tab.before a s = true := unparts (wk h (.code Cmp5.yN Cmp5.yB 7 (some .int))) (wks h (.initialized Cmp5.yN.cls :: Cmp5.site))
  have hc : CodL.tab.before a s = true := unparts (wk h (.code CodL.yN CodL.yB 2 (some .byte))) (wks h (.initialized CodL.yN.cls :: CodL.site))
  have q5 : ∀ w ∈ Cmp5.tab :: words, w.before a s = true := fun w hw => (List.mem_cons.mp hw).elim (fun e => e ▸ h5) (h w)
  have h3 : Cmp3.tab.before a s = true := unparts (wk q5 (.code Cmp3.yN Cmp3.yB 6 (some (.array .byte)))) (wks q5 (.initialized Cmp3.yN.cls :: Cmp3.site))
  have q3 : ∀ w ∈ Cmp3.tab :: CodL.tab :: words, w.before a s = true := fun w hw => (List.mem_cons.mp hw).elim (fun e => e ▸ h3) fun hw => (List.mem_cons.mp hw).elim (fun e => e ▸ hc) (h w)
  have h4 : New4.tab.before a s = true := unparts (wk q3 (.code New4.yN New4.yB 6 none)) (wks q3 (.initialized New4.yN.cls :: New4.site))
  have q4 : ∀ w ∈ New4.tab :: words, w.before a s = true := fun w hw => (List.mem_cons.mp hw).elim (fun e => e ▸ h4) (h w)
  exact unparts (wk q4 (.code New1.yN New1.yB 2 none)) (wks q4 (.initialized New1.yN.cls :: New1.site))
/-- the words ride from the start Z to the walk's own state -/
theorem moved {Z s : State} {a0 args : Array Value} (hZ : Z.Warmed39 s.vm) (hw : ∀ d ∈ words, d.before a0 Z = true) : ∀ d ∈ words, d.before args s = true := fun d hd => by
  have q := hw d hd
  have t : ∀ d ∈ words, d = .arrayClass .byte ∨ (d.onTables && d.keepsFace) = true := by decide +kernel
  rcases t d hd with rfl | t
  · exact RoadKit.mvA hZ q
  · exact RoadKit.mv hZ q t
/-- WHAT COMES BACK, over the tables of the start Z: h the heap at the call, h' behind it -/
def Q (Z : State) (x : Addr) (A : Cell) (h : Heap) (v : Option Value) (h' : Heap) (L : List Loc) : Prop := v = none ∧ (∀ y ∈ L, y.base = x) ∧ RoadKit.Keep h h' [x] ∧ h'.size = h.size + 1 ∧ RoadKit.Exa Z h' x ST ∧ RoadKit.Fld Z h' x ST "value" "[B" (.ref h.size) ∧ RoadKit.Fld Z h' x ST "coder" "B" (.int 0) ∧
  (∃ V : Cell, RoadKit.Arr Z h' h.size V .byte ∧ V.vm = .none ∧ Z.vm.findClass "[B" = some V.cls ∧ V.slots.size = A.slots.size ∧ ∀ j, j < A.slots.size → V.slots[j]? = some (.int (lo8 (cv A j)))) ∧
  ∀ (O n d : String) (w : Value), RoadKit.Fld Z h x O n d w → RoadKit.slotOf Z O n d ≠ RoadKit.slotOf Z ST "value" "[B" → RoadKit.slotOf Z O n d ≠ RoadKit.slotOf Z ST "coder" "B" → RoadKit.Fld Z h' x O n d w
/-- **new String(chars) AT A CALL, IN THE ROAD'S FORM**: for specialBack behind newO: x the fresh String, b the char[] with the cell A -/
theorem back {p : Program} {l : Launch} {e : Env} {R : Room} {s : State} {args : Array Value} {below : List Frame} {len W : Nat} {Z : State} {a0 : Array Value} {h : Heap} (hZ : Z.Warmed39 s.vm) (hw : ∀ d ∈ words, d.before a0 Z = true) {kI : Nat} (wi : (Jvm.Cond.instantiable ST kI).before a0 Z = true)
    {x b : Addr} {A : Cell} {z : Int32} {v0 c0 : Value} (E : RoadKit.Exa Z h x ST) (V : RoadKit.Fld Z h x ST "value" "[B" v0) (C : RoadKit.Fld Z h x ST "coder" "B" c0) (K : RoadKit.Arr Z h b A .char) (hty : Typed .char A) (S : RoadKit.Sta Z h ST "COMPACT_STRINGS" "Z" (.int z)) (hz : ¬ z = 0)
    (l0 : 0 < A.slots.size) (l2 : A.slots.size ≤ 536870912) (hp : ∀ i, i < A.slots.size → ¬ 255 < cv A i) (hfr : 4 ≤ R.frames) (hlo : W + 65 ≤ R.locals) :
    Back l R p e below s args New1.yN len W (fun P a => a = #[.ref x, .ref b] ∧ P.U.heap = h ∧ P.cells + 1 ≤ R.cells ∧ P.slots + A.slots.size ≤ R.slots)
      (fun P _ v B => ∃ L, Q Z x A h v B.U.heap L ∧ B.locs = P.locs ++ L ∧ B.cells = P.cells + 1 ∧ B.slots = P.slots + A.slots.size) := by
  intro m meth c P g ig mk a X hg hsize hdg hW hn hp'
  obtain ⟨rfl, rfl, r1, r2⟩ := hp'
  have al : Z.vm.Alike P.U.vm := hZ.alike.trans X.warmed.alike
  obtain ⟨D, cfV, kV, iV, fV, hD, gV, stV, knV, obV, asV, slV⟩ := id V
  obtain ⟨D', cfC, kC, iC, fC, hD', gC, stC, -, -, asC, slC⟩ := id C
  cases hD.symm.trans hD'
  obtain ⟨D2, kD, e1, e2, e3, e4, e5⟩ := id E
  cases hD.symm.trans e1
  obtain ⟨c2, k2, i1, i2, i3, -⟩ := Cond.instantiable_spec wi
  cases e2.symm.trans i1
  cases e3.symm.trans i2
  obtain ⟨kU, u1, u2⟩ := al.2.2 _ _ e3
  have hB : Blank ST x D P.U := ⟨hD, ⟨knV, fun q hq => by rw [hq] at obV; cases obV⟩, by rw [al.findClass]; exact e2, kU, u1, by rw [u2]; exact i3, by rw [u2]; exact e5 i3⟩
  have F1 : Found ST "value" "[B" fV P.U := ⟨SBG.found_only al ⟨cfV, kV, iV, gV⟩, stV⟩
  have F2 : Found ST "coder" "B" fC P.U := ⟨SBG.found_only al ⟨cfC, kC, iC, gC⟩, stC⟩
  have hA : Ch b A P.U := ⟨⟨K.1, State.isArrayOf_alike al K.2.1, K.2.2, by omega⟩, hty⟩
  have hS : StaticIs P.U ST "COMPACT_STRINGS" "Z" (.int z) := by
    obtain ⟨cfS, iS, kS, fS, st, cS, t1, t2, t3, t4, t5, t6, t7⟩ := S
    exact StaticIs.there (s := { Z with heap := P.U.heap }) ⟨cfS, iS, kS, fS, st, cS, t1, t2, t3, t4, t5, (fun q => by rw [q] at t6; cases t6), t7⟩ al rfl
  obtain ⟨v, B, X', ⟨⟨hv, E', V', q1, q2, q3, q4, q5, q6, q7, q8, q9, q10, q11⟩, hl, hc, hs⟩, st⟩ := New1.pays x D fV fC b A z (tab_of (moved hZ hw)) hfr hlo m meth c P g ig mk _ X hg hsize hdg hW hn ⟨r1, r2, rfl, hB, F1, F2, hA, hS, hz, l0, l2, hp⟩
  have al' : Z.vm.Alike B.U.vm := hZ.alike.trans X'.warmed.alike
  have hsz : E'.slots.size = D.slots.size := by
    obtain ⟨-, -, -, kB, w1, w2, w3⟩ := q1
    obtain ⟨kB', y1, y2⟩ := al'.2.2 _ _ e3
    rw [q2.2.1] at w1
    cases w1.symm.trans y1
    rw [w3, e5 i3, y2]
  refine ⟨v, B, X', ⟨_, ⟨hv, ?_, ⟨by omega, fun y cy hy hn' => q10 y cy (by simpa using hn') hy, fun y cy hy => ?_⟩, q11, ⟨E', _, q1.1, by rw [q2.2.1]; exact e2, by rw [q2.2.1]; exact e3, by rw [q2.1]; exact obV, fun _ => by rw [hsz]; exact e5 i3⟩,
    ⟨E', cfV, kV, iV, fV, q1.1, gV, stV, by rw [q2.1]; exact knV, by rw [q2.1]; exact obV, by rw [q2.2.1]; exact asV, q3⟩, ⟨E', cfC, kC, iC, fC, q1.1, gC, stC, by rw [q2.1]; exact knV, by rw [q2.1]; exact obV, by rw [q2.2.1]; exact asC, q4⟩,
    ⟨V', ⟨q5.1, State.isArrayOf_alike al'.symm q5.2.1, q5.2.2.1⟩, q6, by rw [← al'.findClass]; exact q7, q8, fun j hj => by have := q9 j hj; rwa [Nat.zero_add] at this⟩, fun O n d w F n1 n2 => ?_⟩, hl, hc, hs⟩, st⟩
  · intro y hy
    simp only [List.mem_cons, List.not_mem_nil, or_false] at hy
    rcases hy with rfl | rfl <;> rfl
  · by_cases q : y = x
    · subst q
      cases hD.symm.trans hy
      exact ⟨E', q1.1, q2.2.1, q2.1, hsz⟩
    · exact ⟨cy, q10 y cy q hy, rfl, rfl, rfl⟩
  · obtain ⟨D3, cf, k, i, f, g1, g2, g3, g4, g5, g6, g7⟩ := F
    cases hD.symm.trans g1
    simp only [RoadKit.slotOf, g2, gV, gC, Option.map_some, Option.getD_some] at n1 n2
    exact ⟨E', cf, k, i, f, q1.1, g2, g3, by rw [q2.1]; exact g4, by rw [q2.1]; exact g5, by rw [q2.2.1]; exact g6, by rw [q2.2.2 f.slot (by simp [n1, n2])]; exact g7⟩
end StrChars.Road
namespace StrChars.Road
open Jvm Sem ClassFile Op Lib Jvm.Stand Jvm.Free Jvm.Free.XT
/-- WHAT COMES BACK, the byte[] as a list of values -/
def QA (Z : State) (x : Addr) (zn : Int32) (cs : List Int32) (h : Heap) (v : Option Value) (h' : Heap) (L : List Loc) : Prop := v = none ∧ (∀ y ∈ L, y.base = x) ∧ RoadKit.Keep h h' [x] ∧ h'.size = h.size + 1 ∧ RoadKit.Exa Z h' x ST ∧ RoadKit.Fld Z h' x ST "value" "[B" (.ref h.size) ∧ RoadKit.Fld Z h' x ST "coder" "B" (.int 0) ∧
  (∃ kb, Z.vm.findClass "[B" = some kb ∧ RoadKit.Arv Z h' h.size kb .byte zn (cs.map fun c => .int (lo8 c)) (.int 0)) ∧
  ∀ (O n d : String) (w : Value), RoadKit.Fld Z h x O n d w → RoadKit.slotOf Z O n d ≠ RoadKit.slotOf Z ST "value" "[B" → RoadKit.slotOf Z O n d ≠ RoadKit.slotOf Z ST "coder" "B" → RoadKit.Fld Z h' x O n d w
/-- **new String(chars) AT A CALL, THE ARRAYS AS LISTS**: the char[] at b holds cs, not empty, no char above 255 -/
theorem backArv {p : Program} {l : Launch} {e : Env} {R : Room} {s : State} {args : Array Value} {below : List Frame} {len W : Nat} {Z : State} {a0 : Array Value} {h : Heap} (hZ : Z.Warmed39 s.vm) (hw : ∀ d ∈ words, d.before a0 Z = true) {kI : Nat} (wi : (Jvm.Cond.instantiable ST kI).before a0 Z = true)
    {x b : Addr} {k : ClassId} {zn z : Int32} {cs : List Int32} {dv v0 c0 : Value} (E : RoadKit.Exa Z h x ST) (V : RoadKit.Fld Z h x ST "value" "[B" v0) (C : RoadKit.Fld Z h x ST "coder" "B" c0) (K : RoadKit.Arv Z h b k .char zn (cs.map Value.int) dv) (S : RoadKit.Sta Z h ST "COMPACT_STRINGS" "Z" (.int z)) (hz : ¬ z = 0)
    (hlen : zn.toNatClampNeg = cs.length) (h0 : 0 < cs.length) (hbig : cs.length ≤ 536870912) (hall : ∀ c ∈ cs, ¬ 255 < c) (hfr : 4 ≤ R.frames) (hlo : W + 65 ≤ R.locals) :
    Back l R p e below s args New1.yN len W (fun P a => a = #[.ref x, .ref b] ∧ P.U.heap = h ∧ P.cells + 1 ≤ R.cells ∧ P.slots + cs.length ≤ R.slots)
      (fun P _ v B => ∃ L, QA Z x zn cs h v B.U.heap L ∧ B.locs = P.locs ++ L ∧ B.cells = P.cells + 1 ∧ B.slots = P.slots + cs.length) := by
  obtain ⟨A, K1, K2, K3, K4, K5, K6⟩ := K
  have e : A.slots.size = cs.length := K3.trans hlen
  have hat : ∀ (i : Nat) (hi : i < cs.length), A.slots[i]? = some (.int cs[i]) := fun i hi => by rw [K5 i (by omega)]; simp [List.getD_eq_getElem?_getD, hi]
  have hcv : ∀ (i : Nat) (hi : i < cs.length), cv A i = cs[i] := fun i hi => by unfold cv; rw [hat i hi]
  have hty : Typed .char A := fun i v hv => by
    have hi : i < A.slots.size := (Array.getElem?_eq_some_iff.mp hv).1
    have q := K5 i hi
    rw [hv] at q
    rw [Option.some.inj q]
    exact K6 i hi
  refine Back.mono (back hZ hw wi E V C K1 hty S hz (by omega) (by omega) (fun i hi => by rw [hcv i (by omega)]; exact hall _ (List.getElem_mem _)) hfr hlo) (fun P a hp => ⟨hp.1, hp.2.1, hp.2.2.1, by rw [e]; exact hp.2.2.2⟩) (fun P a v B hp hq => ?_)
  obtain ⟨L, ⟨q1, q2, q3, q4, q5, q6, q7, ⟨V', v1, v2, v3, v4, v5⟩, q9⟩, hl, hc, hs⟩ := hq
  refine ⟨L, ⟨q1, q2, q3, q4, q5, q6, q7, ⟨V'.cls, v3, V', v1, rfl, by rw [v4, e, hlen], K4, fun i hi => ?_, fun i hi => ?_⟩, q9⟩, hl, hc, by rw [hs, e]⟩
  · have hi' : i < cs.length := by omega
    rw [v5 i (by omega), hcv i hi']; simp [List.getD_eq_getElem?_getD, hi']
  · have hi' : i < cs.length := by omega
    simp only [List.getD_eq_getElem?_getD, List.getElem?_map, List.getElem?_eq_getElem hi', Option.map_some, Option.getD_some]
    exact fits_lo8 _
end StrChars.Road
namespace StrChars.Road
open Jvm Sem ClassFile Op Lib Jvm.Stand Jvm.Free Jvm.Free.XT
/-- WHAT COMES BACK, in the writer's own shape -/
def QV (Z : State) (x : Addr) (N : Int32) (bs : List Int32) (h : Heap) (n0 : Nat) (v : Option Value) (h' : Heap) (L : List Loc) : Prop := v = none ∧ RoadKit.Fr n0 L ∧ RoadKit.Keep h h' [x] ∧ RoadKit.Exa Z h' x ST ∧ RoadKit.Fld Z h' x ST "coder" "B" (.int 0) ∧
  ∃ (t : Addr) (kb : ClassId), n0 ≤ t ∧ h.size ≤ t ∧ ¬ t = x ∧ RoadKit.Fld Z h' x ST "value" "[B" (.ref t) ∧ RoadKit.Arv Z h' t kb .byte N (bs.map Value.int) (.int 0)
/-- **new String(chars) AT A CALL, FOR THE WRITER**: a char[] of n known ints, each 0 to 255 -/
theorem backV {p : Program} {l : Launch} {e : Env} {R : Room} {s : State} {args : Array Value} {below : List Frame} {len W : Nat} {Z : State} {a0 : Array Value} {h : Heap} (hZ : Z.Warmed39 s.vm) (hw : ∀ d ∈ words, d.before a0 Z = true) {kI : Nat} (wi : (Jvm.Cond.instantiable ST kI).before a0 Z = true)
    {x b : Addr} {kC : ClassId} {cs bs : List Int32} {d v0 c0 : Value} {z N : Int32} {n n0 : Nat} (hx0 : n0 ≤ x) (hh0 : n0 ≤ h.size) (E : RoadKit.Exa Z h x ST) (V : RoadKit.Fld Z h x ST "value" "[B" v0) (C : RoadKit.Fld Z h x ST "coder" "B" c0) (K : RoadKit.Arv Z h b kC .char N (cs.map Value.int) d) (S : RoadKit.Sta Z h ST "COMPACT_STRINGS" "Z" (.int z)) (hz : ¬ z = 0)
    (hn : cs.length = n) (hN : N = Int32.ofNat n) (l0 : 0 < n) (l2 : n ≤ 4000) (hp : ∀ c ∈ cs, ¬ c < 0 ∧ ¬ (255 : Int32) < c) (hb : bs = cs.map (fun c => c.toInt8.toInt32)) (hfr : 4 ≤ R.frames) (hlo : W + 65 ≤ R.locals) :
    Back l R p e below s args (⟨"java/lang/String", "<init>", "([C)V"⟩ : MethodName) len W (fun P a => a = #[.ref x, .ref b] ∧ P.U.heap = h ∧ P.cells + 1 ≤ R.cells ∧ P.slots + n ≤ R.slots)
      (fun P _ v B => ∃ L, QV Z x N bs h n0 v B.U.heap L ∧ B.locs = P.locs ++ L ∧ B.cells = P.cells + 1 ∧ B.slots = P.slots + n) := by
  subst hn hN hb
  refine Back.mono (backArv hZ hw wi E V C K S hz (n32 (by omega)) l0 (by omega) (fun c hc => (hp c hc).2) hfr hlo) (fun P a hp => hp) (fun P a v B hp hq => ?_)
  obtain ⟨L, ⟨q1, q2, q3, q4, q5, q6, q7, ⟨kb, v1, v2⟩, q9⟩, hl, hc, hs⟩ := hq
  exact ⟨L, ⟨q1, fun y hy => by rw [q2 y hy]; exact hx0, q3, q5, q7, h.size, kb, hh0, Nat.le_refl _, Nat.ne_of_gt E.lt, q6, by rw [List.map_map]; exact v2⟩, hl, hc, hs⟩
end StrChars.Road
end Jvm.Pilot.@@N@@
namespace Jvm.Pilot.@@N@@
open Jvm Jvm.ClassFile Sem Op Lib Jvm.Free Jvm.Stand Jvm.LawKit Jvm.RoadKit Bundle Jvm.Pilot.@@N@@.Jvm.D
/-- the road from here on ends, and G holds of its end -/
def Go (p : Program) (e : Env) (below : List Frame) (G : Outcome → State → Prop) (T : State) (g : JFrame) : Prop :=
  ∃ U o, Steps p.tables e below (T.setTop g) U ∧ U.status = .running ∧ Ended U below o ∧ G o U
/-- what a body leaves: it returned v, Q holds, the frame is kept -/
def Out (s : State) (Q : Option Value → Heap → List Loc → Prop) (C S : Nat) (o : Outcome) (U : State) : Prop :=
  ∃ v L, o = .returned v ∧ Q v U.heap L ∧ FrameEnd s o U L C S
section GoLaws
variable {p : Program} {l : Launch} {e : Env} {R : Room} {s : State} {m : MethodId} {args : Array Value} {below : List Frame} {meth : Method} {c : Code} {T T' : State} {locs : List Loc} {cells slots : Nat} {g g' : JFrame} {G : Outcome → State → Prop} {Q : Option Value → Heap → List Loc → Prop} {C S : Nat}
theorem Go.by (st : ∀ t, Steps p.tables e below (T'.setTop g') t → Steps p.tables e below (T.setTop g) t) (k : Go p e below G T' g') : Go p e below G T g := by
  obtain ⟨U, o, h, r⟩ := k
  exact ⟨U, o, st _ h, r⟩
theorem Go.tr (st : Steps p.tables e below (T.setTop g) (T'.setTop g')) (k : Go p e below G T' g') : Go p e below G T g := by
  obtain ⟨U, o, h, r⟩ := k
  exact ⟨U, o, st.trans h, r⟩
theorem Go.cast (q : g = g') (k : Go p e below G T g') : Go p e below G T g := by subst q; exact k
theorem Go.ends (X : Stand p l e R s m args below meth c T locs cells slots) {v : Option Value} (hlk : meth.locks = false) (hv : meth.sig.returnType = none → v = none)
    (st : ∀ fs, (∀ (f : JFrame) (acts : List Action), f.method = m → f.locked = none → f.entered = [] → (doReturn e (T.setTop f) acts v).1 = T.setFrames fs) → Steps p.tables e below (T.setTop g) (T.setFrames fs))
    (hQ : Q v T.heap locs) (hc : cells ≤ C) (hs : slots ≤ S) : Go p e below (Out s Q C S) T g := by
  obtain ⟨fs, hr, hrun, hended, hW, hsame⟩ := X.leave (v := v) hv hlk
  exact ⟨_, _, st fs hr, hrun, hended, _, _, rfl, hQ, ⟨_, rfl⟩, hW, hsame.mono hc hs⟩
theorem Go.ret0 (X : Stand p l e R s m args below meth c T locs cells slots) (hx : p.tables.exec = Jvm.exec) (hret : meth.sig.returnType = none) (hlk : meth.locks = false) {pc : Nat} {Ls : Array Slot} (hd : decode c.code pc = .ok (.return_, 1))
    (hQ : Q none T.heap locs) (hc : cells ≤ C) (hs : slots ≤ S) : Go p e below (Out s Q C S) T (mkF m pc Ls []) :=
  Go.ends X hlk (fun _ => rfl) (fun fs hr => X.returnOut hx hret hd hr) hQ hc hs
theorem Go.retN (X : Stand p l e R s m args below meth c T locs cells slots) (hx : p.tables.exec = Jvm.exec) {t : FieldType} (hret : meth.sig.returnType = some t) (ht : t = .boolean ∨ t = .byte ∨ t = .char ∨ t = .short) (hlk : meth.locks = false) {pc : Nat} {Ls : Array Slot} {z : Int32} {rest : List Value} (hd : decode c.code pc = .ok (.ireturn, 1))
    (hQ : Q (some (.int (nar t z))) T.heap locs) (hc : cells ≤ C) (hs : slots ≤ S) : Go p e below (Out s Q C S) T (mkF m pc Ls (.int z :: rest)) :=
  Go.ends X hlk (fun h => by rw [hret] at h; cases h) (fun fs hr => RoadKit.retN X hx hret ht hd hr) hQ hc hs
theorem Go.retI (X : Stand p l e R s m args below meth c T locs cells slots) (hx : p.tables.exec = Jvm.exec) (hret : meth.sig.returnType = some .int) (hlk : meth.locks = false) {pc : Nat} {Ls : Array Slot} {z : Int32} {rest : List Value} (hd : decode c.code pc = .ok (.ireturn, 1))
    (hQ : Q (some (.int z)) T.heap locs) (hc : cells ≤ C) (hs : slots ≤ S) : Go p e below (Out s Q C S) T (mkF m pc Ls (.int z :: rest)) :=
  Go.ends X hlk (fun h => by rw [hret] at h; cases h) (fun fs hr => retOut X hx hret rfl (Or.inl ⟨rfl, Or.inl rfl, z, rfl⟩) hd hr) hQ hc hs
theorem Go.retL (X : Stand p l e R s m args below meth c T locs cells slots) (hx : p.tables.exec = Jvm.exec) (hret : meth.sig.returnType = some .long) (hlk : meth.locks = false) {pc : Nat} {Ls : Array Slot} {z : Int64} {rest : List Value} (hd : decode c.code pc = .ok (.lreturn, 1))
    (hQ : Q (some (.long z)) T.heap locs) (hc : cells ≤ C) (hs : slots ≤ S) : Go p e below (Out s Q C S) T (mkF m pc Ls (.long z :: rest)) :=
  Go.ends X hlk (fun h => by rw [hret] at h; cases h) (fun fs hr => retOut X hx hret rfl (Or.inr (Or.inl ⟨rfl, rfl, z, rfl⟩)) hd hr) hQ hc hs
theorem Go.retR (X : Stand p l e R s m args below meth c T locs cells slots) (hx : p.tables.exec = Jvm.exec) {t : FieldType} {w : Value} (hret : meth.sig.returnType = some t) (hn : narrow t w = w) (ht : t.isReference = true) (hw : w.isRef = true) (hlk : meth.locks = false) {pc : Nat} {Ls : Array Slot} {rest : List Value} (hd : decode c.code pc = .ok (.areturn, 1))
    (hQ : Q (some w) T.heap locs) (hc : cells ≤ C) (hs : slots ≤ S) : Go p e below (Out s Q C S) T (mkF m pc Ls (w :: rest)) :=
  Go.ends X hlk (fun h => by rw [hret] at h; cases h) (fun fs hr => retOut X hx hret hn (Or.inr (Or.inr (Or.inr (Or.inr ⟨rfl, ht, hw⟩)))) hd hr) hQ hc hs
theorem Stand_grow {cells' slots' : Nat} (X : Stand p l e R s m args below meth c T locs cells slots) (hc : cells ≤ cells') (hs : slots ≤ slots') : Stand p l e R s m args below meth c T locs cells' slots' :=
  { X with same := X.same.mono hc hs }
end GoLaws
theorem ne_arv {Z : State} {h : Heap} {a b : Addr} {C : String} {a0 : Array Value} {k : Nat} {kc : ClassId} {ty : FieldType} {z : Int32} {vs : List Value} {dv : Value} (F : Exa Z h a C) (wi : (Jvm.Cond.instantiable C k).before a0 Z = true) (G : Arv Z h b kc ty z vs dv) : a ≠ b := by
  obtain ⟨c, A, -⟩ := G
  exact ne_arr F wi A
/-- what a body leaves that may load String constants -/
def OutW (Z : State) (EL : List (String × Nat)) (s : State) (Q : Option Value → Heap → List Loc → Prop) (C S : Nat) (o : Outcome) (U : State) : Prop :=
  ∃ v L, o = .returned v ∧ Q v U.heap L ∧ CHr Z EL s.vm s.heap U.vm U.heap ∧ ReturnedEndW s o U L C S
section GoWide
variable {p : Program} {l : Launch} {e : Env} {R : Room} {s Z : State} {m : MethodId} {args a0 : Array Value} {below : List Frame} {meth : Method} {c : Code} {T : State} {locs : List Loc} {cells slots : Nat} {g : JFrame} {Q : Option Value → Heap → List Loc → Prop} {C S k0 : Nat} {vm0 : Vm} {EL : List (String × Nat)}
theorem Go.endsW (X : Stand p l e R (s.setVm vm0) m args below meth c T locs cells slots) {v : Option Value} (hlk : meth.locks = false) (hv : meth.sig.returnType = none → v = none)
    (st : ∀ fs, (∀ (f : JFrame) (acts : List Action), f.method = m → f.locked = none → f.entered = [] → (doReturn e (T.setTop f) acts v).1 = T.setFrames fs) → Steps p.tables e below (T.setTop g) (T.setFrames fs))
    (hS : s.Since vm0 k0) (hk : k0 ≤ T.heap.size) (hZ : Z.Warmed39 vm0) (hEL : EW Z a0 EL) (hC : CHr Z EL s.vm s.heap vm0 T.heap) (hQ : Q v T.heap locs) (hc : cells ≤ C) (hs : slots ≤ S) : Go p e below (OutW Z EL s Q C S) T g := by
  obtain ⟨fs, hr, hrun, hended, hW⟩ := X.leaveW hS hk (v := v) hv hlk
  exact ⟨_, _, st fs hr, hrun, hended, _, _, rfl, hQ, hC.trans (show CHr Z EL vm0 T.heap T.vm T.heap from CHv.at X hZ hEL hC.1), hW.1, hW.2.1, hW.2.2.1, hW.2.2.2.mono hc hs⟩
theorem Go.ret0W (X : Stand p l e R (s.setVm vm0) m args below meth c T locs cells slots) (hx : p.tables.exec = Jvm.exec) (hret : meth.sig.returnType = none) (hlk : meth.locks = false) {pc : Nat} {Ls : Array Slot} (hd : decode c.code pc = .ok (.return_, 1))
    (hS : s.Since vm0 k0) (hk : k0 ≤ T.heap.size) (hZ : Z.Warmed39 vm0) (hEL : EW Z a0 EL) (hC : CHr Z EL s.vm s.heap vm0 T.heap) (hQ : Q none T.heap locs) (hc : cells ≤ C) (hs : slots ≤ S) : Go p e below (OutW Z EL s Q C S) T (mkF m pc Ls []) :=
  Go.endsW X hlk (fun _ => rfl) (fun fs hr => X.returnOut hx hret hd hr) hS hk hZ hEL hC hQ hc hs
theorem Go.retNW (X : Stand p l e R (s.setVm vm0) m args below meth c T locs cells slots) (hx : p.tables.exec = Jvm.exec) {t : FieldType} (hret : meth.sig.returnType = some t) (ht : t = .boolean ∨ t = .byte ∨ t = .char ∨ t = .short) (hlk : meth.locks = false) {pc : Nat} {Ls : Array Slot} {z : Int32} {rest : List Value} (hd : decode c.code pc = .ok (.ireturn, 1))
    (hS : s.Since vm0 k0) (hk : k0 ≤ T.heap.size) (hZ : Z.Warmed39 vm0) (hEL : EW Z a0 EL) (hC : CHr Z EL s.vm s.heap vm0 T.heap) (hQ : Q (some (.int (nar t z))) T.heap locs) (hc : cells ≤ C) (hs : slots ≤ S) : Go p e below (OutW Z EL s Q C S) T (mkF m pc Ls (.int z :: rest)) :=
  Go.endsW X hlk (fun h => by rw [hret] at h; cases h) (fun fs hr => RoadKit.retN X hx hret ht hd hr) hS hk hZ hEL hC hQ hc hs
theorem safe_arv {vm : Vm} {h : Heap} {x : Addr} {kc : ClassId} {ty : FieldType} {z : Int32} {vs : List Value} {dv : Value} (hal : Z.vm.Alike vm) (G : Arv Z h x kc ty z vs dv) (ht : ty ≠ .byte) : Safe Z EL vm h x := by
  obtain ⟨c, A, -⟩ := G
  exact Safe.arr hal A ht
/-- a String whose value is still null is no String constant -/
theorem safe_str {vm : Vm} {h : Heap} {x : Addr} (hal : Z.vm.Alike vm) (E : Exa Z h x "java/lang/String") (F : Fld Z h x "java/lang/String" "value" "[B" .null) : Safe Z EL vm h x := fun B => by
  obtain ⟨q0, -, u, a, -, q, -, G, rfl | rfl⟩ := B
  · obtain ⟨cell, cf, k, i, f, f1, f2, f3, f4, f5, f6, f7⟩ := F
    cases (show h[q.sa]? = some q.sC from G.ha).symm.trans f1
    obtain ⟨cS, ⟨st, -, -⟩, -⟩ := G
    obtain ⟨-, -, -, ⟨c', k', i', g1, -⟩, -, -, -, g2, -⟩ := st
    obtain ⟨k2, q1, -⟩ := State.fieldFound?_setVm (s := Z) hal f2
    have q1' : (Wst Z vm h).fieldFound? "java/lang/String" "value" "[B" = some (cf, k2, i, f) := q1
    cases g1.symm.trans q1'
    rw [f7] at g2
    cases g2
  · obtain ⟨cell, k, e1, e2, -⟩ := E
    cases (show h[q.sd]? = some q.SA from G.hd).symm.trans e1
    obtain ⟨cS, -, -, f, -⟩ := G
    have f' : vm.findClass "[B" = some q.SA.cls := f
    rw [hal.findClass] at f'
    obtain ⟨k1, r1, r2⟩ := Vm.findClass_spec f'
    obtain ⟨k2, r3, r4⟩ := Vm.findClass_spec e2
    cases r1.symm.trans r3
    exact absurd (r2.symm.trans r4) (by decide)
end GoWide
abbrev QT := Option Value → Heap → List Loc → Prop
abbrev De (code : ByteArray) (pc n pc' : Nat) (i : Instr) : Prop := decode code pc = .ok (i, n) ∧ pc + n = pc'
abbrev Dj (code : ByteArray) (pc pc' : Nat) (i : Instr) (o : Int) : Prop := decode code pc = .ok (i, 3) ∧ 0 ≤ (pc : Int) + o ∧ ((pc : Int) + o).toNat = pc'
abbrev HB (p : Program) (c : Code) (code : ByteArray) : Prop := p.tables.exec = Jvm.exec ∧ c.code = code
def pl (o : Slot) (v : Value) : Bool := decide (v.category = 1) && (match o with | .unset => true | .val w => decide (w.category = 1) | .second => false)
theorem sl {l l' : List Slot} {k : Nat} {o : Slot} {v : Value} (h : l[k]? = some o) (q : l.set k (.val v) = l') (hp : pl o v = true) : storeLocals l.toArray k v = some l'.toArray := by
  simp only [pl, Bool.and_eq_true, decide_eq_true_eq] at hp
  rw [XS.store1 (o := o) (by simpa using h) (by
    obtain ⟨-, hp⟩ := hp
    cases o with
    | unset => exact Or.inl rfl
    | val w => exact Or.inr ⟨w, rfl, by simpa using hp⟩
    | second => simp at hp) hp.1, ← q]
  simp
theorem s0 {o : Slot} {l : List Slot} {v : Value} (h : pl o v = true) : storeLocals (o :: l).toArray 0 v = some (.val v :: l).toArray := sl (o := o) rfl rfl h
theorem s1 {a0 o : Slot} {l : List Slot} {v : Value} (h : pl o v = true) : storeLocals (a0 :: o :: l).toArray 1 v = some (a0 :: .val v :: l).toArray := sl (o := o) rfl rfl h
theorem s2 {a0 a1 o : Slot} {l : List Slot} {v : Value} (h : pl o v = true) : storeLocals (a0 :: a1 :: o :: l).toArray 2 v = some (a0 :: a1 :: .val v :: l).toArray := sl (o := o) rfl rfl h
theorem s3 {a0 a1 a2 o : Slot} {l : List Slot} {v : Value} (h : pl o v = true) : storeLocals (a0 :: a1 :: a2 :: o :: l).toArray 3 v = some (a0 :: a1 :: a2 :: .val v :: l).toArray := sl (o := o) rfl rfl h
theorem s4 {a0 a1 a2 a3 o : Slot} {l : List Slot} {v : Value} (h : pl o v = true) : storeLocals (a0 :: a1 :: a2 :: a3 :: o :: l).toArray 4 v = some (a0 :: a1 :: a2 :: a3 :: .val v :: l).toArray := sl (o := o) rfl rfl h
theorem s5 {a0 a1 a2 a3 a4 o : Slot} {l : List Slot} {v : Value} (h : pl o v = true) : storeLocals (a0 :: a1 :: a2 :: a3 :: a4 :: o :: l).toArray 5 v = some (a0 :: a1 :: a2 :: a3 :: a4 :: .val v :: l).toArray := sl (o := o) rfl rfl h
theorem s6 {a0 a1 a2 a3 a4 a5 o : Slot} {l : List Slot} {v : Value} (h : pl o v = true) : storeLocals (a0 :: a1 :: a2 :: a3 :: a4 :: a5 :: o :: l).toArray 6 v = some (a0 :: a1 :: a2 :: a3 :: a4 :: a5 :: .val v :: l).toArray := sl (o := o) rfl rfl h
theorem s7 {a0 a1 a2 a3 a4 a5 a6 o : Slot} {l : List Slot} {v : Value} (h : pl o v = true) : storeLocals (a0 :: a1 :: a2 :: a3 :: a4 :: a5 :: a6 :: o :: l).toArray 7 v = some (a0 :: a1 :: a2 :: a3 :: a4 :: a5 :: a6 :: .val v :: l).toArray := sl (o := o) rfl rfl h
theorem s8 {a0 a1 a2 a3 a4 a5 a6 a7 o : Slot} {l : List Slot} {v : Value} (h : pl o v = true) : storeLocals (a0 :: a1 :: a2 :: a3 :: a4 :: a5 :: a6 :: a7 :: o :: l).toArray 8 v = some (a0 :: a1 :: a2 :: a3 :: a4 :: a5 :: a6 :: a7 :: .val v :: l).toArray := sl (o := o) rfl rfl h
theorem s9 {a0 a1 a2 a3 a4 a5 a6 a7 a8 o : Slot} {l : List Slot} {v : Value} (h : pl o v = true) : storeLocals (a0 :: a1 :: a2 :: a3 :: a4 :: a5 :: a6 :: a7 :: a8 :: o :: l).toArray 9 v = some (a0 :: a1 :: a2 :: a3 :: a4 :: a5 :: a6 :: a7 :: a8 :: .val v :: l).toArray := sl (o := o) rfl rfl h
theorem s10 {a0 a1 a2 a3 a4 a5 a6 a7 a8 a9 o : Slot} {l : List Slot} {v : Value} (h : pl o v = true) : storeLocals (a0 :: a1 :: a2 :: a3 :: a4 :: a5 :: a6 :: a7 :: a8 :: a9 :: o :: l).toArray 10 v = some (a0 :: a1 :: a2 :: a3 :: a4 :: a5 :: a6 :: a7 :: a8 :: a9 :: .val v :: l).toArray := sl (o := o) rfl rfl h
theorem s11 {a0 a1 a2 a3 a4 a5 a6 a7 a8 a9 a10 o : Slot} {l : List Slot} {v : Value} (h : pl o v = true) : storeLocals (a0 :: a1 :: a2 :: a3 :: a4 :: a5 :: a6 :: a7 :: a8 :: a9 :: a10 :: o :: l).toArray 11 v = some (a0 :: a1 :: a2 :: a3 :: a4 :: a5 :: a6 :: a7 :: a8 :: a9 :: a10 :: .val v :: l).toArray := sl (o := o) rfl rfl h
theorem s12 {a0 a1 a2 a3 a4 a5 a6 a7 a8 a9 a10 a11 o : Slot} {l : List Slot} {v : Value} (h : pl o v = true) : storeLocals (a0 :: a1 :: a2 :: a3 :: a4 :: a5 :: a6 :: a7 :: a8 :: a9 :: a10 :: a11 :: o :: l).toArray 12 v = some (a0 :: a1 :: a2 :: a3 :: a4 :: a5 :: a6 :: a7 :: a8 :: a9 :: a10 :: a11 :: .val v :: l).toArray := sl (o := o) rfl rfl h
section Z
variable {p : Program} {l : Launch} {e : Env} {R : Room} {s : State} {m : MethodId} {args : Array Value} {below : List Frame} {meth : Method} {c : Code} {T : State} {locs : List Loc} {cells slots : Nat} {G : Outcome → State → Prop} {code : ByteArray} {pc pc' : Nat} {ls ls' : Array Slot} {st : List Value}
theorem zil (X : Stand p l e R s m args below meth c T locs cells slots) (B : HB p c code) {k : Nat} {v : Int32} (d : De code pc 2 pc' (.iload k)) (h : ls[k]? = some (.val (.int v))) (K : Go p e below G T (mkF m pc' ls (.int v :: st))) : Go p e below G T (mkF m pc ls (st)) := by
  obtain ⟨x, rfl⟩ := B; obtain ⟨d, rfl⟩ := d
  exact Go.by (fun _ k => XS.iload X.here x rfl d h k) K
theorem zal (X : Stand p l e R s m args below meth c T locs cells slots) (B : HB p c code) {k : Nat} {v : Addr} (d : De code pc 2 pc' (.aload k)) (h : ls[k]? = some (.val (.ref v))) (K : Go p e below G T (mkF m pc' ls (.ref v :: st))) : Go p e below G T (mkF m pc ls (st)) := by
  obtain ⟨x, rfl⟩ := B; obtain ⟨d, rfl⟩ := d
  exact Go.by (fun _ k => XS.aload X.here x rfl d h rfl k) K
theorem zll (X : Stand p l e R s m args below meth c T locs cells slots) (B : HB p c code) {k : Nat} {v : Int64} (d : De code pc 2 pc' (.lload k)) (h : ls[k]? = some (.val (.long v))) (K : Go p e below G T (mkF m pc' ls (.long v :: st))) : Go p e below G T (mkF m pc ls (st)) := by
  obtain ⟨x, rfl⟩ := B; obtain ⟨d, rfl⟩ := d
  exact Go.by (fun _ k => XS.lload X.here x rfl d h k) K
theorem zis (X : Stand p l e R s m args below meth c T locs cells slots) (B : HB p c code) {k : Nat} {v : Int32} (d : De code pc 2 pc' (.istore k)) (h : storeLocals ls k (.int v) = some ls') (K : Go p e below G T (mkF m pc' ls' (st))) : Go p e below G T (mkF m pc ls (.int v :: st)) := by
  obtain ⟨x, rfl⟩ := B; obtain ⟨d, rfl⟩ := d
  exact Go.by (fun _ k => XS.istore X.here x rfl d rfl h k) K
theorem zas (X : Stand p l e R s m args below meth c T locs cells slots) (B : HB p c code) {k : Nat} {v : Value} (d : De code pc 2 pc' (.astore k)) (h : storeLocals ls k v = some ls') (hr : v.isRef = true) (K : Go p e below G T (mkF m pc' ls' (st))) : Go p e below G T (mkF m pc ls (v :: st)) := by
  obtain ⟨x, rfl⟩ := B; obtain ⟨d, rfl⟩ := d
  exact Go.by (fun _ k => XS.astore X.here x rfl d rfl hr h k) K
theorem zilN (X : Stand p l e R s m args below meth c T locs cells slots) (B : HB p c code) {k : Fin 4} {v : Int32} (d : De code pc 1 pc' (.iload_n k)) (h : ls[k.val]? = some (.val (.int v))) (K : Go p e below G T (mkF m pc' ls (.int v :: st))) : Go p e below G T (mkF m pc ls (st)) := by
  obtain ⟨x, rfl⟩ := B; obtain ⟨d, rfl⟩ := d
  exact Go.by (fun _ k => XS.iloadN X.here x rfl d h k) K
theorem zalN (X : Stand p l e R s m args below meth c T locs cells slots) (B : HB p c code) {k : Fin 4} {v : Addr} (d : De code pc 1 pc' (.aload_n k)) (h : ls[k.val]? = some (.val (.ref v))) (K : Go p e below G T (mkF m pc' ls (.ref v :: st))) : Go p e below G T (mkF m pc ls (st)) := by
  obtain ⟨x, rfl⟩ := B; obtain ⟨d, rfl⟩ := d
  exact Go.by (fun _ k => XS.aloadN X.here x rfl d h rfl k) K
theorem zisN (X : Stand p l e R s m args below meth c T locs cells slots) (B : HB p c code) {k : Fin 4} {v : Int32} (d : De code pc 1 pc' (.istore_n k)) (h : storeLocals ls k.val (.int v) = some ls') (K : Go p e below G T (mkF m pc' ls' (st))) : Go p e below G T (mkF m pc ls (.int v :: st)) := by
  obtain ⟨x, rfl⟩ := B; obtain ⟨d, rfl⟩ := d
  exact Go.by (fun _ k => XS.istoreN X.here x rfl d rfl h k) K
theorem zasN (X : Stand p l e R s m args below meth c T locs cells slots) (B : HB p c code) {k : Fin 4} {v : Value} (d : De code pc 1 pc' (.astore_n k)) (h : storeLocals ls k.val v = some ls') (hr : v.isRef = true) (K : Go p e below G T (mkF m pc' ls' (st))) : Go p e below G T (mkF m pc ls (v :: st)) := by
  obtain ⟨x, rfl⟩ := B; obtain ⟨d, rfl⟩ := d
  exact Go.by (fun _ k => XS.astoreN X.here x rfl d rfl hr h k) K
theorem zc0 (X : Stand p l e R s m args below meth c T locs cells slots) (B : HB p c code)  (d : De code pc 1 pc' (.iconst 0))  (K : Go p e below G T (mkF m pc' ls (.int 0 :: st))) : Go p e below G T (mkF m pc ls (st)) := by
  obtain ⟨x, rfl⟩ := B; obtain ⟨d, rfl⟩ := d
  exact Go.by (fun _ k => XS.iconst X.here x rfl d k) K
theorem zc1 (X : Stand p l e R s m args below meth c T locs cells slots) (B : HB p c code)  (d : De code pc 1 pc' (.iconst 1))  (K : Go p e below G T (mkF m pc' ls (.int 1 :: st))) : Go p e below G T (mkF m pc ls (st)) := by
  obtain ⟨x, rfl⟩ := B; obtain ⟨d, rfl⟩ := d
  exact Go.by (fun _ k => XS.iconst X.here x rfl d k) K
theorem zc2 (X : Stand p l e R s m args below meth c T locs cells slots) (B : HB p c code)  (d : De code pc 1 pc' (.iconst 2))  (K : Go p e below G T (mkF m pc' ls (.int 2 :: st))) : Go p e below G T (mkF m pc ls (st)) := by
  obtain ⟨x, rfl⟩ := B; obtain ⟨d, rfl⟩ := d
  exact Go.by (fun _ k => XS.iconst X.here x rfl d k) K
theorem zc3 (X : Stand p l e R s m args below meth c T locs cells slots) (B : HB p c code)  (d : De code pc 1 pc' (.iconst 3))  (K : Go p e below G T (mkF m pc' ls (.int 3 :: st))) : Go p e below G T (mkF m pc ls (st)) := by
  obtain ⟨x, rfl⟩ := B; obtain ⟨d, rfl⟩ := d
  exact Go.by (fun _ k => XS.iconst X.here x rfl d k) K
theorem zc4 (X : Stand p l e R s m args below meth c T locs cells slots) (B : HB p c code)  (d : De code pc 1 pc' (.iconst 4))  (K : Go p e below G T (mkF m pc' ls (.int 4 :: st))) : Go p e below G T (mkF m pc ls (st)) := by
  obtain ⟨x, rfl⟩ := B; obtain ⟨d, rfl⟩ := d
  exact Go.by (fun _ k => XS.iconst X.here x rfl d k) K
theorem zc5 (X : Stand p l e R s m args below meth c T locs cells slots) (B : HB p c code)  (d : De code pc 1 pc' (.iconst 5))  (K : Go p e below G T (mkF m pc' ls (.int 5 :: st))) : Go p e below G T (mkF m pc ls (st)) := by
  obtain ⟨x, rfl⟩ := B; obtain ⟨d, rfl⟩ := d
  exact Go.by (fun _ k => XS.iconst X.here x rfl d k) K
theorem zbp (X : Stand p l e R s m args below meth c T locs cells slots) (B : HB p c code) {i : Int} {v : Int32} (d : De code pc 2 pc' (.bipush i)) (hv : (Int8.ofInt i).toInt32 = v) (K : Go p e below G T (mkF m pc' ls (.int v :: st))) : Go p e below G T (mkF m pc ls (st)) := by
  obtain ⟨x, rfl⟩ := B; obtain ⟨d, rfl⟩ := d; subst hv
  exact Go.by (fun _ k => XS.bipush X.here x rfl d k) K
theorem zsp (X : Stand p l e R s m args below meth c T locs cells slots) (B : HB p c code) {i : Int} {v : Int32} (d : De code pc 3 pc' (.sipush i)) (hv : (Int16.ofInt i).toInt32 = v) (K : Go p e below G T (mkF m pc' ls (.int v :: st))) : Go p e below G T (mkF m pc ls (st)) := by
  obtain ⟨x, rfl⟩ := B; obtain ⟨d, rfl⟩ := d; subst hv
  exact Go.by (fun _ k => XS.sipush X.here x rfl d k) K
theorem znull (X : Stand p l e R s m args below meth c T locs cells slots) (B : HB p c code)  (d : De code pc 1 pc' .aconst_null)  (K : Go p e below G T (mkF m pc' ls (.null :: st))) : Go p e below G T (mkF m pc ls (st)) := by
  obtain ⟨x, rfl⟩ := B; obtain ⟨d, rfl⟩ := d
  exact Go.by (fun _ k => XS.aconstNull X.here x rfl d k) K
theorem ziadd (X : Stand p l e R s m args below meth c T locs cells slots) (B : HB p c code) {x y v : Int32} (d : De code pc 1 pc' .iadd) (hv : x + y = v) (K : Go p e below G T (mkF m pc' ls (.int v :: st))) : Go p e below G T (mkF m pc ls (.int y :: .int x :: st)) := by
  obtain ⟨x, rfl⟩ := B; obtain ⟨d, rfl⟩ := d; subst hv
  exact Go.by (fun _ k => XS.iadd X.here x rfl d rfl k) K
theorem zisub (X : Stand p l e R s m args below meth c T locs cells slots) (B : HB p c code) {x y v : Int32} (d : De code pc 1 pc' .isub) (hv : x - y = v) (K : Go p e below G T (mkF m pc' ls (.int v :: st))) : Go p e below G T (mkF m pc ls (.int y :: .int x :: st)) := by
  obtain ⟨x, rfl⟩ := B; obtain ⟨d, rfl⟩ := d; subst hv
  exact Go.by (fun _ k => XS.isub X.here x rfl d rfl k) K
theorem zimul (X : Stand p l e R s m args below meth c T locs cells slots) (B : HB p c code) {x y v : Int32} (d : De code pc 1 pc' .imul) (hv : x * y = v) (K : Go p e below G T (mkF m pc' ls (.int v :: st))) : Go p e below G T (mkF m pc ls (.int y :: .int x :: st)) := by
  obtain ⟨x, rfl⟩ := B; obtain ⟨d, rfl⟩ := d; subst hv
  exact Go.by (fun _ k => XS.imul X.here x rfl d rfl k) K
theorem ziand (X : Stand p l e R s m args below meth c T locs cells slots) (B : HB p c code) {x y v : Int32} (d : De code pc 1 pc' .iand) (hv : x &&& y = v) (K : Go p e below G T (mkF m pc' ls (.int v :: st))) : Go p e below G T (mkF m pc ls (.int y :: .int x :: st)) := by
  obtain ⟨x, rfl⟩ := B; obtain ⟨d, rfl⟩ := d; subst hv
  exact Go.by (fun _ k => XS.iand X.here x rfl d rfl k) K
theorem zishl (X : Stand p l e R s m args below meth c T locs cells slots) (B : HB p c code) {x y v : Int32} (d : De code pc 1 pc' .ishl) (hv : x <<< (y &&& 31) = v) (K : Go p e below G T (mkF m pc' ls (.int v :: st))) : Go p e below G T (mkF m pc ls (.int y :: .int x :: st)) := by
  obtain ⟨x, rfl⟩ := B; obtain ⟨d, rfl⟩ := d; subst hv
  exact Go.by (fun _ k => XS.ishl X.here x rfl d rfl k) K
theorem zishr (X : Stand p l e R s m args below meth c T locs cells slots) (B : HB p c code) {x y v : Int32} (d : De code pc 1 pc' .ishr) (hv : x >>> (y &&& 31) = v) (K : Go p e below G T (mkF m pc' ls (.int v :: st))) : Go p e below G T (mkF m pc ls (.int y :: .int x :: st)) := by
  obtain ⟨x, rfl⟩ := B; obtain ⟨d, rfl⟩ := d; subst hv
  exact Go.by (fun _ k => XS.ishr X.here x rfl d rfl k) K
theorem ziushr (X : Stand p l e R s m args below meth c T locs cells slots) (B : HB p c code) {x y v : Int32} (d : De code pc 1 pc' .iushr) (hv : (x.toUInt32 >>> (y &&& 31).toUInt32).toInt32 = v) (K : Go p e below G T (mkF m pc' ls (.int v :: st))) : Go p e below G T (mkF m pc ls (.int y :: .int x :: st)) := by
  obtain ⟨x, rfl⟩ := B; obtain ⟨d, rfl⟩ := d; subst hv
  exact Go.by (fun _ k => XS.iushr X.here x rfl d rfl k) K
theorem zineg (X : Stand p l e R s m args below meth c T locs cells slots) (B : HB p c code) {x : Int32} {v : Int32} (d : De code pc 1 pc' .ineg) (hv : -x = v) (K : Go p e below G T (mkF m pc' ls (.int v :: st))) : Go p e below G T (mkF m pc ls (.int x :: st)) := by
  obtain ⟨x, rfl⟩ := B; obtain ⟨d, rfl⟩ := d; subst hv
  exact Go.by (fun _ k => XS.ineg X.here x rfl d rfl k) K
theorem zi2b (X : Stand p l e R s m args below meth c T locs cells slots) (B : HB p c code) {x : Int32} {v : Int32} (d : De code pc 1 pc' .i2b) (hv : x.toInt8.toInt32 = v) (K : Go p e below G T (mkF m pc' ls (.int v :: st))) : Go p e below G T (mkF m pc ls (.int x :: st)) := by
  obtain ⟨x, rfl⟩ := B; obtain ⟨d, rfl⟩ := d; subst hv
  exact Go.by (fun _ k => XS.i2b X.here x rfl d rfl k) K
theorem zi2c (X : Stand p l e R s m args below meth c T locs cells slots) (B : HB p c code) {x : Int32} {v : Int32} (d : De code pc 1 pc' .i2c) (hv : x.toUInt32.toUInt16.toUInt32.toInt32 = v) (K : Go p e below G T (mkF m pc' ls (.int v :: st))) : Go p e below G T (mkF m pc ls (.int x :: st)) := by
  obtain ⟨x, rfl⟩ := B; obtain ⟨d, rfl⟩ := d; subst hv
  exact Go.by (fun _ k => XS.i2c X.here x rfl d rfl k) K
theorem zi2l (X : Stand p l e R s m args below meth c T locs cells slots) (B : HB p c code) {x : Int32} {v : Int64} (d : De code pc 1 pc' .i2l) (hv : x.toInt64 = v) (K : Go p e below G T (mkF m pc' ls (.long v :: st))) : Go p e below G T (mkF m pc ls (.int x :: st)) := by
  obtain ⟨x, rfl⟩ := B; obtain ⟨d, rfl⟩ := d; subst hv
  exact Go.by (fun _ k => XS.i2l X.here x rfl d rfl k) K
theorem zl2i (X : Stand p l e R s m args below meth c T locs cells slots) (B : HB p c code) {x : Int64} {v : Int32} (d : De code pc 1 pc' .l2i) (hv : x.toInt32 = v) (K : Go p e below G T (mkF m pc' ls (.int v :: st))) : Go p e below G T (mkF m pc ls (.long x :: st)) := by
  obtain ⟨x, rfl⟩ := B; obtain ⟨d, rfl⟩ := d; subst hv
  exact Go.by (fun _ k => XS.l2i X.here x rfl d rfl k) K
theorem zinc (X : Stand p l e R s m args below meth c T locs cells slots) (B : HB p c code) {k : Nat} {i : Int} {x v : Int32} (d : De code pc 3 pc' (.iinc k i)) (h : ls[k]? = some (.val (.int x))) (hv : x + Int32.ofInt i = v) (h' : storeLocals ls k (.int v) = some ls') (K : Go p e below G T (mkF m pc' ls' (st))) : Go p e below G T (mkF m pc ls (st)) := by
  obtain ⟨x, rfl⟩ := B; obtain ⟨d, rfl⟩ := d; subst hv
  exact Go.by (fun _ k => XS.iinc X.here x rfl d h h' k) K
theorem zdup (X : Stand p l e R s m args below meth c T locs cells slots) (B : HB p c code) {v : Value} (d : De code pc 1 pc' .dup) (h : v.category = 1) (K : Go p e below G T (mkF m pc' ls (v :: v :: st))) : Go p e below G T (mkF m pc ls (v :: st)) := by
  obtain ⟨x, rfl⟩ := B; obtain ⟨d, rfl⟩ := d
  exact Go.by (fun _ k => XS.dup X.here x rfl d rfl h k) K
theorem zpop (X : Stand p l e R s m args below meth c T locs cells slots) (B : HB p c code) {v : Value} (d : De code pc 1 pc' .pop) (h : v.category = 1) (K : Go p e below G T (mkF m pc' ls (st))) : Go p e below G T (mkF m pc ls (v :: st)) := by
  obtain ⟨x, rfl⟩ := B; obtain ⟨d, rfl⟩ := d
  exact Go.by (fun _ k => XS.pop X.here x rfl d rfl h k) K
theorem zgo (X : Stand p l e R s m args below meth c T locs cells slots) (B : HB p c code) {o : Int}  (d : Dj code pc pc' (.goto o) o)  (K : Go p e below G T (mkF m pc' ls (st))) : Go p e below G T (mkF m pc ls (st)) := by
  obtain ⟨x, rfl⟩ := B
  exact Go.by (fun _ k => XS.goto X.here x rfl (pc0 := pc) (pc' := pc') rfl d.1 d.2.1 d.2.2 k) K
theorem zY (X : Stand p l e R s m args below meth c T locs cells slots) (B : HB p c code) {o : Int} {cd : ClassFile.Cond} {x : Int32} (d : Dj code pc pc' (.ifCond cd o) o) (h : ifCond.holds cd x = true) (K : Go p e below G T (mkF m pc' ls (st))) : Go p e below G T (mkF m pc ls (.int x :: st)) := by
  obtain ⟨x, rfl⟩ := B
  exact Go.by (fun _ k => XS.ifYes X.here x rfl (pc0 := pc) (pc' := pc') rfl d.1 rfl h d.2.1 d.2.2 k) K
theorem zCY (X : Stand p l e R s m args below meth c T locs cells slots) (B : HB p c code) {o : Int} {cd : ClassFile.Cond} {x y : Int32} (d : Dj code pc pc' (.if_icmp cd o) o) (h : if_icmp.holds cd x y = true) (K : Go p e below G T (mkF m pc' ls (st))) : Go p e below G T (mkF m pc ls (.int y :: .int x :: st)) := by
  obtain ⟨x, rfl⟩ := B
  exact Go.by (fun _ k => XS.icmpYes X.here x rfl (pc0 := pc) (pc' := pc') rfl d.1 rfl h d.2.1 d.2.2 k) K
theorem zN (X : Stand p l e R s m args below meth c T locs cells slots) (B : HB p c code) {cd : ClassFile.Cond} {o : Int} {x : Int32} (d : De code pc 3 pc' (.ifCond cd o)) (h : ifCond.holds cd x = false) (K : Go p e below G T (mkF m pc' ls (st))) : Go p e below G T (mkF m pc ls (.int x :: st)) := by
  obtain ⟨x, rfl⟩ := B; obtain ⟨d, rfl⟩ := d
  exact Go.by (fun _ k => XS.ifNo X.here x rfl d rfl h k) K
theorem zCN (X : Stand p l e R s m args below meth c T locs cells slots) (B : HB p c code) {cd : ClassFile.Cond} {o : Int} {x y : Int32} (d : De code pc 3 pc' (.if_icmp cd o)) (h : if_icmp.holds cd x y = false) (K : Go p e below G T (mkF m pc' ls (st))) : Go p e below G T (mkF m pc ls (.int y :: .int x :: st)) := by
  obtain ⟨x, rfl⟩ := B; obtain ⟨d, rfl⟩ := d
  exact Go.by (fun _ k => XS.icmpNo X.here x rfl d rfl h k) K
theorem znnY (X : Stand p l e R s m args below meth c T locs cells slots) (B : HB p c code) {o : Int} {b : Addr} (d : Dj code pc pc' (.ifnonnull o) o)  (K : Go p e below G T (mkF m pc' ls (st))) : Go p e below G T (mkF m pc ls (.ref b :: st)) := by
  obtain ⟨x, rfl⟩ := B
  exact Go.by (fun _ k => XS.ifnonnullYes X.here x rfl (pc0 := pc) (pc' := pc') rfl d.1 rfl d.2.1 d.2.2 k) K
end Z
section Y
variable {p : Program} {l : Launch} {e : Env} {R : Room} {s Z : State} {m : MethodId} {args a0 : Array Value} {below : List Frame} {meth : Method} {c : Code} {T : State} {locs : List Loc} {cells slots : Nat} {G : Outcome → State → Prop} {code : ByteArray} {pc pc' : Nat} {ls : Array Slot} {st st' rest argsL : List Value} {h : Heap} {own C : String} {i : Nat} {y z : MethodName} {bytes : ByteArray} {maxL : Nat} {ret : Option FieldType} {rm : Room} {Q : Option Value → Heap → List Loc → Prop} {a : Addr} {v : Value}
/-- a contract -/
abbrev MF (l : Launch) (Z : State) (y : MethodName) (w : Jvm.Cond) (ws : List Jvm.Cond) (R : Room) (as' : Array Value) (h : Heap) (Q : Option Value → Heap → List Loc → Prop) : Prop :=
  MetFree l y (head1 (w :: ws) R) (fun a U => a = as' ∧ Z.Warmed39 U.vm ∧ U.heap = h) (fun _ _ _ _ _ => True) (fun _ U o U' => Out U Q R.cells R.slots o U')
theorem MF.of {ws : List Jvm.Cond} (C : String) (hC : y.cls = C) (ls : Array Slot) (hp : plainFor y = true) (hf : ∀ m, entryFrame m args maxL = mkF m 0 ls [])
    (K : ∀ p e s m below meth c T, Z.Warmed39 s.vm → s.heap = h → HB p c bytes → c.maxLocals = maxL → meth.sig.returnType = ret → meth.locks = false → s.vm.findClass C = some m.cls → meth.name = y.name → Stand p l e R s m args below meth c T [] 0 0 → T.heap = h → Go p e below (Out s Q R.cells R.slots) T (mkF m 0 ls [])) : MF l Z y (Jvm.Cond.code y bytes maxL ret) ws R args h Q := by
  subst hC
  refine MetFree.of_bodySF hp hisR ?_
  intro p e s m args below meth c T Bd hml hP hK
  obtain ⟨rfl, hZ, hh⟩ := hP
  have k := K p e s m below meth c T hZ hh ⟨Bd.exec, Bd.bytes⟩ hml Bd.returns (BodyLoose.notSynchronized Bd) (findClass_of_methodNamed Bd.named) (name_of_methodNamed Bd.named Bd.method).1 (Stand.of_body Bd) (by rw [← hh, Bd.state]; rfl)
  rw [← hf m] at k
  exact k
theorem zgf (X : Stand p l e R s m args below meth c T locs cells slots) (B : HB p c code) (hZ : Z.Warmed39 s.vm) {R0 O n t : String} (hown : s.vm.findClass own = some m.cls) (w : (Jvm.Cond.fieldLink own i R0 n t).before a0 Z = true) (via : Via Z R0 O n t) (eT : T.heap = h) (F : Fld Z h a O n t v) (d : De code pc 3 pc' (.getfield i)) (K : ∀ T', Stand p l e R s m args below meth c T' locs cells slots → T'.heap = h → Go p e below G T' (mkF m pc' ls (v :: st))) : Go p e below G T (mkF m pc ls (.ref a :: st)) := by
  obtain ⟨x, rfl⟩ := B; obtain ⟨d, rfl⟩ := d
  obtain ⟨_, X, q, k⟩ := getF X x hZ (host := "") hown (Or.inl w) via eT F (g := mkF m pc ls (.ref a :: st)) rfl rfl d
  exact Go.by k (K _ X q)
theorem zgs (X : Stand p l e R s m args below meth c T locs cells slots) (B : HB p c code) (hZ : Z.Warmed39 s.vm) {O n t : String} (hown : s.vm.findClass own = some m.cls) (w : (Jvm.Cond.fieldLink own i O n t).before a0 Z = true) (eT : T.heap = h) (F : Sta Z h O n t v) (d : De code pc 3 pc' (.getstatic i)) (K : ∀ T', Stand p l e R s m args below meth c T' locs cells slots → T'.heap = h → Go p e below G T' (mkF m pc' ls (v :: st))) : Go p e below G T (mkF m pc ls (st)) := by
  obtain ⟨x, rfl⟩ := B; obtain ⟨d, rfl⟩ := d
  obtain ⟨_, X, q, k⟩ := getS2 X x hZ (host := "") hown (Or.inl w) Via.refl eT F (g := mkF m pc ls st) rfl d
  exact Go.by k (K _ X q)
theorem Go.b1 {A1 A2 A3 : State → Heap → Prop} (H : ∃ T' h', A1 T' h' ∧ A2 T' h' ∧ A3 T' h' ∧ ∀ t, Steps p.tables e below (T'.setTop { mkF m pc ls st with pc := pc + 1, stack := st' }) t → Steps p.tables e below (T.setTop (mkF m pc ls st)) t) (K : ∀ T' h', A1 T' h' → A2 T' h' → A3 T' h' → Go p e below G T' (mkF m (pc + 1) ls st')) : Go p e below G T (mkF m pc ls st) := by
  obtain ⟨_, _, H⟩ := H
  exact Go.by H.2.2.2 (K _ _ H.1 H.2.1 H.2.2.1)
theorem Go.f2 (H : ∀ t, Steps p.tables e below (T.setTop { mkF m pc ls st with pc := pc + 2, stack := st' }) t → Steps p.tables e below (T.setTop (mkF m pc ls st)) t) (K : Go p e below G T (mkF m (pc + 2) ls st')) : Go p e below G T (mkF m pc ls st) := Go.by H K
theorem Go.f3 (H : ∀ t, Steps p.tables e below (T.setTop { mkF m pc ls st with pc := pc + 3, stack := st' }) t → Steps p.tables e below (T.setTop (mkF m pc ls st)) t) (K : Go p e below G T (mkF m (pc + 3) ls st')) : Go p e below G T (mkF m pc ls st) := Go.by H K
theorem Go.a3 {A1 A2 : State → Prop} (H : ∃ T', A1 T' ∧ A2 T' ∧ ∀ t, Steps p.tables e below (T'.setTop { mkF m pc ls st with pc := pc + 3, stack := st' }) t → Steps p.tables e below (T.setTop (mkF m pc ls st)) t) (K : ∀ T', A1 T' → A2 T' → Go p e below G T' (mkF m (pc + 3) ls st')) : Go p e below G T (mkF m pc ls st) := by
  obtain ⟨_, H⟩ := H
  exact Go.by H.2.2 (K _ H.1 H.2.1)
theorem Go.b3 {A1 A2 A3 : State → Heap → Prop} (H : ∃ T' h', A1 T' h' ∧ A2 T' h' ∧ A3 T' h' ∧ ∀ t, Steps p.tables e below (T'.setTop { mkF m pc ls st with pc := pc + 3, stack := st' }) t → Steps p.tables e below (T.setTop (mkF m pc ls st)) t) (K : ∀ T' h', A1 T' h' → A2 T' h' → A3 T' h' → Go p e below G T' (mkF m (pc + 3) ls st')) : Go p e below G T (mkF m pc ls st) := by
  obtain ⟨_, _, H⟩ := H
  exact Go.by H.2.2.2 (K _ _ H.1 H.2.1 H.2.2.1)
theorem zlb (X : Stand p l e R s m args below meth c T locs cells slots) (B : HB p c code) (hZ : Z.Warmed39 s.vm) (eT : T.heap = h) {k : ClassId} {z j : Int32} {vs : List Value} {dv : Value} (V : Arv Z h a k .byte z vs dv) (q : ¬ j < 0 ∧ j < z) (u : vs.getD j.toNatClampNeg dv = v) (d : De code pc 1 pc' .baload) (K : Go p e below G T (mkF m pc' ls (v :: st))) : Go p e below G T (mkF m pc ls (.int j :: .ref a :: st)) := by
  obtain ⟨x, rfl⟩ := B; obtain ⟨d, rfl⟩ := d; subst eT
  obtain ⟨_, A, _, S, _, H, _⟩ := V
  exact Go.by (X.baloadBytes x (j := j) (v := v) A.1 (State.isArrayOf_alike hZ.alike A.2.1) A.2.2 (inb_of S q) (H.at (inb_of S q) u) (g := mkF m pc ls (.int j :: .ref a :: st)) rfl rfl d) K
theorem zln (X : Stand p l e R s m args below meth c T locs cells slots) (B : HB p c code) (hZ : Z.Warmed39 s.vm) (eT : T.heap = h) {k : ClassId} {ty : FieldType} {z : Int32} {vs : List Value} {dv : Value} (V : Arv Z h a k ty z vs dv) (d : De code pc 1 pc' .arraylength) (K : Go p e below G T (mkF m pc' ls (.int z :: st))) : Go p e below G T (mkF m pc ls (.ref a :: st)) := by
  obtain ⟨x, rfl⟩ := B; obtain ⟨d, rfl⟩ := d; subst eT
  obtain ⟨_, A, _, S, M, _, _⟩ := V
  refine Go.by (X.arraylength x A.1 (State.isArrayOf_alike hZ.alike A.2.1) (g := mkF m pc ls (.ref a :: st)) rfl rfl d) ?_
  rw [len_of S M]; exact K
theorem zno (X : Stand p l e R s m args below meth c T locs cells slots) (B : HB p c code) (hZ : Z.Warmed39 s.vm) {n : Nat} (hown : s.vm.findClass own = some m.cls) (w : (Jvm.Cond.classLink own i C).before a0 Z = true) (wi : (Jvm.Cond.instantiable C n).before a0 Z = true) (wz : (Jvm.Cond.initialized C).before a0 Z = true) (eT : T.heap = h) (d : De code pc 3 pc' (.new i)) (hc : Nat.ble (cells + 1) R.cells = true) (hl : Nat.ble (slots + n) R.slots = true) (K : ∀ T' h' a, a = h.size → Stand p l e R s m args below meth c T' locs (cells + 1) (slots + n) → T'.heap = h' → Ext h h' → Exa Z h' a C → (∀ {O nm d : String} {ty : FieldType}, Laid Z a0 C O nm d → parseFieldDescriptor d = some ty → Fld Z h' a O nm d (defaultValue ty)) → Unt h' a → Go p e below G T' (mkF m pc' ls (.ref a :: st))) : Go p e below G T (mkF m pc ls (st)) := by
  obtain ⟨x, rfl⟩ := B; obtain ⟨d, rfl⟩ := d
  obtain ⟨_, _, X, q, E, A, D, U, k⟩ := newO X x hZ hown w wi wz eT (g := mkF m pc ls st) rfl d (Nat.le_of_ble_eq_true hc) (Nat.le_of_ble_eq_true hl)
  exact Go.by k (K _ _ _ rfl X q E A D U)
theorem znp (X : Stand p l e R s m args below meth c T locs cells slots) (B : HB p c code) (hZ : Z.Warmed39 s.vm) {aty : ArrayType} (w : (Jvm.Cond.arrayClass (newarray.typeOf aty)).before a0 Z = true) (eT : T.heap = h) (d : De code pc 2 pc' (.newarray aty)) {n : Int32} (hn : ¬ n < 0) {cap : Nat} (hcap : n.toNatClampNeg ≤ cap) (hb : Nat.ble (cap * 8) 536870912 = true) (hc : Nat.ble (cells + 1) R.cells = true) (hl : Nat.ble (slots + cap) R.slots = true) (K : ∀ T' h' cA a, a = h.size → Stand p l e R s m args below meth c T' locs (cells + 1) (slots + cap) → T'.heap = h' → Ext h h' → Arr Z h' a (newA cA (newarray.typeOf aty) n) (newarray.typeOf aty) → Go p e below G T' (mkF m pc' ls (.ref a :: st))) : Go p e below G T (mkF m pc ls (.int n :: st)) := by
  obtain ⟨x, rfl⟩ := B; obtain ⟨d, rfl⟩ := d
  obtain ⟨_, _, _, X, q, E, A, k⟩ := newP X x hZ w eT (g := mkF m pc ls (.int n :: st)) rfl d rfl hn hcap (Nat.le_of_ble_eq_true hb) (Nat.le_of_ble_eq_true hc) (Nat.le_of_ble_eq_true hl)
  exact Go.by k (K _ _ _ _ rfl X q E A )
theorem znq (X : Stand p l e R s m args below meth c T locs cells slots) (B : HB p c code) (hZ : Z.Warmed39 s.vm) {aty : ArrayType} (w : (Jvm.Cond.arrayClass (newarray.typeOf aty)).before a0 Z = true) (eT : T.heap = h) (d : De code pc 2 pc' (.newarray aty)) {n : Int32} (hn : ¬ n < 0) {cap : Nat} (hcap : n.toNatClampNeg ≤ cap) (hb : Nat.ble (cap * 8) 536870912 = true) (hc : Nat.ble (cells + 1) R.cells = true) (hl : Nat.ble (slots + cap) R.slots = true) {ad : String} (had : "[" ++ (newarray.typeOf aty).toString = ad) (K : ∀ T' h' cA a, a = h.size → Stand p l e R s m args below meth c T' locs (cells + 1) (slots + cap) → T'.heap = h' → Ext h h' → Arr Z h' a (newA cA (newarray.typeOf aty) n) (newarray.typeOf aty) → Exa Z h' a ad → Go p e below G T' (mkF m pc' ls (.ref a :: st))) : Go p e below G T (mkF m pc ls (.int n :: st)) := by
  obtain ⟨x, rfl⟩ := B; obtain ⟨d, rfl⟩ := d
  obtain ⟨_, _, _, X, q, E, A, Ex, k⟩ := newPE X x hZ w eT (g := mkF m pc ls (.int n :: st)) rfl d rfl hn hcap (Nat.le_of_ble_eq_true hb) (Nat.le_of_ble_eq_true hc) (Nat.le_of_ble_eq_true hl) had
  exact Go.by k (K _ _ _ _ rfl X q E A Ex)
theorem zcs (X : Stand p l e R s m args below meth c T locs cells slots) (B : HB p c code) (hZ : Z.Warmed39 s.vm) (hown : s.vm.findClass own = some m.cls) (w1 : (Jvm.Cond.methodLink own i y).before a0 Z = true) (w2 : (Jvm.Cond.static y).before a0 Z = true) (w3 : (Jvm.Cond.initialized y.cls).before a0 Z = true) (w4 : (Jvm.Cond.code y bytes maxL ret).before a0 Z = true) (hy : y.cls ≠ "java/lang/invoke/MethodHandle" ∧ y.cls ≠ "java/lang/invoke/VarHandle") (M : MF l Z y (Jvm.Cond.code y bytes maxL ret) [] rm argsL.toArray h Q) (eT : T.heap = h) (hz : c.maxLocals = ls.size) {ps : List FieldType} {r : Option FieldType} (hd : parseMethodDescriptor y.desc = some ⟨ps, r⟩) (hn : argsL.length = ps.length) (d : De code pc 3 pc' (.invokestatic i)) (hs : st = argsL.reverseAux rest) (hf : Nat.ble (rm.frames + 1) R.frames = true) (hL : Nat.ble ((rest.map fun v => v.category).sum + (maxL + 11) + rm.locals) R.locals = true) (hc : Nat.ble (cells + rm.cells) R.cells = true) (hS : Nat.ble (slots + rm.slots) R.slots = true) (K : ∀ v T' L, Stand p l e R s m args below meth c T' (locs ++ L) (cells + rm.cells) (slots + rm.slots) → Q v T'.heap L → Go p e below G T' (mkF m pc' ls (v.toList ++ rest))) : Go p e below G T (mkF m pc ls (st)) := by
  obtain ⟨x, rfl⟩ := B; obtain ⟨d, rfl⟩ := d
  rw [List.reverseAux_eq] at hs
  obtain ⟨_, _, ⟨_, _, _, _⟩, -, X, ⟨_, hQ, l, y, z⟩, k⟩ := Jvm.LawKit.callS X x hown (mvT hZ w1) (mvT hZ w2) (mvT hZ w3) (mvT hZ w4) hy (backOf (W := (rest.map fun v => v.category).sum) M hZ w4 w3 (Nat.le_of_ble_eq_true hf) (Nat.le_of_ble_eq_true hL)) (g := mkF m pc ls st) rfl hz.symm (lenOf hd hn) hs (by show 2 * 0 + _ ≤ _; exact Nat.le_of_eq (Nat.zero_add _)) d (fun _ _ => ⟨rfl, eT, Nat.le_of_ble_eq_true hc, Nat.le_of_ble_eq_true hS⟩)
  dsimp only [Pt.U, Pt.locs, Pt.cells, Pt.slots] at X l y z hQ k
  subst l y z
  exact Go.by k (K _ _ _ X hQ)
theorem zci (X : Stand p l e R s m args below meth c T locs cells slots) (B : HB p c code) (hZ : Z.Warmed39 s.vm) (hy1 : y.name = "<init>") (hown : s.vm.findClass own = some m.cls) (w1 : (Jvm.Cond.methodLink own i y).before a0 Z = true) (w2 : (Jvm.Cond.instanceMethod y).before a0 Z = true) (w3 : (Jvm.Cond.initialized y.cls).before a0 Z = true) (w4 : (Jvm.Cond.code y bytes maxL none).before a0 Z = true) (hy : y.cls ≠ "java/lang/invoke/MethodHandle" ∧ y.cls ≠ "java/lang/invoke/VarHandle") (M : MF l Z y (Jvm.Cond.code y bytes maxL none) [] rm (.ref a :: argsL).toArray h Q) (eT : T.heap = h) (hz : c.maxLocals = ls.size) {ps : List FieldType} {r : Option FieldType} (hd : parseMethodDescriptor y.desc = some ⟨ps, r⟩) (hn : argsL.length = ps.length) (d : De code pc 3 pc' (.invokespecial i)) (hs : st = argsL.reverseAux (.ref a :: rest)) (hf : Nat.ble (rm.frames + 1) R.frames = true) (hL : Nat.ble ((rest.map fun v => v.category).sum + (maxL + 11) + rm.locals) R.locals = true) (hc : Nat.ble (cells + rm.cells) R.cells = true) (hS : Nat.ble (slots + rm.slots) R.slots = true) (K : ∀ v T' L, Stand p l e R s m args below meth c T' (locs ++ L) (cells + rm.cells) (slots + rm.slots) → Q v T'.heap L → Go p e below G T' (mkF m pc' ls (v.toList ++ rest))) : Go p e below G T (mkF m pc ls (st)) := by
  obtain ⟨x, rfl⟩ := B; obtain ⟨d, rfl⟩ := d
  rw [List.reverseAux_eq] at hs
  obtain ⟨_, _, ⟨_, _, _, _⟩, -, X, ⟨_, hQ, l, y, z⟩, k⟩ := X.specialBack x hy1 hown (mvT hZ w1) (mvT hZ w2) (mvT hZ w4) hy (backOf (W := (rest.map fun v => v.category).sum) M hZ w4 w3 (Nat.le_of_ble_eq_true hf) (Nat.le_of_ble_eq_true hL)) (g := mkF m pc ls st) rfl hz.symm (Steps.refl _) (a := a) (lenOf hd hn) hs (by show 2 * 0 + _ ≤ _; exact Nat.le_of_eq (Nat.zero_add _)) d (fun _ _ => ⟨rfl, eT, Nat.le_of_ble_eq_true hc, Nat.le_of_ble_eq_true hS⟩)
  dsimp only [Pt.U, Pt.locs, Pt.cells, Pt.slots] at X l y z hQ k
  subst l y z
  exact Go.tr k (K _ _ _ X hQ)
theorem zcv (X : Stand p l e R s m args below meth c T locs cells slots) (B : HB p c code) (hZ : Z.Warmed39 s.vm) (hown : s.vm.findClass own = some m.cls) (w1 : (Jvm.Cond.methodLink own i y).before a0 Z = true) (w2 : (Jvm.Cond.declares y).before a0 Z = true) (nf : NotFace s y) (w5 : (Jvm.Cond.selects C y z).before a0 Z = true) (w6 : (Jvm.Cond.instanceMethod z).before a0 Z = true) (w3 : (Jvm.Cond.initialized z.cls).before a0 Z = true) (w4 : (Jvm.Cond.code z bytes maxL ret).before a0 Z = true) (hy : y.cls ≠ "java/lang/invoke/MethodHandle" ∧ y.cls ≠ "java/lang/invoke/VarHandle") (E : Exa Z h a C) (M : MF l Z z (Jvm.Cond.code z bytes maxL ret) [] rm (.ref a :: argsL).toArray h Q) (eT : T.heap = h) (hz : c.maxLocals = ls.size) {ps : List FieldType} {r : Option FieldType} (hd : parseMethodDescriptor y.desc = some ⟨ps, r⟩) (hn : argsL.length = ps.length) (d : De code pc 3 pc' (.invokevirtual i)) (hs : st = argsL.reverseAux (.ref a :: rest)) (hf : Nat.ble (rm.frames + 1) R.frames = true) (hL : Nat.ble ((rest.map fun v => v.category).sum + (maxL + 11) + rm.locals) R.locals = true) (hc : Nat.ble (cells + rm.cells) R.cells = true) (hS : Nat.ble (slots + rm.slots) R.slots = true) (K : ∀ v T' L, Stand p l e R s m args below meth c T' (locs ++ L) (cells + rm.cells) (slots + rm.slots) → Q v T'.heap L → Go p e below G T' (mkF m pc' ls (v.toList ++ rest))) : Go p e below G T (mkF m pc ls (st)) := by
  obtain ⟨x, rfl⟩ := B; obtain ⟨d, rfl⟩ := d
  rw [List.reverseAux_eq] at hs
  obtain ⟨_, _, q1, _, q2⟩ := isOf hZ eT E
  obtain ⟨_, _, ⟨_, _, _, _⟩, -, X, ⟨_, hQ, l, y, z⟩, k⟩ := X.virtualBack x hown (mvT hZ w1) (mvT hZ w2) nf (mvT hZ w5) (mvT hZ w6) hy (backOf (W := (rest.map fun v => v.category).sum) M hZ w4 w3 (Nat.le_of_ble_eq_true hf) (Nat.le_of_ble_eq_true hL)) q1 q2 (g := mkF m pc ls st) rfl hz.symm (Steps.refl _) (lenOf hd hn) hs (by show 2 * 0 + _ ≤ _; exact Nat.le_of_eq (Nat.zero_add _)) d (fun _ _ => ⟨rfl, eT, Nat.le_of_ble_eq_true hc, Nat.le_of_ble_eq_true hS⟩)
  dsimp only [Pt.U, Pt.locs, Pt.cells, Pt.slots] at X l y z hQ k
  subst l y z
  exact Go.tr k (K _ _ _ X hQ)
theorem zcp (X : Stand p l e R s m args below meth c T locs cells slots) (B : HB p c code) (hZ : Z.Warmed39 s.vm) (hown : s.vm.findClass own = some m.cls) (w1 : (Jvm.Cond.methodLink own i y).before a0 Z = true) (w2 : (Jvm.Cond.instanceMethod y).before a0 Z = true) (w5 : (Jvm.Cond.selects y.cls y y).before a0 Z = true) (w6 : (Jvm.Cond.privateMethod y).before a0 Z = true) (w3 : (Jvm.Cond.initialized y.cls).before a0 Z = true) (w4 : (Jvm.Cond.code y bytes maxL ret).before a0 Z = true) (hy : y.cls ≠ "java/lang/invoke/MethodHandle" ∧ y.cls ≠ "java/lang/invoke/VarHandle") (E : Exa Z h a C) (M : MF l Z y (Jvm.Cond.code y bytes maxL ret) [] rm (.ref a :: argsL).toArray h Q) (eT : T.heap = h) (hz : c.maxLocals = ls.size) {ps : List FieldType} {r : Option FieldType} (hd : parseMethodDescriptor y.desc = some ⟨ps, r⟩) (hn : argsL.length = ps.length) (d : De code pc 3 pc' (.invokevirtual i)) (hs : st = argsL.reverseAux (.ref a :: rest)) (hf : Nat.ble (rm.frames + 1) R.frames = true) (hL : Nat.ble ((rest.map fun v => v.category).sum + (maxL + 11) + rm.locals) R.locals = true) (hc : Nat.ble (cells + rm.cells) R.cells = true) (hS : Nat.ble (slots + rm.slots) R.slots = true) (K : ∀ v T' L, Stand p l e R s m args below meth c T' (locs ++ L) (cells + rm.cells) (slots + rm.slots) → Q v T'.heap L → Go p e below G T' (mkF m pc' ls (v.toList ++ rest))) : Go p e below G T (mkF m pc ls (st)) := by
  obtain ⟨x, rfl⟩ := B; obtain ⟨d, rfl⟩ := d
  rw [List.reverseAux_eq] at hs
  obtain ⟨_, _, _, _, _, q1, _, q2⟩ := isOf hZ eT E
  obtain ⟨_, _, ⟨_, _, _, _⟩, -, X, ⟨_, hQ, l, y, z⟩, k⟩ := X.privateBack x hown (mvT hZ w1) (mvT hZ w2) (mvT hZ w5) (Cond.privateMethod_at (args := #[]) (mvP hZ w6)) (mvT hZ w4) hy (backOf (W := (rest.map fun v => v.category).sum) M hZ w4 w3 (Nat.le_of_ble_eq_true hf) (Nat.le_of_ble_eq_true hL)) (g := mkF m pc ls st) rfl hz.symm (Steps.refl _) q1 (fun q hq => by rw [hq] at q2; cases q2) (lenOf hd hn) hs (by show 2 * 0 + _ ≤ _; exact Nat.le_of_eq (Nat.zero_add _)) d (fun _ _ => ⟨rfl, eT, Nat.le_of_ble_eq_true hc, Nat.le_of_ble_eq_true hS⟩)
  dsimp only [Pt.U, Pt.locs, Pt.cells, Pt.slots] at X l y z hQ k
  subst l y z
  exact Go.tr k (K _ _ _ X hQ)
theorem zr0 (X : Stand p l e R s m args below meth c T locs cells slots) (B : HB p c code) (hret : meth.sig.returnType = none) (hlk : meth.locks = false) (d : De code pc 1 pc' .return_) (eT : T.heap = h) (q : Q none h locs) (hc : Nat.ble cells R.cells = true) (hs : Nat.ble slots R.slots = true) : Go p e below (Out s Q R.cells R.slots) T (mkF m pc ls ([])) := by
  subst eT; exact Go.ret0 X B.1 hret hlk (hb B.2 d.1) q (Nat.le_of_ble_eq_true hc) (Nat.le_of_ble_eq_true hs)
theorem zrI (X : Stand p l e R s m args below meth c T locs cells slots) (B : HB p c code) (hret : meth.sig.returnType = some .int) (hlk : meth.locks = false) {x : Int32} (d : De code pc 1 pc' .ireturn) (eT : T.heap = h) (q : Q (some (.int x)) h locs) (hc : Nat.ble cells R.cells = true) (hs : Nat.ble slots R.slots = true) : Go p e below (Out s Q R.cells R.slots) T (mkF m pc ls (.int x :: st)) := by
  subst eT; exact Go.retI X B.1 hret hlk (hb B.2 d.1) q (Nat.le_of_ble_eq_true hc) (Nat.le_of_ble_eq_true hs)
theorem zrN (X : Stand p l e R s m args below meth c T locs cells slots) (B : HB p c code) {t : FieldType} (hret : meth.sig.returnType = some t) (ht : t = .boolean ∨ t = .byte ∨ t = .char ∨ t = .short) (hlk : meth.locks = false) {x : Int32} (d : De code pc 1 pc' .ireturn) (eT : T.heap = h) (q : Q (some (.int (nar t x))) h locs) (hc : Nat.ble cells R.cells = true) (hs : Nat.ble slots R.slots = true) : Go p e below (Out s Q R.cells R.slots) T (mkF m pc ls (.int x :: st)) := by
  subst eT; exact Go.retN X B.1 hret ht hlk (hb B.2 d.1) q (Nat.le_of_ble_eq_true hc) (Nat.le_of_ble_eq_true hs)
theorem zrL (X : Stand p l e R s m args below meth c T locs cells slots) (B : HB p c code) (hret : meth.sig.returnType = some .long) (hlk : meth.locks = false) {x : Int64} (d : De code pc 1 pc' .lreturn) (eT : T.heap = h) (q : Q (some (.long x)) h locs) (hc : Nat.ble cells R.cells = true) (hs : Nat.ble slots R.slots = true) : Go p e below (Out s Q R.cells R.slots) T (mkF m pc ls (.long x :: st)) := by
  subst eT; exact Go.retL X B.1 hret hlk (hb B.2 d.1) q (Nat.le_of_ble_eq_true hc) (Nat.le_of_ble_eq_true hs)
theorem zrR (X : Stand p l e R s m args below meth c T locs cells slots) (B : HB p c code) {t : FieldType} (hret : meth.sig.returnType = some t) (hn : narrow t v = v) (ht : t.isReference = true) (hw : v.isRef = true) (hlk : meth.locks = false) (d : De code pc 1 pc' .areturn) (eT : T.heap = h) (q : Q (some v) h locs) (hc : Nat.ble cells R.cells = true) (hs : Nat.ble slots R.slots = true) : Go p e below (Out s Q R.cells R.slots) T (mkF m pc ls (v :: st)) := by
  subst eT; exact Go.retR X B.1 hret hn ht hw hlk (hb B.2 d.1) q (Nat.le_of_ble_eq_true hc) (Nat.le_of_ble_eq_true hs)
end Y
abbrev un : Slot := .unset
abbrev Ro0 : Room := ⟨0, 0, 0, 0⟩
abbrev Ro1 : Room := ⟨1, 0, 0, 13⟩
abbrev Ro2 : Room := ⟨1, 0, 0, 14⟩
abbrev Ro3 : Room := ⟨2, 0, 0, 27⟩
abbrev Ro4 : Room := ⟨3, 0, 0, 40⟩
abbrev Ro5 : Room := ⟨1, 0, 0, 12⟩
abbrev Ro6 : Room := ⟨0, 1, 1, 0⟩
abbrev Ro7 : Room := ⟨2, 2, 5, 27⟩
abbrev Ro8 : Room := ⟨1, 1, 13, 12⟩
abbrev Ro9 : Room := ⟨2, 1, 13, 25⟩
abbrev Ro10 : Room := ⟨1, 0, 0, 18⟩
abbrev Ro11 : Room := ⟨2, 0, 0, 33⟩
abbrev Ro12 : Room := ⟨3, 0, 0, 47⟩
abbrev Ro13 : Room := ⟨4, 0, 0, 61⟩
abbrev Ro14 : Room := ⟨1, 1, 13, 14⟩
abbrev Ro15 : Room := ⟨2, 1, 13, 29⟩
abbrev Ro16 : Room := ⟨3, 1, 13, 45⟩
abbrev Ro17 : Room := ⟨4, 2, 17, 59⟩
abbrev Ro18 : Room := ⟨2, 2, 14, 27⟩
abbrev Ro19 : Room := ⟨3, 2, 14, 42⟩
abbrev Ro20 : Room := ⟨5, 6, 48, 74⟩
abbrev Ro21 : Room := ⟨4, 0, 0, 53⟩
abbrev Ro22 : Room := ⟨1, 4, 8, 12⟩
abbrev Ro23 : Room := ⟨2, 4, 8, 29⟩
abbrev mn0 : MethodName := ⟨"java/lang/String", "coder", "()B"⟩
abbrev mn1 : MethodName := ⟨"java/lang/String", "length", "()I"⟩
abbrev mn2 : MethodName := ⟨"jdk/internal/util/Preconditions", "checkIndex", "(IILjava/util/function/BiFunction;)I"⟩
abbrev mn3 : MethodName := ⟨"java/lang/String", "checkIndex", "(II)V"⟩
abbrev mn4 : MethodName := ⟨"java/lang/StringLatin1", "charAt", "([BI)C"⟩
abbrev mn5 : MethodName := ⟨"java/lang/String", "isLatin1", "()Z"⟩
abbrev mn6 : MethodName := ⟨"java/lang/String", "charAt", "(I)C"⟩
abbrev mn7 : MethodName := ⟨"java/lang/String", "<init>", "([BB)V"⟩
abbrev mn8 : MethodName := ⟨"java/lang/StringLatin1", "canEncode", "(C)Z"⟩
abbrev mn9 : MethodName := ⟨"java/lang/StringLatin1", "toBytes", "(C)[B"⟩
abbrev mn10 : MethodName := ⟨"java/lang/String", "valueOf", "(C)Ljava/lang/String;"⟩
abbrev mn11 : MethodName := ⟨"java/lang/AbstractStringBuilder", "<init>", "(I)V"⟩
abbrev mn12 : MethodName := ⟨"java/lang/StringBuilder", "<init>", "(I)V"⟩
abbrev mn13 : MethodName := ⟨"java/lang/AbstractStringBuilder", "ensureCapacityInternal", "(I)V"⟩
abbrev mn14 : MethodName := ⟨"java/lang/AbstractStringBuilder", "inflateIfNeededFor", "(Ljava/lang/String;)V"⟩
abbrev mn15 : MethodName := ⟨"java/lang/String", "getBytes", "([BIB)V"⟩
abbrev mn16 : MethodName := ⟨"java/lang/AbstractStringBuilder", "putStringAt", "(ILjava/lang/String;)V"⟩
abbrev mn17 : MethodName := ⟨"java/lang/AbstractStringBuilder", "append", "(Ljava/lang/String;)Ljava/lang/AbstractStringBuilder;"⟩
abbrev mn18 : MethodName := ⟨"java/lang/StringBuilder", "append", "(Ljava/lang/String;)Ljava/lang/StringBuilder;"⟩
abbrev mn19 : MethodName := ⟨"java/lang/AbstractStringBuilder", "isLatin1", "()Z"⟩
abbrev mn20 : MethodName := ⟨"java/lang/AbstractStringBuilder", "append", "(C)Ljava/lang/AbstractStringBuilder;"⟩
abbrev mn21 : MethodName := ⟨"java/lang/StringBuilder", "append", "(C)Ljava/lang/StringBuilder;"⟩
abbrev mn22 : MethodName := ⟨"java/lang/AbstractStringBuilder", "getValue", "()[B"⟩
abbrev mn23 : MethodName := ⟨"java/lang/AbstractStringBuilder", "length", "()I"⟩
abbrev mn24 : MethodName := ⟨"java/lang/StringBuilder", "length", "()I"⟩
abbrev mn25 : MethodName := ⟨"java/util/Arrays", "copyOfRange", "([BII)[B"⟩
abbrev mn26 : MethodName := ⟨"java/lang/String", "<init>", "(Ljava/lang/AbstractStringBuilder;Ljava/lang/Void;)V"⟩
abbrev mn27 : MethodName := ⟨"java/lang/String", "<init>", "(Ljava/lang/StringBuilder;)V"⟩
abbrev mn28 : MethodName := ⟨"java/lang/StringBuilder", "toString", "()Ljava/lang/String;"⟩
abbrev mn29 : MethodName := ⟨"com/example/shardpick/shardpick/NumberedNamesNamePinLaw", "width", "(I)I"⟩
abbrev mn30 : MethodName := ⟨"java/lang/Integer", "stringSize", "(I)I"⟩
abbrev mn31 : MethodName := ⟨"com/example/shardpick/shardpick/NumberedNamesNamePinLaw", "pow10", "(I)J"⟩
abbrev mn32 : MethodName := ⟨"java/lang/Integer", "getChars", "(II[B)I"⟩
abbrev mn33 : MethodName := ⟨"java/lang/Integer", "toString", "(I)Ljava/lang/String;"⟩
abbrev mn34 : MethodName := ⟨"com/example/shardpick/shardpick/NumberedNames", "<init>", "(Ljava/lang/String;I)V"⟩
abbrev mn35 : MethodName := ⟨"com/example/shardpick/shardpick/NumberedNames", "name", "(I)Ljava/lang/String;"⟩
abbrev mn36 : MethodName := ⟨"com/example/shardpick/shardpick/NumberedNamesNamePinLaw", "at", "(Ljava/lang/String;ILjava/lang/String;III)Z"⟩
abbrev mn37 : MethodName := ⟨"java/lang/String", "<init>", "([CIILjava/lang/Void;)V"⟩
abbrev mn38 : MethodName := ⟨"java/lang/String", "<init>", "([C)V"⟩
abbrev mn39 : MethodName := ⟨"java/lang/Object", "<init>", "()V"⟩
abbrev mn40 : MethodName := ⟨"java/lang/System", "arraycopy", "(Ljava/lang/Object;ILjava/lang/Object;II)V"⟩
abbrev mn41 : MethodName := ⟨"[B", "clone", "()Ljava/lang/Object;"⟩
abbrev mn42 : MethodName := ⟨"java/lang/Object", "clone", "()Ljava/lang/Object;"⟩
abbrev ss0 := "java/lang/String"
abbrev ss1 := "java/lang/AbstractStringBuilder"
abbrev ss2 := "coder"
abbrev ss3 := "value"
abbrev ss4 := "java/lang/Integer"
abbrev ss5 := "java/lang/StringBuilder"
abbrev ss6 := "COMPACT_STRINGS"
abbrev ss7 := "count"
abbrev ss8 := "DigitOnes"
abbrev ss9 := "DigitTens"
abbrev ss10 := "com/example/shardpick/shardpick/NumberedNames"
abbrev ss11 := "jdk/internal/util/Preconditions"
abbrev ss12 := "com/example/shardpick/shardpick/NumberedNamesNamePinLaw"
abbrev ss13 := "SIOOBE_FORMATTER"
abbrev ss14 := "Ljava/util/function/BiFunction;"
abbrev ss15 := "java/lang/StringLatin1"
/-- an instance method that its class itself declares is found from that class (no interface) -/
theorem own_same {s : State} {a0 : Array Value} {y z : MethodName} {C : String} (hi : (Jvm.Cond.instanceMethod y).before a0 s = true) (hs : (Jvm.Cond.selects C z z).before a0 s = true) (hc : z.cls = y.cls) (hy : y.cls ≠ "java/lang/invoke/MethodHandle" ∧ y.cls ≠ "java/lang/invoke/VarHandle") : (Jvm.Cond.sameMethod y.cls y.cls y.name y.desc).before a0 s = true := by
  obtain ⟨mk, methM, hnamed, hmethM, -, -⟩ := Cond.instanceMethod_spec hi
  have hfound : s.methodFound? y.cls y.name y.desc = some mk := State.methodFound?_of_named hnamed hy
  have hcl := findClass_of_methodNamed hnamed
  obtain ⟨c2, r2, m2, q1, q2, q3, q4, kP, hkP, hkPi⟩ := Cond.selects_spec hs
  have hcz := findClass_of_methodNamed q3
  rw [hc] at hcz
  have e : mk.cls = m2.cls := Option.some.inj (hcl.symm.trans hcz)
  have hnamed' : s.methodNamed? ⟨y.cls, y.name, y.desc⟩ = some mk := hnamed
  rw [← e] at hkP
  simp [Cond.before, Cond.holds, Cond.value, hcl, hfound, hnamed', hkP, hkPi]
theorem own_selp {s : State} {a0 : Array Value} {y : MethodName} {C : String} (hi : (Jvm.Cond.instanceMethod y).before a0 s = true) (hp : (Jvm.Cond.privateMethod y).before a0 s = true) (hs : (Jvm.Cond.selects C y y).before a0 s = true) (hy : y.cls ≠ "java/lang/invoke/MethodHandle" ∧ y.cls ≠ "java/lang/invoke/VarHandle") : (Jvm.Cond.selects y.cls y y).before a0 s = true := by
  obtain ⟨c2, r2, m2, q1, q2, q3, q4, kP, hkP, hkPi⟩ := Cond.selects_spec hs
  exact selects_self_of_private (findClass_of_methodNamed q3) hkP hkPi (Cond.privateMethod_at hp) hi hy
theorem own_notface {s : State} {args : Array Value} {y z : MethodName} {C : String} (hs : (Jvm.Cond.selects C z z).before args s = true) (hc : z.cls = y.cls) : NotFace s y := fun r0 h0 => by
  obtain ⟨c2, r2, m2, q1, q2, q3, q4, kP, hkP, hkPi⟩ := Cond.selects_spec hs
  have hcz := findClass_of_methodNamed q3
  rw [hc] at hcz
  have e : r0.cls = m2.cls := Option.some.inj ((findClass_of_methodNamed h0).symm.trans hcz)
  exact ⟨kP, by rw [e]; exact hkP, hkPi⟩
abbrev B8 (cs : List Int32) : List Value := (cs.map (fun c => c.toInt8.toInt32)).map Value.int
theorem shr0 (x : Int32) : x >>> ((0 : Int32) &&& 31) = x := by
  apply Int32.toBitVec_inj.mp; simp [Int32.toBitVec_shiftRight]
theorem shl0 (x : Int32) : x <<< ((0 : Int32) &&& 31) = x := by
  apply Int32.toBitVec_inj.mp; simp [Int32.toBitVec_shiftLeft]
theorem on_nat {n : Nat} (h : n < 2 ^ 31) : (Int32.ofNat n).toNatClampNeg = n := by
  show (Int32.ofNat n).toInt.toNat = n
  rw [Int32.toInt_ofNat_of_lt h]; rfl
theorem on_pos {n : Nat} (h : n < 2 ^ 31) : ¬ Int32.ofNat n < 0 := by
  rw [Int32.lt_iff_toInt_lt, Int32.toInt_ofNat_of_lt h]
  show ¬ (n : Int) < 0
  omega
theorem on_int {n : Nat} (h : n < 2 ^ 31) : (Int32.ofNat n).toInt = n := Int32.toInt_ofNat_of_lt h
theorem on_add (a b : Nat) : Int32.ofNat a + Int32.ofNat b = Int32.ofNat (a + b) := by
  apply Int32.toBitVec_inj.mp
  show BitVec.ofNat 32 a + BitVec.ofNat 32 b = BitVec.ofNat 32 (a + b)
  exact (BitVec.ofNat_add a b).symm
theorem on_sub {a b : Nat} (h : b ≤ a) (ha : a < 2 ^ 31) : Int32.ofNat a - Int32.ofNat b = Int32.ofNat (a - b) := by
  have e : Int32.ofNat a = Int32.ofNat (a - b) + Int32.ofNat b := by rw [on_add]; congr 1; omega
  rw [e]
  apply Int32.toBitVec_inj.mp
  simp
theorem b8_app (cs ds : List Int32) : B8 (cs ++ ds) = B8 cs ++ B8 ds := by simp [B8]
theorem b8_len (cs : List Int32) : (B8 cs).length = cs.length := by simp [B8]
theorem rng_getD {vs : List Value} {dv : Value} {n : Nat} (i : Nat) (h : vs.length ≤ n) : ((List.range n).map fun i => vs.getD (0 + i) dv).getD i dv = vs.getD i dv := by
  simp only [List.getD_eq_getElem?_getD, List.getElem?_map, Nat.zero_add]
  by_cases q : i < n
  · rw [List.getElem?_range q]; simp
  · rw [List.getElem?_eq_none (by simpa using q), List.getElem?_eq_none (l := vs) (by omega)]; rfl
theorem app_getD (ws us vs : List Value) (dv : Value) (h : ∀ i, us.getD i dv = vs.getD i dv) (i : Nat) : (ws ++ us).getD i dv = (ws ++ vs).getD i dv := by
  simp only [List.getD_eq_getElem?_getD] at h ⊢
  by_cases q : i < ws.length
  · rw [List.getElem?_append_left q, List.getElem?_append_left q]
  · rw [List.getElem?_append_right (by omega), List.getElem?_append_right (by omega)]; exact h _
section OwnCopy
variable {p : Program} {l : Launch} {e : Env} {R : Room} {s Z : State} {m : MethodId} {args : Array Value} {below : List Frame} {meth : Method} {c : Code} {T : State} {locs : List Loc} {cells slots : Nat} {h : Heap} {a b : Addr} {k k' : ClassId}
/-- System.arraycopy of a Latin-1 text behind another one (n signs, the source's text at most so long) -/
theorem own_cpy (X : Stand p l e R s m args below meth c T locs cells slots) (hx : p.tables.exec = Jvm.exec) (hZ : Z.Warmed39 s.vm) {a0 : Array Value} {own : String} {index : Nat} (hown : s.vm.findClass own = some m.cls)
    (w1 : (Cond.methodLink own index Jvm.Stand.acN).before a0 Z = true) (w2 : (Cond.native Jvm.Stand.acN).before a0 Z = true) (w3 : (Cond.static Jvm.Stand.acN).before a0 Z = true) (w4 : (Cond.initialized "java/lang/System").before a0 Z = true) (eT : T.heap = h)
    {ca cb n : Nat} {cs es : List Int32} {nn dp : Int32} (A : Arv Z h a k .byte (Int32.ofNat ca) (B8 cs) (.int 0)) (B : Arv Z h b k' .byte (Int32.ofNat cb) (B8 es) (.int 0)) (hn : nn = Int32.ofNat n) (hdp : dp = Int32.ofNat es.length)
    (q1 : cs.length ≤ n) (q2 : n ≤ ca) (q3 : es.length + n ≤ cb) (q4 : ca < 2 ^ 31) (q5 : cb < 2 ^ 31) {n0 : Nat} (N : Fr n0 locs) (ge : n0 ≤ b)
    {g : JFrame} (hg : g.method = m) (hsize : g.locals.size = c.maxLocals) {rest : List Value} (hs : g.stack = .int nn :: .int dp :: .ref b :: .int 0 :: .ref a :: rest) (hd : decode c.code g.pc = .ok (.invokestatic index, 3))
    (hf : 1 ≤ R.frames) {W : Nat} (hW : 2 * g.monitorRoom + (rest.map fun v => v.category).sum ≤ W) (hlo : W + (nativeFrameWords "java/lang/System" "arraycopy" 5 + 11) ≤ R.locals) :
    ∃ T' h' L, Stand p l e R s m args below meth c T' L cells slots ∧ T'.heap = h' ∧ Fr n0 L ∧ Keep h h' [b] ∧ Arv Z h' b k' .byte (Int32.ofNat cb) (B8 (es ++ cs)) (.int 0) ∧
      ∀ target, Steps p.tables e below (T'.setTop { g with pc := g.pc + 3, stack := rest }) target → Steps p.tables e below (T.setTop g) target := by
  subst hn hdp
  have hn' : n < 2 ^ 31 := by omega
  have he' : es.length < 2 ^ 31 := by omega
  obtain ⟨T', h', L, x1, x2, x3, x4, x5, x6⟩ := cpA X hx hZ hown w1 w2 w3 w4 eT A (B.pad (pad_rep (B8 es) (.int 0) n)) (us := (List.range n).map fun i => (B8 cs).getD (0 + i) (.int 0)) (Or.inl ⟨rfl, rfl⟩) (sp := 0) (dp := Int32.ofNat es.length) (nn := Int32.ofNat n) (by decide) (on_pos he') (on_pos hn')
    (by rw [on_nat hn', on_nat q4]; show 0 + n ≤ ca; omega) (by rw [on_nat hn', on_nat he', on_nat q5]; exact q3) (by rw [on_nat hn']; rfl) (by rw [on_nat hn', on_nat he']; simp) N ge hg hsize hs hd hf hW hlo
  refine ⟨T', h', L, x1, x2, x3, x4, x5.pad fun i => ?_, x6⟩
  rw [on_nat hn', on_nat he', b8_app]
  have e1 : (B8 es ++ List.replicate n (Value.int 0)).take es.length = B8 es := by rw [← b8_len es]; exact List.take_left
  have e2 : (B8 es ++ List.replicate n (Value.int 0)).drop (es.length + n) = [] := by apply List.drop_eq_nil_of_le; simp
  rw [e1, e2, List.append_nil]
  exact (app_getD (B8 es) _ _ _ (fun j => rng_getD j (by rw [b8_len]; exact q1)) i).symm
end OwnCopy
theorem nar_b8 (x : Int32) : nar .byte (x.toInt8.toInt32) = x.toInt8.toInt32 := by
  show (x.toInt8.toInt32).toInt8.toInt32 = x.toInt8.toInt32
  simp
theorem own_push {Z : State} {h h' : Heap} {a : Addr} {k : ClassId} {z j y x : Int32} {cs : List Int32} (F : Arv Z h a k .byte z (B8 cs) (.int 0)) (hj : j.toNatClampNeg = cs.length) (W : Wr h h' a j.toNatClampNeg (.int (nar .byte y))) (hy : nar .byte y = x.toInt8.toInt32) : Arv Z h' a k .byte z (B8 (cs ++ [x])) (.int 0) := by
  obtain ⟨c, A, q, S, M, G, J⟩ := F.pad (pad_rep (B8 cs) (.int 0) 1)
  have r := Arv.set A q S M G J (fits_nar_byte y) W cs.length hj (by simp)
  have e : (B8 cs ++ List.replicate 1 (Value.int 0)).set cs.length (.int (nar .byte y)) = B8 (cs ++ [x]) := by
    rw [hy, b8_app, List.set_append_right (h := by simp)]; simp [B8]
  exact e ▸ r

theorem arv_of_arh {Z : State} {h : Heap} {a : Addr} {k : ClassId} {ty : FieldType} {z : Int32} {vs : List Value} {dv : Value} (F : Arh Z h a k ty z [] vs dv) : Arv Z h a k ty z vs dv := by
  obtain ⟨c, A, q, S, M, H, G⟩ := F
  exact ⟨c, A, q, S, M, fun k hk => H k hk, G⟩
theorem on_lt {a b : Nat} (h : a < b) (hb : b < 2 ^ 31) : Int32.ofNat a < Int32.ofNat b := by
  rw [Int32.lt_iff_toInt_lt, on_int (by omega), on_int hb]; omega
theorem on_subneg {a b : Nat} (h : a ≤ b) (hb : b < 2 ^ 31) : ¬ ((0 : Int32) < Int32.ofNat a - Int32.ofNat b) := by
  have e : Int32.ofNat a - Int32.ofNat b = - Int32.ofNat (b - a) := by
    rw [← on_sub h hb]; apply Int32.toBitVec_inj.mp; simp
  rw [e, Int32.lt_iff_toInt_lt, Int32.toInt_neg, on_int (by omega)]
  have e0 : (0 : Int32).toInt = 0 := rfl
  rw [e0, Int.bmod_def]; omega
/-- the k decimal signs of X, the first ones first -/
def D (k X : Nat) : List Int32 := (List.range k).map fun j => Int32.ofNat (48 + X / 10 ^ (k - 1 - j) % 10)
/-- X has k decimal signs -/
abbrev WD (X k : Nat) : Prop := 1 ≤ k ∧ k ≤ 10 ∧ X < 10 ^ k ∧ (k = 1 ∨ 10 ^ (k - 1) ≤ X)
theorem D_len (k X : Nat) : (D k X).length = k := by simp [D]
theorem D_getD {k X j : Nat} (h : j < k) : (D k X).getD j 0 = Int32.ofNat (48 + X / 10 ^ (k - 1 - j) % 10) := by
  simp only [D, List.getD_eq_getElem?_getD, List.getElem?_map, List.getElem?_range h]; rfl
theorem D_lo (k X : Nat) : ∀ c ∈ D k X, ¬ c < 0 ∧ ¬ (255 : Int32) < c := by
  intro c hc
  obtain ⟨j, -, rfl⟩ := List.mem_map.mp hc
  have h := Nat.mod_lt (X / 10 ^ (k - 1 - j)) (show 10 > 0 by decide)
  generalize X / 10 ^ (k - 1 - j) % 10 = d at h ⊢
  have : ∀ d : Fin 10, ¬ Int32.ofNat (48 + d.val) < 0 ∧ ¬ (255 : Int32) < Int32.ofNat (48 + d.val) := by decide
  exact this ⟨d, h⟩
theorem D_pad {X k w : Nat} (h : X < 10 ^ k) (hk : 1 ≤ k) (hw : k ≤ w) : List.replicate (w - k) (48 : Int32) ++ D k X = D w X := by
  apply List.ext_getElem?
  intro j
  by_cases q : j < w - k
  · rw [List.getElem?_append_left (by simpa using q)]
    have z : X / 10 ^ (w - 1 - j) = 0 := Nat.div_eq_of_lt (Nat.lt_of_lt_of_le h (Nat.pow_le_pow_right (by decide) (by omega)))
    simp only [D, List.getElem?_map, List.getElem?_range (show j < w by omega), List.getElem?_replicate, q, if_true, Option.map, z]
    rfl
  · rw [List.getElem?_append_right (by simpa using q)]
    simp only [D, List.getElem?_map, List.length_replicate]
    by_cases r : j < w
    · rw [List.getElem?_range r, List.getElem?_range (show j - (w - k) < k by omega)]
      simp only [Option.map]
      rw [show k - 1 - (j - (w - k)) = w - 1 - j by omega]
    · rw [List.getElem?_eq_none (by simp; omega), List.getElem?_eq_none (by simp; omega)]; rfl
theorem wd_le {N M k w : Nat} (hN : WD N k) (hM : WD M w) (h : N ≤ M) : k ≤ w := by
  obtain ⟨a1, a2, a3, a4⟩ := hN; obtain ⟨b1, b2, b3, b4⟩ := hM
  rcases a4 with rfl | a4
  · exact b1
  · have : 10 ^ (k - 1) < 10 ^ w := by omega
    have := (Nat.pow_lt_pow_iff_right (by decide : 1 < 10)).mp this
    omega
theorem wd_uniq {M k w : Nat} (h1 : WD M k) (h2 : WD M w) : k = w := Nat.le_antisymm (wd_le h1 h2 (Nat.le_refl _)) (wd_le h2 h1 (Nat.le_refl _))
theorem lt_on {a b : Nat} (ha : a < 2 ^ 31) (hb : b < 2 ^ 31) : Int32.ofNat a < Int32.ofNat b ↔ a < b := by
  rw [Int32.lt_iff_toInt_lt, on_int ha, on_int hb]; omega
theorem eq_on {a b : Nat} (ha : a < 2 ^ 31) (hb : b < 2 ^ 31) : Int32.ofNat a = Int32.ofNat b ↔ a = b := by
  rw [← Int32.toInt_inj, on_int ha, on_int hb]; omega
theorem neg_int {a : Nat} (ha : a < 2 ^ 31) : (-(Int32.ofNat a)).toInt = -(a : Int) := by
  have h := c_ineg (Int32.ofNat a); rw [on_int ha] at h
  have := Int32.toInt_lt (-(Int32.ofNat a)); have := Int32.le_toInt (-(Int32.ofNat a)); omega
theorem neg_lt_on {a b : Nat} (ha : a < 2 ^ 31) (hb : b < 2 ^ 31) : -(Int32.ofNat a) < -(Int32.ofNat b) ↔ b < a := by
  rw [Int32.lt_iff_toInt_lt, neg_int ha, neg_int hb]; omega
theorem g_div {Y : Nat} (h : Y < 2 ^ 31) : (-(Int32.ofNat Y)) / (100 : Int32) = -(Int32.ofNat (Y / 100)) := by
  apply Int32.toInt_inj.mp
  have q := c_idiv (-(Int32.ofNat Y)) 100 100 (by decide) (by decide)
  rw [neg_int h] at q
  rw [neg_int (by omega)]
  by_cases z : Y = 0
  · subst z; rw [q.1 (by decide)]; rfl
  · rw [q.2 (by omega)]; omega
theorem g_rem {Y : Nat} (h : Y < 2 ^ 31) : (-(Int32.ofNat (Y / 100))) * (100 : Int32) - (-(Int32.ofNat Y)) = Int32.ofNat (Y % 100) := by
  apply Int32.toInt_inj.mp
  rw [on_int (by omega)]
  have m := c_imul (-(Int32.ofNat (Y / 100))) 100
  have s := c_isub ((-(Int32.ofNat (Y / 100))) * (100 : Int32)) (-(Int32.ofNat Y))
  rw [neg_int (by omega)] at m
  rw [neg_int h] at s
  have e : (100 : Int32).toInt = 100 := rfl
  rw [e] at m
  have l1 := Int32.toInt_lt ((-(Int32.ofNat (Y / 100))) * (100 : Int32) - (-(Int32.ofNat Y))); have l2 := Int32.le_toInt ((-(Int32.ofNat (Y / 100))) * (100 : Int32) - (-(Int32.ofNat Y)))
  omega
theorem neg_neg_on (a : Nat) : -(-(Int32.ofNat a)) = Int32.ofNat a := by apply Int32.toBitVec_inj.mp; simp
theorem dig8 {a b : Nat} (h : a = b) : nar .byte (Int32.ofNat (48 + a)) = (Int32.ofNat (48 + b)).toInt8.toInt32 := by subst h; rfl
theorem b8_at {cs : List Int32} {i : Nat} (h : i < 2 ^ 31) : (B8 cs).getD (Int32.ofNat i).toNatClampNeg (.int 0) = .int ((cs.getD i 0).toInt8.toInt32) := by
  rw [on_nat h]
  simp only [B8, List.getD_eq_getElem?_getD, List.getElem?_map]
  cases cs[i]? <;> rfl
theorem lo_back {c : Int32} (h : ¬ c < 0 ∧ ¬ (255 : Int32) < c) : ((c.toInt8.toInt32) &&& (255 : Int32)).toUInt32.toUInt16.toUInt32.toInt32 = c ∧ nar .char c = c := by
  have t : ∀ k : Fin 256, ((((Int32.ofNat k.val).toInt8.toInt32) &&& (255 : Int32)).toUInt32.toUInt16.toUInt32.toInt32 = Int32.ofNat k.val) ∧ nar .char (Int32.ofNat k.val) = Int32.ofNat k.val := by decide +kernel
  have h1 : ¬ c.toInt < 0 := fun q => h.1 (Int32.lt_iff_toInt_lt.mpr q)
  have h2 : ¬ 255 < c.toInt := fun q => h.2 (Int32.lt_iff_toInt_lt.mpr q)
  have e : c = Int32.ofNat c.toInt.toNat := by apply Int32.toInt_inj.mp; rw [on_int (by omega)]; omega
  rw [e]; exact t ⟨c.toInt.toNat, by omega⟩
theorem getD_lo {cs : List Int32} (h : ∀ c ∈ cs, ¬ c < 0 ∧ ¬ (255 : Int32) < c) (i : Nat) : ¬ cs.getD i 0 < 0 ∧ ¬ (255 : Int32) < cs.getD i 0 := by
  rw [List.getD_eq_getElem?_getD]
  by_cases q : i < cs.length
  · rw [List.getElem?_eq_getElem q]; exact h _ (List.getElem_mem q)
  · rw [List.getElem?_eq_none (by omega)]; decide
def ONES : List Value := (List.range 100).map fun r => .int (Int32.ofNat (48 + r % 10))
def TENS : List Value := (List.range 100).map fun r => .int (Int32.ofNat (48 + r / 10))
theorem ones_at {r : Nat} (h : r < 100) : ONES.getD (Int32.ofNat r).toNatClampNeg (.int 0) = .int (Int32.ofNat (48 + r % 10)) := by
  rw [on_nat (by omega)]; simp only [ONES, List.getD_eq_getElem?_getD, List.getElem?_map, List.getElem?_range h]; rfl
theorem tens_at {r : Nat} (h : r < 100) : TENS.getD (Int32.ofNat r).toNatClampNeg (.int 0) = .int (Int32.ofNat (48 + r / 10)) := by
  rw [on_nat (by omega)]; simp only [TENS, List.getD_eq_getElem?_getD, List.getElem?_map, List.getElem?_range h]; rfl
theorem l_on {n : Nat} (h : n < 2 ^ 63) : (Int64.ofNat n).toInt = n := Int64.toInt_ofNat_of_lt h
theorem l_dig {N P : Nat} (hN : N < 2 ^ 31) (hP : 0 < P) (hP2 : P < 2 ^ 63) : (48 : Int32) + ((Int32.ofNat N).toInt64 / Int64.ofNat P - ((Int32.ofNat N).toInt64 / Int64.ofNat P) / (10 : Int64) * (10 : Int64)).toInt32 = Int32.ofNat (48 + N / P % 10) := by
  have a := c_i2l (Int32.ofNat N); rw [on_int hN] at a
  have hne : Int64.ofNat P ≠ -1 := fun q => by have := congrArg Int64.toInt q; rw [l_on hP2] at this; have e : (-1 : Int64).toInt = -1 := rfl; rw [e] at this; omega
  have b := (c_ldiv (Int32.ofNat N).toInt64 (Int64.ofNat P) P (l_on hP2) hne).1 (by omega)
  rw [a] at b
  have b' : ((Int32.ofNat N).toInt64 / Int64.ofNat P).toInt = ((N / P : Nat) : Int) := by rw [b]; rfl
  have c := (c_lrem ((Int32.ofNat N).toInt64 / Int64.ofNat P) 10 10 (by decide)).1 (by rw [b']; exact Int.natCast_nonneg _)
  rw [b'] at c
  generalize (Int32.ofNat N).toInt64 / Int64.ofNat P - ((Int32.ofNat N).toInt64 / Int64.ofNat P) / (10 : Int64) * (10 : Int64) = y at c ⊢
  have d := c_l2i y
  have f := c_iadd (48 : Int32) y.toInt32
  have e48 : (48 : Int32).toInt = 48 := rfl
  apply Int32.toInt_inj.mp
  rw [on_int (by omega)]
  have l1 := Int32.toInt_lt ((48 : Int32) + y.toInt32); have l2 := Int32.le_toInt ((48 : Int32) + y.toInt32)
  have l3 := Int32.toInt_lt (y.toInt32); have l4 := Int32.le_toInt (y.toInt32)
  omega
theorem dig_c {N P : Nat} : (Int32.ofNat (48 + N / P % 10)).toUInt32.toUInt16.toUInt32.toInt32 = Int32.ofNat (48 + N / P % 10) := by
  have h := Nat.mod_lt (N / P) (show 10 > 0 by decide)
  generalize N / P % 10 = d at h ⊢
  have : ∀ d : Fin 10, (Int32.ofNat (48 + d.val)).toUInt32.toUInt16.toUInt32.toInt32 = Int32.ofNat (48 + d.val) := by decide
  exact this ⟨d, h⟩
theorem of_nn {y : Int32} (h : 0 ≤ y.toInt) : ∃ n, n < 2 ^ 31 ∧ y = Int32.ofNat n := by
  have l := Int32.toInt_lt y
  exact ⟨y.toInt.toNat, by omega, by apply Int32.toInt_inj.mp; rw [on_int (by omega)]; omega⟩
theorem mask_pos (x : Int32) (h : ¬ (x &&& (2147483647 : Int32)) = (0 : Int32)) : ∃ M, M + 1 < 2 ^ 31 ∧ (x &&& (2147483647 : Int32)) = Int32.ofNat (M + 1) := by
  obtain ⟨n, h1, h2⟩ := of_nn (c_and x (2147483647 : Int32) (by decide)).1
  cases n with
  | zero => exact absurd h2 h
  | succ M => exact ⟨M, h1, h2⟩
theorem rem_on (x : Int32) {M : Nat} (hM : M + 1 < 2 ^ 31) : ∃ N, N ≤ M ∧ (x &&& (2147483647 : Int32)) % Int32.ofNat (M + 1) = Int32.ofNat N := by
  obtain ⟨n, h1, h2⟩ := of_nn (c_and x (2147483647 : Int32) (by decide)).1
  rw [h2]
  have q := (c_irem (Int32.ofNat n) (Int32.ofNat (M + 1)) ((M + 1 : Nat) : Int) (on_int hM)).1 (by rw [on_int h1]; omega)
  rw [on_int h1] at q
  refine ⟨n % (M + 1), Nat.le_of_lt_succ (Nat.mod_lt _ (Nat.succ_pos _)), ?_⟩
  apply Int32.toInt_inj.mp
  have l : n % (M + 1) < M + 1 := Nat.mod_lt n (Nat.succ_pos M)
  rw [q, on_int (by omega)]; rfl
theorem mask3c (x : Int32) : (x &&& (3 : Int32)) = (0 : Int32) ∨ (x &&& (3 : Int32)) = (1 : Int32) ∨ (x &&& (3 : Int32)) = (2 : Int32) ∨ (x &&& (3 : Int32)) = (3 : Int32) := by
  have h := c_and x (3 : Int32) (by decide)
  obtain ⟨n, h1, h2⟩ := of_nn h.1
  have e3 : (3 : Int32).toInt = 3 := rfl
  rw [h2, on_int h1, e3] at h
  rw [h2]
  have t : ∀ n : Fin 4, Int32.ofNat n.val = (0 : Int32) ∨ Int32.ofNat n.val = (1 : Int32) ∨ Int32.ofNat n.val = (2 : Int32) ∨ Int32.ofNat n.val = (3 : Int32) := by decide
  exact t ⟨n, by omega⟩
theorem ch_lo (x : Int32) : ¬ ((x &&& (255 : Int32)).toUInt32.toUInt16.toUInt32.toInt32) < 0 ∧ ¬ (255 : Int32) < ((x &&& (255 : Int32)).toUInt32.toUInt16.toUInt32.toInt32) := by
  obtain ⟨n, h1, h2⟩ := of_nn (c_and x (255 : Int32) (by decide)).1
  have h := (c_and x (255 : Int32) (by decide)).2
  rw [h2, on_int h1] at h
  rw [h2]
  have e : (255 : Int32).toInt = 255 := rfl
  have t : ∀ n : Fin 256, ¬ ((Int32.ofNat n.val).toUInt32.toUInt16.toUInt32.toInt32) < 0 ∧ ¬ (255 : Int32) < ((Int32.ofNat n.val).toUInt32.toUInt16.toUInt32.toInt32) := by decide +kernel
  exact t ⟨n, by omega⟩
section OwnStart
variable {args : Array Value} {s : State} {t u : Term} {a : Addr}
theorem own_eqI {n : Int32} (h : (Cond.eq t (.int n)).value args s none s [] = some true) : t.eval args s none [] s = some (.int n) := by
  obtain ⟨x, y, h1, h2, k1, k2⟩ := cmp_v (Or.inl h)
  cases (Term.int_eval n).symm.trans h2
  obtain ⟨z, rfl⟩ := k2
  have q := gotT (Cond.eq_ints h1 h2) h
  subst q; exact h1
end OwnStart
theorem hasL_of {c : Cell} : ∀ (vs : List Value) (i : Nat), (∀ j (h : j < vs.length), c.slots[i + j]? = some vs[j]) → HasL c i vs
  | [], _, _ => trivial
  | v :: r, i, H => ⟨H 0 (by simp), hasL_of r (i + 1) fun j hj => by
      have := H (j + 1) (by simpa using hj)
      rw [show i + 1 + j = i + (j + 1) by omega]; simpa using this⟩
/-- a table of bytes in a static: its length and what each place holds -/
theorem own_tbl {args : Array Value} {s : State} {t rhs : Term} {F : Nat → Nat} (hf : Fit s) (hx : (Cond.exactly t "[B").value args s none s [] = some true) (hl : (Cond.eq (.length t) (.int 100)).value args s none s [] = some true) (harr : (Cond.arrayClass .byte).before args s = true)
    (ha : (Cond.all t (.eq (.elem t (.index 0)) rhs)).value args s none s [] = some true) (hev : ∀ idx, t.eval args s none idx s = t.eval args s none [] s) (hrhs : ∀ r, r < 100 → rhs.eval args s none [r] s = some (.int (Int32.ofNat (F r)))) :
    ∃ a k, t.eval args s none [] s = some (.ref a) ∧ Arv s s.heap a k .byte 100 ((List.range 100).map fun r => .int (Int32.ofNat (F r))) (.int 0) := by
  obtain ⟨d, cB, D, kB, ev, hfcB, hcellD, hkB, hstatD, hclsD, -⟩ := Cond.exactly_spec (beq_iff_eq.mpr hx : (Cond.exactly t "[B").holds args s none s [] = true)
  have e := own_eqI hl
  obtain ⟨d', D', ev', harrAt, hlen⟩ := Term.length_spec e
  cases ev.symm.trans ev'
  obtain ⟨hcellD', hknD, -, -⟩ := State.arrayAt?_spec harrAt
  cases hcellD.symm.trans hcellD'
  obtain ⟨cB', kB', comp, hnameB, hkB', hkindB⟩ := Cond.arrayClass_spec harr
  have eBA : ("[" ++ FieldType.toString .byte) = "[B" := by decide
  rw [eBA] at hnameB
  cases hfcB.symm.trans hnameB
  cases hkB.symm.trans hkB'
  have A : Arr s s.heap d D .byte := ⟨hcellD, ⟨(fun q h => by rw [h] at hstatD; cases hstatD), kB, (by rw [hclsD]; exact hkB), comp, hkindB⟩, hknD⟩
  by_cases q : D.slots.size < 2 ^ 31
  · rw [len_f ev harrAt q] at e
    have hsz : D.slots.size.toInt32 = 100 := Value.int.inj (Option.some.inj e)
    have hs : D.slots.size = 100 := by
      have h2 : Int32.ofNat D.slots.size = Int32.ofNat 100 := hsz
      have h3 := congrArg Int32.toInt h2
      rw [Int32.toInt_ofNat_of_lt q, Int32.toInt_ofNat_of_lt (by decide)] at h3; omega
    refine ⟨d, D.cls, ev, Arv.start hf A q hsz (by decide) (by simp) (hasL_of _ 0 fun j hj => ?_)⟩
    have hj' : j < 100 := by simpa using hj
    have h := Cond.all_elim ev harrAt ha j (by omega)
    have nn : ¬ Int32.ofNat j < 0 := by rw [Int32.lt_iff_toInt_lt, Int32.toInt_ofNat_of_lt (by omega)]; show ¬ (j : Int) < 0; omega
    have hjn : (Int32.ofNat j).toNatClampNeg = j := by show (Int32.ofNat j).toInt.toNat = j; rw [Int32.toInt_ofNat_of_lt (by omega)]; rfl
    have eL := elem_f (t := t) (a := .index 0) (idx := [j]) (j := Int32.ofNat j) ((hev [j]).trans ev) rfl harrAt nn
    rw [hjn] at eL
    have eR := eqv_i (hrhs j hj') h
    rw [eL] at eR
    simpa using eR
  · simp [Term.eval, ev, harrAt, q] at e
theorem ones_num : ∀ r, r < 100 → (48 : Int32) + Int32.ofNat r % 10 = Int32.ofNat (48 + r % 10) := by decide +kernel
theorem tens_num : ∀ r, r < 100 → (48 : Int32) + Int32.ofNat r / 10 = Int32.ofNat (48 + r / 10) := by decide +kernel
abbrev HW (a0 : Array Value) (Z : State) : Prop := ∀ d ∈ tables_1, d.before a0 Z = true
abbrev OW (w : Jvm.Cond) : Prop := ∀ {a0 : Array Value} {Z : State}, HW a0 Z → w.before a0 Z = true
theorem gw {w : Jvm.Cond} (i : Nat) (h : tables_1[i]? = some w) : OW w := fun hw => hw _ (List.mem_of_getElem? h)
theorem ow0 : OW (.constant "com/example/shardpick/shardpick/NumberedNamesNamePinLaw" (7 : Nat) (2147483647 : Int32)) := gw 0 rfl
theorem ow1 : OW (.methodLink "com/example/shardpick/shardpick/NumberedNamesNamePinLaw" (13 : Nat) mn10) := gw 1 rfl
theorem ow2 : OW (.static mn10) := gw 2 rfl
theorem ow3 : OW (.initialized "java/lang/String") := gw 3 rfl
theorem ow4 : OW (.code mn10 jdk_42_method_139_code (1 : Nat) (Option.some (Jvm.ClassFile.FieldType.object "java/lang/String"))) := gw 4 rfl
theorem ow5 : OW (.fieldLink "java/lang/String" (38 : Nat) "java/lang/String" "COMPACT_STRINGS" "Z") := gw 5 rfl
theorem ow6 : OW (.methodLink "java/lang/String" (1015 : Nat) mn8) := gw 6 rfl
theorem ow7 : OW (.static mn8) := gw 7 rfl
theorem ow8 : OW (.initialized "java/lang/StringLatin1") := gw 8 rfl
theorem ow9 : OW (.code mn8 jdk_43_method_3_code (1 : Nat) (Option.some Jvm.ClassFile.FieldType.boolean)) := gw 9 rfl
theorem ow10 : OW (.classLink "java/lang/String" (10 : Nat) "java/lang/String") := gw 10 rfl
theorem ow11 : OW (.instantiable "java/lang/String" (4 : Nat)) := gw 11 rfl
theorem ow12 : OW (.methodLink "java/lang/String" (1018 : Nat) mn9) := gw 12 rfl
theorem ow13 : OW (.static mn9) := gw 13 rfl
theorem ow14 : OW (.code mn9 jdk_43_method_46_code (1 : Nat) (Option.some (Jvm.ClassFile.FieldType.array Jvm.ClassFile.FieldType.byte))) := gw 14 rfl
theorem ow15 : OW (.arrayClass Jvm.ClassFile.FieldType.byte) := gw 15 rfl
theorem ow16 : OW (.methodLink "java/lang/String" (209 : Nat) mn7) := gw 16 rfl
theorem ow17 : OW (.instanceMethod mn7) := gw 17 rfl
theorem ow19 : OW (.code mn7 jdk_42_method_151_code (3 : Nat) (Option.none : Option Jvm.ClassFile.FieldType)) := gw 19 rfl
theorem ow20 : OW (.methodLink "java/lang/String" (1 : Nat) mn39) := gw 20 rfl
theorem ow21 : OW (.instanceMethod mn39) := gw 21 rfl
theorem ow22 : OW (.code mn39 object_method_1_code (1 : Nat) (Option.none : Option Jvm.ClassFile.FieldType)) := gw 22 rfl
theorem ow23 : OW (.fieldLink "java/lang/String" (9 : Nat) "java/lang/String" "value" "[B") := gw 23 rfl
theorem ow24 : OW (.laysFinal "java/lang/String" "java/lang/String" "value" "[B") := gw 24 rfl
theorem ow25 : OW (.fieldLink "java/lang/String" (15 : Nat) "java/lang/String" "coder" "B") := gw 25 rfl
theorem ow26 : OW (.laysFinal "java/lang/String" "java/lang/String" "coder" "B") := gw 26 rfl
theorem ow27 : OW (.methodLink "com/example/shardpick/shardpick/NumberedNamesNamePinLaw" (17 : Nat) mn29) := gw 27 rfl
theorem ow28 : OW (.static mn29) := gw 28 rfl
theorem ow29 : OW (.initialized "com/example/shardpick/shardpick/NumberedNamesNamePinLaw") := gw 29 rfl
theorem ow30 : OW (.code mn29 method_3_code (1 : Nat) (Option.some Jvm.ClassFile.FieldType.int)) := gw 30 rfl
theorem ow31 : OW (.classLink "com/example/shardpick/shardpick/NumberedNamesNamePinLaw" (23 : Nat) "com/example/shardpick/shardpick/NumberedNames") := gw 31 rfl
theorem ow32 : OW (.instantiable "com/example/shardpick/shardpick/NumberedNames" (2 : Nat)) := gw 32 rfl
theorem ow33 : OW (.initialized "com/example/shardpick/shardpick/NumberedNames") := gw 33 rfl
theorem ow34 : OW (.methodLink "com/example/shardpick/shardpick/NumberedNamesNamePinLaw" (25 : Nat) mn34) := gw 34 rfl
theorem ow35 : OW (.instanceMethod mn34) := gw 35 rfl
theorem ow36 : OW (.code mn34 prog_5_method_1_code (3 : Nat) (Option.none : Option Jvm.ClassFile.FieldType)) := gw 36 rfl
theorem ow37 : OW (.methodLink "com/example/shardpick/shardpick/NumberedNames" (1 : Nat) mn39) := gw 37 rfl
theorem ow38 : OW (.fieldLink "com/example/shardpick/shardpick/NumberedNames" (7 : Nat) "com/example/shardpick/shardpick/NumberedNames" "prefix" "Ljava/lang/String;") := gw 38 rfl
theorem ow39 : OW (.laysFinal "com/example/shardpick/shardpick/NumberedNames" "com/example/shardpick/shardpick/NumberedNames" "prefix" "Ljava/lang/String;") := gw 39 rfl
theorem ow40 : OW (.methodLink "com/example/shardpick/shardpick/NumberedNames" (13 : Nat) mn33) := gw 40 rfl
theorem ow41 : OW (.static mn33) := gw 41 rfl
theorem ow42 : OW (.initialized "java/lang/Integer") := gw 42 rfl
theorem ow43 : OW (.code mn33 jdk_33_method_10_code (3 : Nat) (Option.some (Jvm.ClassFile.FieldType.object "java/lang/String"))) := gw 43 rfl
theorem ow44 : OW (.methodLink "java/lang/Integer" (72 : Nat) mn30) := gw 44 rfl
theorem ow45 : OW (.static mn30) := gw 45 rfl
theorem ow46 : OW (.code mn30 jdk_33_method_13_code (4 : Nat) (Option.some Jvm.ClassFile.FieldType.int)) := gw 46 rfl
theorem ow47 : OW (.fieldLink "java/lang/Integer" (13 : Nat) "java/lang/String" "COMPACT_STRINGS" "Z") := gw 47 rfl
theorem ow48 : OW (.methodLink "java/lang/Integer" (75 : Nat) mn32) := gw 48 rfl
theorem ow49 : OW (.static mn32) := gw 49 rfl
theorem ow50 : OW (.code mn32 jdk_33_method_12_code (7 : Nat) (Option.some Jvm.ClassFile.FieldType.int)) := gw 50 rfl
theorem ow51 : OW (.fieldLink "java/lang/Integer" (83 : Nat) "java/lang/Integer" "DigitOnes" "[B") := gw 51 rfl
theorem ow52 : OW (.classLink "java/lang/Integer" (5 : Nat) "java/lang/String") := gw 52 rfl
theorem ow53 : OW (.methodLink "java/lang/Integer" (65 : Nat) mn7) := gw 53 rfl
theorem ow54 : OW (.methodLink "com/example/shardpick/shardpick/NumberedNames" (19 : Nat) mn1) := gw 54 rfl
theorem ow55 : OW (.declares mn1) := gw 55 rfl
theorem ow56 : OW (.instanceMethod mn1) := gw 56 rfl
theorem ow57 : OW (.selects "java/lang/String" mn1 mn1) := gw 57 rfl
theorem ow58 : OW (.code mn1 jdk_42_method_54_code (1 : Nat) (Option.some Jvm.ClassFile.FieldType.int)) := gw 58 rfl
theorem ow59 : OW (.methodLink "java/lang/String" (335 : Nat) mn0) := gw 59 rfl
theorem ow60 : OW (.declares mn0) := gw 60 rfl
theorem ow61 : OW (.instanceMethod mn0) := gw 61 rfl
theorem ow62 : OW (.selects "java/lang/String" mn0 mn0) := gw 62 rfl
theorem ow63 : OW (.code mn0 jdk_42_method_152_code (1 : Nat) (Option.some Jvm.ClassFile.FieldType.byte)) := gw 63 rfl
theorem ow64 : OW (.fieldLink "com/example/shardpick/shardpick/NumberedNames" (25 : Nat) "com/example/shardpick/shardpick/NumberedNames" "width" "I") := gw 64 rfl
theorem ow65 : OW (.laysFinal "com/example/shardpick/shardpick/NumberedNames" "com/example/shardpick/shardpick/NumberedNames" "width" "I") := gw 65 rfl
theorem ow66 : OW (.methodLink "com/example/shardpick/shardpick/NumberedNamesNamePinLaw" (28 : Nat) mn35) := gw 66 rfl
theorem ow67 : OW (.declares mn35) := gw 67 rfl
theorem ow68 : OW (.instanceMethod mn35) := gw 68 rfl
theorem ow69 : OW (.selects "com/example/shardpick/shardpick/NumberedNames" mn35 mn35) := gw 69 rfl
theorem ow70 : OW (.code mn35 prog_5_method_2_code (5 : Nat) (Option.some (Jvm.ClassFile.FieldType.object "java/lang/String"))) := gw 70 rfl
theorem ow71 : OW (.classLink "com/example/shardpick/shardpick/NumberedNames" (29 : Nat) "java/lang/StringBuilder") := gw 71 rfl
theorem ow72 : OW (.instantiable "java/lang/StringBuilder" (4 : Nat)) := gw 72 rfl
theorem ow73 : OW (.initialized "java/lang/StringBuilder") := gw 73 rfl
theorem ow74 : OW (.methodLink "com/example/shardpick/shardpick/NumberedNames" (31 : Nat) mn12) := gw 74 rfl
theorem ow75 : OW (.instanceMethod mn12) := gw 75 rfl
theorem ow76 : OW (.code mn12 jdk_67_method_2_code (2 : Nat) (Option.none : Option Jvm.ClassFile.FieldType)) := gw 76 rfl
theorem ow77 : OW (.methodLink "java/lang/StringBuilder" (1 : Nat) mn11) := gw 77 rfl
theorem ow78 : OW (.instanceMethod mn11) := gw 78 rfl
theorem ow81 : OW (.initialized "java/lang/AbstractStringBuilder") := gw 81 rfl
theorem ow82 : OW (.code mn11 jdk_68_method_2_code (2 : Nat) (Option.none : Option Jvm.ClassFile.FieldType)) := gw 82 rfl
theorem ow83 : OW (.methodLink "java/lang/AbstractStringBuilder" (3 : Nat) mn39) := gw 83 rfl
theorem ow84 : OW (.fieldLink "java/lang/AbstractStringBuilder" (18 : Nat) "java/lang/String" "COMPACT_STRINGS" "Z") := gw 84 rfl
theorem ow85 : OW (.fieldLink "java/lang/AbstractStringBuilder" (15 : Nat) "java/lang/AbstractStringBuilder" "value" "[B") := gw 85 rfl
theorem ow86 : OW (.lays "java/lang/StringBuilder" "java/lang/AbstractStringBuilder" "value" "[B") := gw 86 rfl
theorem ow87 : OW (.fieldLink "java/lang/AbstractStringBuilder" (22 : Nat) "java/lang/AbstractStringBuilder" "coder" "B") := gw 87 rfl
theorem ow88 : OW (.lays "java/lang/StringBuilder" "java/lang/AbstractStringBuilder" "coder" "B") := gw 88 rfl
theorem ow89 : OW (.methodLink "com/example/shardpick/shardpick/NumberedNames" (34 : Nat) mn18) := gw 89 rfl
theorem ow90 : OW (.declares mn18) := gw 90 rfl
theorem ow91 : OW (.instanceMethod mn18) := gw 91 rfl
theorem ow92 : OW (.selects "java/lang/StringBuilder" mn18 mn18) := gw 92 rfl
theorem ow93 : OW (.code mn18 jdk_67_method_7_code (2 : Nat) (Option.some (Jvm.ClassFile.FieldType.object "java/lang/StringBuilder"))) := gw 93 rfl
theorem ow94 : OW (.methodLink "java/lang/StringBuilder" (29 : Nat) mn17) := gw 94 rfl
theorem ow95 : OW (.instanceMethod mn17) := gw 95 rfl
theorem ow96 : OW (.superclass "java/lang/StringBuilder" "java/lang/AbstractStringBuilder") := gw 96 rfl
theorem ow98 : OW (.code mn17 jdk_68_method_22_code (3 : Nat) (Option.some (Jvm.ClassFile.FieldType.object "java/lang/AbstractStringBuilder"))) := gw 98 rfl
theorem ow99 : OW (.methodLink "java/lang/AbstractStringBuilder" (32 : Nat) mn1) := gw 99 rfl
theorem ow100 : OW (.fieldLink "java/lang/AbstractStringBuilder" (79 : Nat) "java/lang/AbstractStringBuilder" "count" "I") := gw 100 rfl
theorem ow101 : OW (.lays "java/lang/StringBuilder" "java/lang/AbstractStringBuilder" "count" "I") := gw 101 rfl
theorem ow102 : OW (.methodLink "java/lang/AbstractStringBuilder" (100 : Nat) mn13) := gw 102 rfl
theorem ow103 : OW (.instanceMethod mn13) := gw 103 rfl
theorem ow104 : OW (.privateMethod mn13) := gw 104 rfl
theorem ow105 : OW (.selects "java/lang/StringBuilder" mn13 mn13) := gw 105 rfl
theorem ow106 : OW (.code mn13 jdk_68_method_9_code (3 : Nat) (Option.none : Option Jvm.ClassFile.FieldType)) := gw 106 rfl
theorem ow107 : OW (.methodLink "java/lang/AbstractStringBuilder" (208 : Nat) mn16) := gw 107 rfl
theorem ow108 : OW (.instanceMethod mn16) := gw 108 rfl
theorem ow109 : OW (.privateMethod mn16) := gw 109 rfl
theorem ow110 : OW (.selects "java/lang/StringBuilder" mn16 mn16) := gw 110 rfl
theorem ow111 : OW (.code mn16 jdk_68_method_73_code (3 : Nat) (Option.none : Option Jvm.ClassFile.FieldType)) := gw 111 rfl
theorem ow112 : OW (.methodLink "java/lang/AbstractStringBuilder" (397 : Nat) mn14) := gw 112 rfl
theorem ow113 : OW (.instanceMethod mn14) := gw 113 rfl
theorem ow114 : OW (.privateMethod mn14) := gw 114 rfl
theorem ow115 : OW (.selects "java/lang/StringBuilder" mn14 mn14) := gw 115 rfl
theorem ow116 : OW (.code mn14 jdk_68_method_71_code (2 : Nat) (Option.none : Option Jvm.ClassFile.FieldType)) := gw 116 rfl
theorem ow117 : OW (.methodLink "java/lang/AbstractStringBuilder" (40 : Nat) mn0) := gw 117 rfl
theorem ow118 : OW (.methodLink "java/lang/AbstractStringBuilder" (399 : Nat) mn15) := gw 118 rfl
theorem ow119 : OW (.declares mn15) := gw 119 rfl
theorem ow120 : OW (.instanceMethod mn15) := gw 120 rfl
theorem ow121 : OW (.selects "java/lang/String" mn15 mn15) := gw 121 rfl
theorem ow122 : OW (.code mn15 jdk_42_method_147_code (4 : Nat) (Option.none : Option Jvm.ClassFile.FieldType)) := gw 122 rfl
theorem ow123 : OW (.methodLink "java/lang/String" (212 : Nat) mn40) := gw 123 rfl
theorem ow124 : OW (.static mn40) := gw 124 rfl
theorem ow125 : OW (.initialized "java/lang/System") := gw 125 rfl
theorem ow126 : OW (.native mn40) := gw 126 rfl
theorem ow127 : OW (.methodLink "com/example/shardpick/shardpick/NumberedNames" (41 : Nat) mn28) := gw 127 rfl
theorem ow128 : OW (.declares mn28) := gw 128 rfl
theorem ow129 : OW (.instanceMethod mn28) := gw 129 rfl
theorem ow130 : OW (.selects "java/lang/StringBuilder" mn28 mn28) := gw 130 rfl
theorem ow131 : OW (.code mn28 jdk_67_method_42_code (1 : Nat) (Option.some (Jvm.ClassFile.FieldType.object "java/lang/String"))) := gw 131 rfl
theorem ow132 : OW (.classLink "java/lang/StringBuilder" (18 : Nat) "java/lang/String") := gw 132 rfl
theorem ow133 : OW (.methodLink "java/lang/StringBuilder" (137 : Nat) mn27) := gw 133 rfl
theorem ow134 : OW (.instanceMethod mn27) := gw 134 rfl
theorem ow135 : OW (.code mn27 jdk_42_method_53_code (2 : Nat) (Option.none : Option Jvm.ClassFile.FieldType)) := gw 135 rfl
theorem ow136 : OW (.methodLink "java/lang/String" (489 : Nat) mn26) := gw 136 rfl
theorem ow137 : OW (.instanceMethod mn26) := gw 137 rfl
theorem ow138 : OW (.code mn26 jdk_42_method_150_code (5 : Nat) (Option.none : Option Jvm.ClassFile.FieldType)) := gw 138 rfl
theorem ow139 : OW (.methodLink "java/lang/String" (552 : Nat) mn22) := gw 139 rfl
theorem ow140 : OW (.declares mn22) := gw 140 rfl
theorem ow141 : OW (.instanceMethod mn22) := gw 141 rfl
theorem ow142 : OW (.selects "java/lang/StringBuilder" mn22 mn22) := gw 142 rfl
theorem ow143 : OW (.code mn22 jdk_68_method_64_code (1 : Nat) (Option.some (Jvm.ClassFile.FieldType.array Jvm.ClassFile.FieldType.byte))) := gw 143 rfl
theorem ow144 : OW (.methodLink "java/lang/String" (549 : Nat) mn23) := gw 144 rfl
theorem ow145 : OW (.declares mn23) := gw 145 rfl
theorem ow146 : OW (.instanceMethod mn23) := gw 146 rfl
theorem ow147 : OW (.selects "java/lang/StringBuilder" mn23 mn24) := gw 147 rfl
theorem ow148 : OW (.instanceMethod mn24) := gw 148 rfl
theorem ow149 : OW (.code mn24 jdk_67_method_93_code (1 : Nat) (Option.some Jvm.ClassFile.FieldType.int)) := gw 149 rfl
theorem ow150 : OW (.methodLink "java/lang/StringBuilder" (343 : Nat) mn23) := gw 150 rfl
theorem ow151 : OW (.code mn23 jdk_68_method_6_code (1 : Nat) (Option.some Jvm.ClassFile.FieldType.int)) := gw 151 rfl
theorem ow152 : OW (.methodLink "java/lang/String" (1047 : Nat) mn19) := gw 152 rfl
theorem ow153 : OW (.declares mn19) := gw 153 rfl
theorem ow154 : OW (.instanceMethod mn19) := gw 154 rfl
theorem ow155 : OW (.selects "java/lang/StringBuilder" mn19 mn19) := gw 155 rfl
theorem ow156 : OW (.code mn19 jdk_68_method_68_code (1 : Nat) (Option.some Jvm.ClassFile.FieldType.boolean)) := gw 156 rfl
theorem ow157 : OW (.methodLink "java/lang/String" (54 : Nat) mn25) := gw 157 rfl
theorem ow158 : OW (.static mn25) := gw 158 rfl
theorem ow159 : OW (.initialized "java/util/Arrays") := gw 159 rfl
theorem ow160 : OW (.code mn25 jdk_65_method_132_code (3 : Nat) (Option.some (Jvm.ClassFile.FieldType.array Jvm.ClassFile.FieldType.byte))) := gw 160 rfl
theorem ow161 : OW (.methodLink "java/util/Arrays" (310 : Nat) mn41) := gw 161 rfl
theorem ow162 : OW (.sameMethod "[B" "java/lang/Object" "clone" "()Ljava/lang/Object;") := gw 162 rfl
theorem ow164 : OW (.instanceMethod mn42) := gw 164 rfl
theorem ow165 : OW (.selects "[B" mn41 mn42) := gw 165 rfl
theorem ow166 : OW (.native mn42) := gw 166 rfl
theorem ow167 : OW (.castable "[B" "java/lang/Cloneable") := gw 167 rfl
theorem ow168 : OW (.classLink "java/util/Arrays" (311 : Nat) "[B") := gw 168 rfl
theorem ow170 : OW (.methodLink "com/example/shardpick/shardpick/NumberedNamesNamePinLaw" (32 : Nat) mn1) := gw 170 rfl
theorem ow171 : OW (.methodLink "com/example/shardpick/shardpick/NumberedNamesNamePinLaw" (36 : Nat) mn36) := gw 171 rfl
theorem ow172 : OW (.static mn36) := gw 172 rfl
theorem ow173 : OW (.code mn36 method_5_code (10 : Nat) (Option.some Jvm.ClassFile.FieldType.boolean)) := gw 173 rfl
theorem ow174 : OW (.methodLink "com/example/shardpick/shardpick/NumberedNamesNamePinLaw" (63 : Nat) mn6) := gw 174 rfl
theorem ow175 : OW (.declares mn6) := gw 175 rfl
theorem ow176 : OW (.instanceMethod mn6) := gw 176 rfl
theorem ow177 : OW (.selects "java/lang/String" mn6 mn6) := gw 177 rfl
theorem ow178 : OW (.code mn6 jdk_42_method_56_code (2 : Nat) (Option.some Jvm.ClassFile.FieldType.char)) := gw 178 rfl
theorem ow179 : OW (.methodLink "java/lang/String" (492 : Nat) mn5) := gw 179 rfl
theorem ow180 : OW (.declares mn5) := gw 180 rfl
theorem ow181 : OW (.instanceMethod mn5) := gw 181 rfl
theorem ow182 : OW (.selects "java/lang/String" mn5 mn5) := gw 182 rfl
theorem ow183 : OW (.code mn5 jdk_42_method_154_code (1 : Nat) (Option.some Jvm.ClassFile.FieldType.boolean)) := gw 183 rfl
theorem ow184 : OW (.methodLink "java/lang/String" (495 : Nat) mn4) := gw 184 rfl
theorem ow185 : OW (.static mn4) := gw 185 rfl
theorem ow186 : OW (.code mn4 jdk_43_method_2_code (2 : Nat) (Option.some Jvm.ClassFile.FieldType.char)) := gw 186 rfl
theorem ow187 : OW (.methodLink "java/lang/StringLatin1" (9 : Nat) mn3) := gw 187 rfl
theorem ow188 : OW (.static mn3) := gw 188 rfl
theorem ow189 : OW (.code mn3 jdk_42_method_155_code (2 : Nat) (Option.none : Option Jvm.ClassFile.FieldType)) := gw 189 rfl
theorem ow190 : OW (.fieldLink "java/lang/String" (1053 : Nat) "jdk/internal/util/Preconditions" "SIOOBE_FORMATTER" "Ljava/util/function/BiFunction;") := gw 190 rfl
theorem ow191 : OW (.initialized "jdk/internal/util/Preconditions") := gw 191 rfl
theorem ow192 : OW (.methodLink "java/lang/String" (1059 : Nat) mn2) := gw 192 rfl
theorem ow193 : OW (.static mn2) := gw 193 rfl
theorem ow194 : OW (.code mn2 jdk_41_method_11_code (3 : Nat) (Option.some Jvm.ClassFile.FieldType.int)) := gw 194 rfl
theorem ow195 : OW (.methodLink "com/example/shardpick/shardpick/NumberedNamesNamePinLaw" (67 : Nat) mn31) := gw 195 rfl
theorem ow196 : OW (.static mn31) := gw 196 rfl
theorem ow197 : OW (.code mn31 method_4_code (1 : Nat) (Option.some Jvm.ClassFile.FieldType.long)) := gw 197 rfl
theorem ow198 : OW (.constantLong "com/example/shardpick/shardpick/NumberedNamesNamePinLaw" (45 : Nat) (10 : Int64)) := gw 198 rfl
theorem ow199 : OW (.classLink "com/example/shardpick/shardpick/NumberedNamesNamePinLaw" (8 : Nat) "java/lang/String") := gw 199 rfl
theorem ow200 : OW (.arrayClass Jvm.ClassFile.FieldType.char) := gw 200 rfl
theorem ow201 : OW (.methodLink "com/example/shardpick/shardpick/NumberedNamesNamePinLaw" (10 : Nat) mn38) := gw 201 rfl
theorem ow202 : OW (.instanceMethod mn38) := gw 202 rfl
theorem ow203 : OW (.code mn38 jdk_42_method_3_code (2 : Nat) (Option.none : Option Jvm.ClassFile.FieldType)) := gw 203 rfl
theorem ow204 : OW (.methodLink "java/lang/String" (27 : Nat) mn37) := gw 204 rfl
theorem ow205 : OW (.instanceMethod mn37) := gw 205 rfl
theorem ow206 : OW (.code mn37 jdk_42_method_149_code (6 : Nat) (Option.none : Option Jvm.ClassFile.FieldType)) := gw 206 rfl
theorem ow217 : OW (.fieldLink "java/lang/Integer" (87 : Nat) "java/lang/Integer" "DigitTens" "[B") := gw 217 rfl
theorem ow218 : OW (.methodLink "com/example/shardpick/shardpick/NumberedNames" (38 : Nat) mn21) := gw 218 rfl
theorem ow219 : OW (.declares mn21) := gw 219 rfl
theorem ow220 : OW (.instanceMethod mn21) := gw 220 rfl
theorem ow221 : OW (.selects "java/lang/StringBuilder" mn21 mn21) := gw 221 rfl
theorem ow222 : OW (.code mn21 jdk_67_method_14_code (2 : Nat) (Option.some (Jvm.ClassFile.FieldType.object "java/lang/StringBuilder"))) := gw 222 rfl
theorem ow223 : OW (.methodLink "java/lang/StringBuilder" (50 : Nat) mn20) := gw 223 rfl
theorem ow224 : OW (.instanceMethod mn20) := gw 224 rfl
theorem ow226 : OW (.code mn20 jdk_68_method_31_code (2 : Nat) (Option.some (Jvm.ClassFile.FieldType.object "java/lang/AbstractStringBuilder"))) := gw 226 rfl
theorem ow227 : OW (.methodLink "java/lang/AbstractStringBuilder" (83 : Nat) mn19) := gw 227 rfl
theorem ow228 : OW (.methodLink "java/lang/AbstractStringBuilder" (191 : Nat) mn8) := gw 228 rfl
theorem ow229 : OW (.stringLink "java/lang/String" (7 : Nat) "") := gw 229 rfl
theorem ow232 : OW (.constant "com/example/shardpick/shardpick/NumberedNamesNamePinLaw" (40 : Nat) (100000 : Int32)) := gw 232 rfl
theorem ow233 : OW (.constant "com/example/shardpick/shardpick/NumberedNamesNamePinLaw" (41 : Nat) (1000000 : Int32)) := gw 233 rfl
theorem ow234 : OW (.constant "com/example/shardpick/shardpick/NumberedNamesNamePinLaw" (42 : Nat) (10000000 : Int32)) := gw 234 rfl
theorem ow235 : OW (.constant "com/example/shardpick/shardpick/NumberedNamesNamePinLaw" (43 : Nat) (100000000 : Int32)) := gw 235 rfl
theorem ow236 : OW (.constant "com/example/shardpick/shardpick/NumberedNamesNamePinLaw" (44 : Nat) (1000000000 : Int32)) := gw 236 rfl
theorem ow237 : OW (.constantLong "com/example/shardpick/shardpick/NumberedNamesNamePinLaw" (61 : Nat) (1000000000 : Int64)) := gw 237 rfl
theorem ow238 : OW (.constantLong "com/example/shardpick/shardpick/NumberedNamesNamePinLaw" (59 : Nat) (100000000 : Int64)) := gw 238 rfl
theorem ow239 : OW (.constantLong "com/example/shardpick/shardpick/NumberedNamesNamePinLaw" (57 : Nat) (10000000 : Int64)) := gw 239 rfl
theorem ow240 : OW (.constantLong "com/example/shardpick/shardpick/NumberedNamesNamePinLaw" (55 : Nat) (1000000 : Int64)) := gw 240 rfl
theorem ow241 : OW (.constantLong "com/example/shardpick/shardpick/NumberedNamesNamePinLaw" (53 : Nat) (100000 : Int64)) := gw 241 rfl
theorem ow242 : OW (.constantLong "com/example/shardpick/shardpick/NumberedNamesNamePinLaw" (51 : Nat) (10000 : Int64)) := gw 242 rfl
theorem ow243 : OW (.constantLong "com/example/shardpick/shardpick/NumberedNamesNamePinLaw" (49 : Nat) (1000 : Int64)) := gw 243 rfl
theorem ow244 : OW (.constantLong "com/example/shardpick/shardpick/NumberedNamesNamePinLaw" (47 : Nat) (100 : Int64)) := gw 244 rfl
abbrev cB0 := jdk_42_method_152_code
abbrev cB1 := jdk_42_method_54_code
abbrev cB2 := jdk_41_method_11_code
abbrev cB3 := jdk_42_method_155_code
abbrev cB4 := jdk_43_method_2_code
abbrev cB5 := jdk_42_method_154_code
abbrev cB6 := jdk_42_method_56_code
abbrev cB7 := jdk_42_method_151_code
abbrev cB8 := jdk_43_method_3_code
abbrev cB9 := jdk_43_method_46_code
abbrev cB10 := jdk_42_method_139_code
abbrev cB11 := jdk_68_method_2_code
abbrev cB12 := jdk_67_method_2_code
abbrev cB13 := jdk_68_method_9_code
abbrev cB14 := jdk_68_method_71_code
abbrev cB15 := jdk_42_method_147_code
abbrev cB16 := jdk_68_method_73_code
abbrev cB17 := jdk_68_method_22_code
abbrev cB18 := jdk_67_method_7_code
abbrev cB19 := jdk_68_method_68_code
abbrev cB20 := jdk_68_method_31_code
abbrev cB21 := jdk_67_method_14_code
abbrev cB22 := jdk_68_method_64_code
abbrev cB23 := jdk_68_method_6_code
abbrev cB24 := jdk_67_method_93_code
abbrev cB25 := jdk_65_method_132_code
abbrev cB26 := jdk_42_method_150_code
abbrev cB27 := jdk_42_method_53_code
abbrev cB28 := jdk_67_method_42_code
abbrev cB29 := method_3_code
abbrev cB30 := jdk_33_method_13_code
abbrev cB31 := method_4_code
abbrev cB32 := jdk_33_method_12_code
abbrev cB33 := jdk_33_method_10_code
abbrev cB34 := prog_5_method_1_code
abbrev cB35 := prog_5_method_2_code
abbrev cB36 := method_5_code
abbrev cB37 := jdk_42_method_149_code
abbrev cB38 := jdk_42_method_3_code
theorem o779 : De code 0 1 1 (.iload_n 0) := ⟨at_0, rfl⟩
theorem o780 : De code 1 2 3 (.ldc 7) := ⟨at_1, rfl⟩
theorem o781 : De code 3 1 4 .iand := ⟨at_3, rfl⟩
theorem o782 : De code 4 2 6 (.istore 4) := ⟨at_4, rfl⟩
theorem o783 : De code 6 2 8 (.iload 4) := ⟨at_6, rfl⟩
theorem o784 : De code 8 3 11 (.ifCond .ne 6) := ⟨at_8, rfl⟩
theorem o785 : De code 11 1 12 (.iconst 1) := ⟨at_11, rfl⟩
theorem o786 : De code 12 2 14 (.istore 4) := ⟨at_12, rfl⟩
theorem o701 : De code 14 1 15 (.iload_n 1) := ⟨at_14, rfl⟩
theorem o702 : De code 15 2 17 (.ldc 7) := ⟨at_15, rfl⟩
theorem o703 : De code 17 1 18 .iand := ⟨at_17, rfl⟩
theorem o704 : De code 18 2 20 (.iload 4) := ⟨at_18, rfl⟩
theorem o705 : De code 20 1 21 .irem := ⟨at_20, rfl⟩
theorem o706 : De code 21 2 23 (.istore 5) := ⟨at_21, rfl⟩
theorem o707 : De code 23 1 24 (.iload_n 3) := ⟨at_23, rfl⟩
theorem o708 : De code 24 1 25 (.iconst 3) := ⟨at_24, rfl⟩
theorem o709 : De code 25 1 26 .iand := ⟨at_25, rfl⟩
theorem o710 : De code 26 2 28 (.istore 6) := ⟨at_26, rfl⟩
theorem o711 : De code 28 1 29 (.iload_n 2) := ⟨at_28, rfl⟩
theorem o712 : De code 29 3 32 (.sipush 255) := ⟨at_29, rfl⟩
theorem o713 : De code 32 1 33 .iand := ⟨at_32, rfl⟩
theorem o714 : De code 33 1 34 .i2c := ⟨at_33, rfl⟩
theorem o715 : De code 34 2 36 (.istore 7) := ⟨at_34, rfl⟩
theorem o716 : De code 36 1 37 (.iload_n 2) := ⟨at_36, rfl⟩
theorem o717 : De code 37 2 39 (.bipush 8) := ⟨at_37, rfl⟩
theorem o718 : De code 39 1 40 .iushr := ⟨at_39, rfl⟩
theorem o719 : De code 40 3 43 (.sipush 255) := ⟨at_40, rfl⟩
theorem o720 : De code 43 1 44 .iand := ⟨at_43, rfl⟩
theorem o721 : De code 44 1 45 .i2c := ⟨at_44, rfl⟩
theorem o722 : De code 45 2 47 (.istore 8) := ⟨at_45, rfl⟩
theorem o723 : De code 47 1 48 (.iload_n 2) := ⟨at_47, rfl⟩
theorem o724 : De code 48 2 50 (.bipush 16) := ⟨at_48, rfl⟩
theorem o725 : De code 50 1 51 .iushr := ⟨at_50, rfl⟩
theorem o726 : De code 51 3 54 (.sipush 255) := ⟨at_51, rfl⟩
theorem o727 : De code 54 1 55 .iand := ⟨at_54, rfl⟩
theorem o728 : De code 55 1 56 .i2c := ⟨at_55, rfl⟩
theorem o729 : De code 56 2 58 (.istore 9) := ⟨at_56, rfl⟩
theorem o730 : De code 58 2 60 (.iload 6) := ⟨at_58, rfl⟩
theorem o731 : De code 60 3 63 (.ifCond .ne 18) := ⟨at_60, rfl⟩
theorem o732 : De code 63 3 66 (.new 8) := ⟨at_63, rfl⟩
theorem o733 : De code 66 1 67 .dup := ⟨at_66, rfl⟩
theorem o734 : De code 67 1 68 (.iconst 0) := ⟨at_67, rfl⟩
theorem o735 : De code 68 2 70 (.newarray .char) := ⟨at_68, rfl⟩
theorem o736 : De code 70 3 73 (.invokespecial 10) := ⟨at_70, rfl⟩
theorem o737 : De code 73 2 75 (.astore 10) := ⟨at_73, rfl⟩
theorem o738 : De code 78 2 80 (.iload 6) := ⟨at_78, rfl⟩
theorem o739 : De code 80 1 81 (.iconst 1) := ⟨at_80, rfl⟩
theorem o740 : De code 81 3 84 (.if_icmp .ne 13) := ⟨at_81, rfl⟩
theorem o741 : De code 84 2 86 (.iload 7) := ⟨at_84, rfl⟩
theorem o742 : De code 86 3 89 (.invokestatic 13) := ⟨at_86, rfl⟩
theorem o743 : De code 89 2 91 (.astore 10) := ⟨at_89, rfl⟩
theorem o744 : De code 94 2 96 (.iload 6) := ⟨at_94, rfl⟩
theorem o745 : De code 96 1 97 (.iconst 2) := ⟨at_96, rfl⟩
theorem o746 : De code 97 3 100 (.if_icmp .ne 28) := ⟨at_97, rfl⟩
theorem o747 : De code 100 3 103 (.new 8) := ⟨at_100, rfl⟩
theorem o748 : De code 103 1 104 .dup := ⟨at_103, rfl⟩
theorem o749 : De code 104 1 105 (.iconst 2) := ⟨at_104, rfl⟩
theorem o750 : De code 105 2 107 (.newarray .char) := ⟨at_105, rfl⟩
theorem o751 : De code 107 1 108 .dup := ⟨at_107, rfl⟩
theorem o752 : De code 108 1 109 (.iconst 0) := ⟨at_108, rfl⟩
theorem o753 : De code 109 2 111 (.iload 7) := ⟨at_109, rfl⟩
theorem o754 : De code 111 1 112 .castore := ⟨at_111, rfl⟩
theorem o755 : De code 112 1 113 .dup := ⟨at_112, rfl⟩
theorem o756 : De code 113 1 114 (.iconst 1) := ⟨at_113, rfl⟩
theorem o757 : De code 114 2 116 (.iload 8) := ⟨at_114, rfl⟩
theorem o758 : De code 116 1 117 .castore := ⟨at_116, rfl⟩
theorem o759 : De code 117 3 120 (.invokespecial 10) := ⟨at_117, rfl⟩
theorem o760 : De code 120 2 122 (.astore 10) := ⟨at_120, rfl⟩
theorem o761 : De code 125 3 128 (.new 8) := ⟨at_125, rfl⟩
theorem o762 : De code 128 1 129 .dup := ⟨at_128, rfl⟩
theorem o763 : De code 129 1 130 (.iconst 3) := ⟨at_129, rfl⟩
theorem o764 : De code 130 2 132 (.newarray .char) := ⟨at_130, rfl⟩
theorem o765 : De code 132 1 133 .dup := ⟨at_132, rfl⟩
theorem o766 : De code 133 1 134 (.iconst 0) := ⟨at_133, rfl⟩
theorem o767 : De code 134 2 136 (.iload 7) := ⟨at_134, rfl⟩
theorem o768 : De code 136 1 137 .castore := ⟨at_136, rfl⟩
theorem o769 : De code 137 1 138 .dup := ⟨at_137, rfl⟩
theorem o770 : De code 138 1 139 (.iconst 1) := ⟨at_138, rfl⟩
theorem o771 : De code 139 2 141 (.iload 8) := ⟨at_139, rfl⟩
theorem o772 : De code 141 1 142 .castore := ⟨at_141, rfl⟩
theorem o773 : De code 142 1 143 .dup := ⟨at_142, rfl⟩
theorem o774 : De code 143 1 144 (.iconst 2) := ⟨at_143, rfl⟩
theorem o775 : De code 144 2 146 (.iload 9) := ⟨at_144, rfl⟩
theorem o776 : De code 146 1 147 .castore := ⟨at_146, rfl⟩
theorem o777 : De code 147 3 150 (.invokespecial 10) := ⟨at_147, rfl⟩
theorem o778 : De code 150 2 152 (.astore 10) := ⟨at_150, rfl⟩
theorem o577 : De code 152 2 154 (.iload 4) := ⟨at_152, rfl⟩
theorem o578 : De code 154 1 155 (.iconst 1) := ⟨at_154, rfl⟩
theorem o579 : De code 155 1 156 .isub := ⟨at_155, rfl⟩
theorem o580 : De code 156 3 159 (.invokestatic 17) := ⟨at_156, rfl⟩
theorem o581 : De code 159 2 161 (.istore 11) := ⟨at_159, rfl⟩
theorem o582 : De code 161 3 164 (.new 23) := ⟨at_161, rfl⟩
theorem o583 : De code 164 1 165 .dup := ⟨at_164, rfl⟩
theorem o584 : De code 165 2 167 (.aload 10) := ⟨at_165, rfl⟩
theorem o585 : De code 167 2 169 (.iload 4) := ⟨at_167, rfl⟩
theorem o586 : De code 169 3 172 (.invokespecial 25) := ⟨at_169, rfl⟩
theorem o587 : De code 172 2 174 (.iload 5) := ⟨at_172, rfl⟩
theorem o588 : De code 174 3 177 (.invokevirtual 28) := ⟨at_174, rfl⟩
theorem o589 : De code 177 2 179 (.astore 12) := ⟨at_177, rfl⟩
theorem o590 : De code 179 2 181 (.aload 12) := ⟨at_179, rfl⟩
theorem o591 : De code 181 3 184 (.invokevirtual 32) := ⟨at_181, rfl⟩
theorem o592 : De code 184 2 186 (.iload 6) := ⟨at_184, rfl⟩
theorem o593 : De code 186 2 188 (.iload 11) := ⟨at_186, rfl⟩
theorem o594 : De code 188 1 189 .iadd := ⟨at_188, rfl⟩
theorem o595 : De code 194 2 196 (.aload 12) := ⟨at_194, rfl⟩
theorem o596 : De code 196 1 197 (.iconst 0) := ⟨at_196, rfl⟩
theorem o597 : De code 197 2 199 (.aload 10) := ⟨at_197, rfl⟩
theorem o598 : De code 199 2 201 (.iload 6) := ⟨at_199, rfl⟩
theorem o599 : De code 201 2 203 (.iload 11) := ⟨at_201, rfl⟩
theorem o600 : De code 203 2 205 (.iload 5) := ⟨at_203, rfl⟩
theorem o601 : De code 205 3 208 (.invokestatic 36) := ⟨at_205, rfl⟩
theorem o602 : De code 208 3 211 (.ifCond .eq 218) := ⟨at_208, rfl⟩
theorem o603 : De code 211 2 213 (.aload 12) := ⟨at_211, rfl⟩
theorem o604 : De code 213 1 214 (.iconst 1) := ⟨at_213, rfl⟩
theorem o605 : De code 214 2 216 (.aload 10) := ⟨at_214, rfl⟩
theorem o606 : De code 216 2 218 (.iload 6) := ⟨at_216, rfl⟩
theorem o607 : De code 218 2 220 (.iload 11) := ⟨at_218, rfl⟩
theorem o608 : De code 220 2 222 (.iload 5) := ⟨at_220, rfl⟩
theorem o609 : De code 222 3 225 (.invokestatic 36) := ⟨at_222, rfl⟩
theorem o610 : De code 225 3 228 (.ifCond .eq 201) := ⟨at_225, rfl⟩
theorem o611 : De code 228 2 230 (.aload 12) := ⟨at_228, rfl⟩
theorem o612 : De code 230 1 231 (.iconst 2) := ⟨at_230, rfl⟩
theorem o613 : De code 231 2 233 (.aload 10) := ⟨at_231, rfl⟩
theorem o614 : De code 233 2 235 (.iload 6) := ⟨at_233, rfl⟩
theorem o615 : De code 235 2 237 (.iload 11) := ⟨at_235, rfl⟩
theorem o616 : De code 237 2 239 (.iload 5) := ⟨at_237, rfl⟩
theorem o617 : De code 239 3 242 (.invokestatic 36) := ⟨at_239, rfl⟩
theorem o618 : De code 242 3 245 (.ifCond .eq 184) := ⟨at_242, rfl⟩
theorem o619 : De code 245 2 247 (.aload 12) := ⟨at_245, rfl⟩
theorem o620 : De code 247 1 248 (.iconst 3) := ⟨at_247, rfl⟩
theorem o621 : De code 248 2 250 (.aload 10) := ⟨at_248, rfl⟩
theorem o622 : De code 250 2 252 (.iload 6) := ⟨at_250, rfl⟩
theorem o623 : De code 252 2 254 (.iload 11) := ⟨at_252, rfl⟩
theorem o624 : De code 254 2 256 (.iload 5) := ⟨at_254, rfl⟩
theorem o625 : De code 256 3 259 (.invokestatic 36) := ⟨at_256, rfl⟩
theorem o626 : De code 259 3 262 (.ifCond .eq 167) := ⟨at_259, rfl⟩
theorem o627 : De code 262 2 264 (.aload 12) := ⟨at_262, rfl⟩
theorem o628 : De code 264 1 265 (.iconst 4) := ⟨at_264, rfl⟩
theorem o629 : De code 265 2 267 (.aload 10) := ⟨at_265, rfl⟩
theorem o630 : De code 267 2 269 (.iload 6) := ⟨at_267, rfl⟩
theorem o631 : De code 269 2 271 (.iload 11) := ⟨at_269, rfl⟩
theorem o632 : De code 271 2 273 (.iload 5) := ⟨at_271, rfl⟩
theorem o633 : De code 273 3 276 (.invokestatic 36) := ⟨at_273, rfl⟩
theorem o634 : De code 276 3 279 (.ifCond .eq 150) := ⟨at_276, rfl⟩
theorem o635 : De code 279 2 281 (.aload 12) := ⟨at_279, rfl⟩
theorem o636 : De code 281 1 282 (.iconst 5) := ⟨at_281, rfl⟩
theorem o637 : De code 282 2 284 (.aload 10) := ⟨at_282, rfl⟩
theorem o638 : De code 284 2 286 (.iload 6) := ⟨at_284, rfl⟩
theorem o639 : De code 286 2 288 (.iload 11) := ⟨at_286, rfl⟩
theorem o640 : De code 288 2 290 (.iload 5) := ⟨at_288, rfl⟩
theorem o641 : De code 290 3 293 (.invokestatic 36) := ⟨at_290, rfl⟩
theorem o642 : De code 293 3 296 (.ifCond .eq 133) := ⟨at_293, rfl⟩
theorem o643 : De code 296 2 298 (.aload 12) := ⟨at_296, rfl⟩
theorem o644 : De code 298 2 300 (.bipush 6) := ⟨at_298, rfl⟩
theorem o645 : De code 300 2 302 (.aload 10) := ⟨at_300, rfl⟩
theorem o646 : De code 302 2 304 (.iload 6) := ⟨at_302, rfl⟩
theorem o647 : De code 304 2 306 (.iload 11) := ⟨at_304, rfl⟩
theorem o648 : De code 306 2 308 (.iload 5) := ⟨at_306, rfl⟩
theorem o649 : De code 308 3 311 (.invokestatic 36) := ⟨at_308, rfl⟩
theorem o650 : De code 311 3 314 (.ifCond .eq 115) := ⟨at_311, rfl⟩
theorem o651 : De code 314 2 316 (.aload 12) := ⟨at_314, rfl⟩
theorem o652 : De code 316 2 318 (.bipush 7) := ⟨at_316, rfl⟩
theorem o653 : De code 318 2 320 (.aload 10) := ⟨at_318, rfl⟩
theorem o654 : De code 320 2 322 (.iload 6) := ⟨at_320, rfl⟩
theorem o655 : De code 322 2 324 (.iload 11) := ⟨at_322, rfl⟩
theorem o656 : De code 324 2 326 (.iload 5) := ⟨at_324, rfl⟩
theorem o657 : De code 326 3 329 (.invokestatic 36) := ⟨at_326, rfl⟩
theorem o658 : De code 329 3 332 (.ifCond .eq 97) := ⟨at_329, rfl⟩
theorem o659 : De code 332 2 334 (.aload 12) := ⟨at_332, rfl⟩
theorem o660 : De code 334 2 336 (.bipush 8) := ⟨at_334, rfl⟩
theorem o661 : De code 336 2 338 (.aload 10) := ⟨at_336, rfl⟩
theorem o662 : De code 338 2 340 (.iload 6) := ⟨at_338, rfl⟩
theorem o663 : De code 340 2 342 (.iload 11) := ⟨at_340, rfl⟩
theorem o664 : De code 342 2 344 (.iload 5) := ⟨at_342, rfl⟩
theorem o665 : De code 344 3 347 (.invokestatic 36) := ⟨at_344, rfl⟩
theorem o666 : De code 347 3 350 (.ifCond .eq 79) := ⟨at_347, rfl⟩
theorem o667 : De code 350 2 352 (.aload 12) := ⟨at_350, rfl⟩
theorem o668 : De code 352 2 354 (.bipush 9) := ⟨at_352, rfl⟩
theorem o669 : De code 354 2 356 (.aload 10) := ⟨at_354, rfl⟩
theorem o670 : De code 356 2 358 (.iload 6) := ⟨at_356, rfl⟩
theorem o671 : De code 358 2 360 (.iload 11) := ⟨at_358, rfl⟩
theorem o672 : De code 360 2 362 (.iload 5) := ⟨at_360, rfl⟩
theorem o673 : De code 362 3 365 (.invokestatic 36) := ⟨at_362, rfl⟩
theorem o674 : De code 365 3 368 (.ifCond .eq 61) := ⟨at_365, rfl⟩
theorem o675 : De code 368 2 370 (.aload 12) := ⟨at_368, rfl⟩
theorem o676 : De code 370 2 372 (.bipush 10) := ⟨at_370, rfl⟩
theorem o677 : De code 372 2 374 (.aload 10) := ⟨at_372, rfl⟩
theorem o678 : De code 374 2 376 (.iload 6) := ⟨at_374, rfl⟩
theorem o679 : De code 376 2 378 (.iload 11) := ⟨at_376, rfl⟩
theorem o680 : De code 378 2 380 (.iload 5) := ⟨at_378, rfl⟩
theorem o681 : De code 380 3 383 (.invokestatic 36) := ⟨at_380, rfl⟩
theorem o682 : De code 383 3 386 (.ifCond .eq 43) := ⟨at_383, rfl⟩
theorem o683 : De code 386 2 388 (.aload 12) := ⟨at_386, rfl⟩
theorem o684 : De code 388 2 390 (.bipush 11) := ⟨at_388, rfl⟩
theorem o685 : De code 390 2 392 (.aload 10) := ⟨at_390, rfl⟩
theorem o686 : De code 392 2 394 (.iload 6) := ⟨at_392, rfl⟩
theorem o687 : De code 394 2 396 (.iload 11) := ⟨at_394, rfl⟩
theorem o688 : De code 396 2 398 (.iload 5) := ⟨at_396, rfl⟩
theorem o689 : De code 398 3 401 (.invokestatic 36) := ⟨at_398, rfl⟩
theorem o690 : De code 401 3 404 (.ifCond .eq 25) := ⟨at_401, rfl⟩
theorem o691 : De code 404 2 406 (.aload 12) := ⟨at_404, rfl⟩
theorem o692 : De code 406 2 408 (.bipush 12) := ⟨at_406, rfl⟩
theorem o693 : De code 408 2 410 (.aload 10) := ⟨at_408, rfl⟩
theorem o694 : De code 410 2 412 (.iload 6) := ⟨at_410, rfl⟩
theorem o695 : De code 412 2 414 (.iload 11) := ⟨at_412, rfl⟩
theorem o696 : De code 414 2 416 (.iload 5) := ⟨at_414, rfl⟩
theorem o697 : De code 416 3 419 (.invokestatic 36) := ⟨at_416, rfl⟩
theorem o698 : De code 419 3 422 (.ifCond .eq 7) := ⟨at_419, rfl⟩
theorem o699 : De code 422 1 423 (.iconst 1) := ⟨at_422, rfl⟩
theorem o700 : De code 427 1 428 .ireturn := ⟨at_427, rfl⟩
theorem o448 : De cB33 0 1 1 (.iload_n 0) := by decide +kernel
theorem o449 : De cB33 1 3 4 (.invokestatic 72) := by decide +kernel
theorem o450 : De cB33 4 1 5 (.istore_n 1) := by decide +kernel
theorem o451 : De cB33 5 3 8 (.getstatic 13) := by decide +kernel
theorem o452 : De cB33 8 3 11 (.ifCond .eq 24) := by decide +kernel
theorem o453 : De cB33 11 1 12 (.iload_n 1) := by decide +kernel
theorem o454 : De cB33 12 2 14 (.newarray .byte) := by decide +kernel
theorem o455 : De cB33 14 1 15 (.astore_n 2) := by decide +kernel
theorem o456 : De cB33 15 1 16 (.iload_n 0) := by decide +kernel
theorem o457 : De cB33 16 1 17 (.iload_n 1) := by decide +kernel
theorem o458 : De cB33 17 1 18 (.aload_n 2) := by decide +kernel
theorem o459 : De cB33 18 3 21 (.invokestatic 75) := by decide +kernel
theorem o460 : De cB33 21 1 22 .pop := by decide +kernel
theorem o461 : De cB33 22 3 25 (.new 5) := by decide +kernel
theorem o462 : De cB33 25 1 26 .dup := by decide +kernel
theorem o463 : De cB33 26 1 27 (.aload_n 2) := by decide +kernel
theorem o464 : De cB33 27 1 28 (.iconst 0) := by decide +kernel
theorem o465 : De cB33 28 3 31 (.invokespecial 65) := by decide +kernel
theorem o466 : De cB33 31 1 32 .areturn := by decide +kernel
theorem o387 : De cB32 0 1 1 (.iload_n 1) := by decide +kernel
theorem o388 : De cB32 1 2 3 (.istore 5) := by decide +kernel
theorem o389 : De cB32 3 1 4 (.iload_n 0) := by decide +kernel
theorem o390 : De cB32 11 1 12 (.iconst 0) := by decide +kernel
theorem o391 : De cB32 12 2 14 (.istore 6) := by decide +kernel
theorem o392 : De cB32 14 2 16 (.iload 6) := by decide +kernel
theorem o393 : De cB32 16 3 19 (.ifCond .ne 6) := by decide +kernel
theorem o394 : De cB32 19 1 20 (.iload_n 0) := by decide +kernel
theorem o395 : De cB32 20 1 21 .ineg := by decide +kernel
theorem o396 : De cB32 21 1 22 (.istore_n 0) := by decide +kernel
theorem o397 : De cB32 22 1 23 (.iload_n 0) := by decide +kernel
theorem o398 : De cB32 23 2 25 (.bipush (-100)) := by decide +kernel
theorem o421 : De cB32 25 3 28 (.if_icmp .gt 47) := by decide +kernel
theorem o422 : De cB32 28 1 29 (.iload_n 0) := by decide +kernel
theorem o423 : De cB32 29 2 31 (.bipush 100) := by decide +kernel
theorem o424 : De cB32 31 1 32 .idiv := by decide +kernel
theorem o425 : De cB32 32 1 33 (.istore_n 3) := by decide +kernel
theorem o426 : De cB32 33 1 34 (.iload_n 3) := by decide +kernel
theorem o427 : De cB32 34 2 36 (.bipush 100) := by decide +kernel
theorem o428 : De cB32 36 1 37 .imul := by decide +kernel
theorem o429 : De cB32 37 1 38 (.iload_n 0) := by decide +kernel
theorem o430 : De cB32 38 1 39 .isub := by decide +kernel
theorem o431 : De cB32 39 2 41 (.istore 4) := by decide +kernel
theorem o432 : De cB32 41 1 42 (.iload_n 3) := by decide +kernel
theorem o433 : De cB32 42 1 43 (.istore_n 0) := by decide +kernel
theorem o434 : De cB32 43 1 44 (.aload_n 2) := by decide +kernel
theorem o435 : De cB32 44 3 47 (.iinc 5 (-1)) := by decide +kernel
theorem o436 : De cB32 47 2 49 (.iload 5) := by decide +kernel
theorem o437 : De cB32 49 3 52 (.getstatic 83) := by decide +kernel
theorem o438 : De cB32 52 2 54 (.iload 4) := by decide +kernel
theorem o439 : De cB32 54 1 55 .baload := by decide +kernel
theorem o440 : De cB32 55 1 56 .bastore := by decide +kernel
theorem o441 : De cB32 56 1 57 (.aload_n 2) := by decide +kernel
theorem o442 : De cB32 57 3 60 (.iinc 5 (-1)) := by decide +kernel
theorem o443 : De cB32 60 2 62 (.iload 5) := by decide +kernel
theorem o444 : De cB32 62 3 65 (.getstatic 87) := by decide +kernel
theorem o445 : De cB32 65 2 67 (.iload 4) := by decide +kernel
theorem o446 : De cB32 67 1 68 .baload := by decide +kernel
theorem o447 : De cB32 68 1 69 .bastore := by decide +kernel
theorem o399 : De cB32 72 1 73 (.aload_n 2) := by decide +kernel
theorem o400 : De cB32 73 3 76 (.iinc 5 (-1)) := by decide +kernel
theorem o401 : De cB32 76 2 78 (.iload 5) := by decide +kernel
theorem o402 : De cB32 78 3 81 (.getstatic 83) := by decide +kernel
theorem o403 : De cB32 81 1 82 (.iload_n 0) := by decide +kernel
theorem o404 : De cB32 82 1 83 .ineg := by decide +kernel
theorem o405 : De cB32 83 1 84 .baload := by decide +kernel
theorem o406 : De cB32 84 1 85 .bastore := by decide +kernel
theorem o407 : De cB32 85 1 86 (.iload_n 0) := by decide +kernel
theorem o408 : De cB32 86 2 88 (.bipush (-9)) := by decide +kernel
theorem o412 : De cB32 88 3 91 (.if_icmp .ge 16) := by decide +kernel
theorem o413 : De cB32 91 1 92 (.aload_n 2) := by decide +kernel
theorem o414 : De cB32 92 3 95 (.iinc 5 (-1)) := by decide +kernel
theorem o415 : De cB32 95 2 97 (.iload 5) := by decide +kernel
theorem o416 : De cB32 97 3 100 (.getstatic 87) := by decide +kernel
theorem o417 : De cB32 100 1 101 (.iload_n 0) := by decide +kernel
theorem o418 : De cB32 101 1 102 .ineg := by decide +kernel
theorem o419 : De cB32 102 1 103 .baload := by decide +kernel
theorem o420 : De cB32 103 1 104 .bastore := by decide +kernel
theorem o409 : De cB32 104 2 106 (.iload 6) := by decide +kernel
theorem o410 : De cB32 118 2 120 (.iload 5) := by decide +kernel
theorem o411 : De cB32 120 1 121 .ireturn := by decide +kernel
theorem o309 : De cB30 0 1 1 (.iconst 1) := by decide +kernel
theorem o310 : De cB30 1 1 2 (.istore_n 1) := by decide +kernel
theorem o311 : De cB30 2 1 3 (.iload_n 0) := by decide +kernel
theorem o312 : De cB30 3 3 6 (.ifCond .lt 8) := by decide +kernel
theorem o313 : De cB30 6 1 7 (.iconst 0) := by decide +kernel
theorem o314 : De cB30 7 1 8 (.istore_n 1) := by decide +kernel
theorem o315 : De cB30 8 1 9 (.iload_n 0) := by decide +kernel
theorem o316 : De cB30 9 1 10 .ineg := by decide +kernel
theorem o317 : De cB30 10 1 11 (.istore_n 0) := by decide +kernel
theorem o318 : De cB30 11 2 13 (.bipush (-10)) := by decide +kernel
theorem o319 : De cB30 13 1 14 (.istore_n 2) := by decide +kernel
theorem o320 : De cB30 14 1 15 (.iconst 1) := by decide +kernel
theorem o321 : De cB30 15 1 16 (.istore_n 3) := by decide +kernel
theorem o322 : De cB30 16 1 17 (.iload_n 3) := by decide +kernel
theorem o323 : De cB30 17 2 19 (.bipush 10) := by decide +kernel
theorem o324 : De cB30 19 3 22 (.if_icmp .ge 23) := by decide +kernel
theorem o325 : De cB30 22 1 23 (.iload_n 0) := by decide +kernel
theorem o326 : De cB30 23 1 24 (.iload_n 2) := by decide +kernel
theorem o327 : De cB30 24 3 27 (.if_icmp .le 7) := by decide +kernel
theorem o328 : De cB30 27 1 28 (.iload_n 3) := by decide +kernel
theorem o329 : De cB30 28 1 29 (.iload_n 1) := by decide +kernel
theorem o330 : De cB30 29 1 30 .iadd := by decide +kernel
theorem o331 : De cB30 30 1 31 .ireturn := by decide +kernel
theorem o332 : De cB30 31 2 33 (.bipush 10) := by decide +kernel
theorem o333 : De cB30 33 1 34 (.iload_n 2) := by decide +kernel
theorem o334 : De cB30 34 1 35 .imul := by decide +kernel
theorem o335 : De cB30 35 1 36 (.istore_n 2) := by decide +kernel
theorem o336 : De cB30 36 3 39 (.iinc 3 1) := by decide +kernel
theorem o337 : De cB30 42 2 44 (.bipush 10) := by decide +kernel
theorem o338 : De cB30 44 1 45 (.iload_n 1) := by decide +kernel
theorem o339 : De cB30 45 1 46 .iadd := by decide +kernel
theorem o340 : De cB30 46 1 47 .ireturn := by decide +kernel
theorem o12 : De cB2 0 1 1 (.iload_n 0) := by decide +kernel
theorem o13 : De cB2 1 3 4 (.ifCond .lt 8) := by decide +kernel
theorem o14 : De cB2 4 1 5 (.iload_n 0) := by decide +kernel
theorem o15 : De cB2 5 1 6 (.iload_n 1) := by decide +kernel
theorem o16 : De cB2 16 1 17 (.iload_n 0) := by decide +kernel
theorem o17 : De cB2 17 1 18 .ireturn := by decide +kernel
theorem o72 : De cB10 0 3 3 (.getstatic 38) := by decide +kernel
theorem o73 : De cB10 3 3 6 (.ifCond .eq 23) := by decide +kernel
theorem o74 : De cB10 6 1 7 (.iload_n 0) := by decide +kernel
theorem o75 : De cB10 7 3 10 (.invokestatic 1015) := by decide +kernel
theorem o76 : De cB10 10 3 13 (.ifCond .eq 16) := by decide +kernel
theorem o77 : De cB10 13 3 16 (.new 10) := by decide +kernel
theorem o78 : De cB10 16 1 17 .dup := by decide +kernel
theorem o79 : De cB10 17 1 18 (.iload_n 0) := by decide +kernel
theorem o80 : De cB10 18 3 21 (.invokestatic 1018) := by decide +kernel
theorem o81 : De cB10 21 1 22 (.iconst 0) := by decide +kernel
theorem o82 : De cB10 22 3 25 (.invokespecial 209) := by decide +kernel
theorem o83 : De cB10 25 1 26 .areturn := by decide +kernel
theorem o118 : De cB15 0 1 1 (.aload_n 0) := by decide +kernel
theorem o119 : De cB15 1 3 4 (.invokevirtual 335) := by decide +kernel
theorem o120 : De cB15 4 1 5 (.iload_n 3) := by decide +kernel
theorem o121 : De cB15 5 3 8 (.if_icmp .ne 23) := by decide +kernel
theorem o122 : De cB15 8 1 9 (.aload_n 0) := by decide +kernel
theorem o123 : De cB15 9 3 12 (.getfield 9) := by decide +kernel
theorem o124 : De cB15 12 1 13 (.iconst 0) := by decide +kernel
theorem o125 : De cB15 13 1 14 (.aload_n 1) := by decide +kernel
theorem o126 : De cB15 14 1 15 (.iload_n 2) := by decide +kernel
theorem o127 : De cB15 15 1 16 (.iload_n 3) := by decide +kernel
theorem o128 : De cB15 16 1 17 .ishl := by decide +kernel
theorem o129 : De cB15 17 1 18 (.aload_n 0) := by decide +kernel
theorem o130 : De cB15 18 3 21 (.getfield 9) := by decide +kernel
theorem o131 : De cB15 21 1 22 .arraylength := by decide +kernel
theorem o132 : De cB15 22 3 25 (.invokestatic 212) := by decide +kernel
theorem o133 : De cB15 43 1 44 .return_ := by decide +kernel
theorem o556 : De cB37 0 1 1 (.aload_n 0) := by decide +kernel
theorem o557 : De cB37 1 3 4 (.invokespecial 1) := by decide +kernel
theorem o558 : De cB37 4 1 5 (.iload_n 3) := by decide +kernel
theorem o559 : De cB37 5 3 8 (.ifCond .ne 22) := by decide +kernel
theorem o560 : De cB37 8 1 9 (.aload_n 0) := by decide +kernel
theorem o561 : De cB37 9 2 11 (.ldc 7) := by decide +kernel
theorem o562 : De cB37 11 3 14 (.getfield 9) := by decide +kernel
theorem o563 : De cB37 14 3 17 (.putfield 9) := by decide +kernel
theorem o564 : De cB37 17 1 18 (.aload_n 0) := by decide +kernel
theorem o565 : De cB37 18 2 20 (.ldc 7) := by decide +kernel
theorem o566 : De cB37 20 3 23 (.getfield 15) := by decide +kernel
theorem o567 : De cB37 23 3 26 (.putfield 15) := by decide +kernel
theorem o568 : De cB37 26 1 27 .return_ := by decide +kernel
theorem o231 : De cB26 0 1 1 (.aload_n 0) := by decide +kernel
theorem o232 : De cB26 1 3 4 (.invokespecial 1) := by decide +kernel
theorem o233 : De cB26 4 1 5 (.aload_n 1) := by decide +kernel
theorem o234 : De cB26 5 3 8 (.invokevirtual 552) := by decide +kernel
theorem o235 : De cB26 8 1 9 (.astore_n 3) := by decide +kernel
theorem o236 : De cB26 9 1 10 (.aload_n 1) := by decide +kernel
theorem o237 : De cB26 10 3 13 (.invokevirtual 549) := by decide +kernel
theorem o238 : De cB26 13 2 15 (.istore 4) := by decide +kernel
theorem o239 : De cB26 15 1 16 (.aload_n 1) := by decide +kernel
theorem o240 : De cB26 16 3 19 (.invokevirtual 1047) := by decide +kernel
theorem o241 : De cB26 19 3 22 (.ifCond .eq 22) := by decide +kernel
theorem o242 : De cB26 22 1 23 (.aload_n 0) := by decide +kernel
theorem o243 : De cB26 23 1 24 (.iconst 0) := by decide +kernel
theorem o244 : De cB26 24 3 27 (.putfield 15) := by decide +kernel
theorem o245 : De cB26 27 1 28 (.aload_n 0) := by decide +kernel
theorem o246 : De cB26 28 1 29 (.aload_n 3) := by decide +kernel
theorem o247 : De cB26 29 1 30 (.iconst 0) := by decide +kernel
theorem o248 : De cB26 30 2 32 (.iload 4) := by decide +kernel
theorem o249 : De cB26 32 3 35 (.invokestatic 54) := by decide +kernel
theorem o250 : De cB26 35 3 38 (.putfield 9) := by decide +kernel
theorem o251 : De cB26 97 1 98 .return_ := by decide +kernel
theorem o50 : De cB7 0 1 1 (.aload_n 0) := by decide +kernel
theorem o51 : De cB7 1 3 4 (.invokespecial 1) := by decide +kernel
theorem o52 : De cB7 4 1 5 (.aload_n 0) := by decide +kernel
theorem o53 : De cB7 5 1 6 (.aload_n 1) := by decide +kernel
theorem o54 : De cB7 6 3 9 (.putfield 9) := by decide +kernel
theorem o55 : De cB7 9 1 10 (.aload_n 0) := by decide +kernel
theorem o56 : De cB7 10 1 11 (.iload_n 2) := by decide +kernel
theorem o57 : De cB7 11 3 14 (.putfield 15) := by decide +kernel
theorem o58 : De cB7 14 1 15 .return_ := by decide +kernel
theorem o0 : De cB0 0 3 3 (.getstatic 38) := by decide +kernel
theorem o1 : De cB0 3 3 6 (.ifCond .eq 10) := by decide +kernel
theorem o2 : De cB0 6 1 7 (.aload_n 0) := by decide +kernel
theorem o3 : De cB0 7 3 10 (.getfield 15) := by decide +kernel
theorem o4 : De cB0 14 1 15 .ireturn := by decide +kernel
theorem o35 : De cB5 0 3 3 (.getstatic 38) := by decide +kernel
theorem o36 : De cB5 3 3 6 (.ifCond .eq 14) := by decide +kernel
theorem o37 : De cB5 6 1 7 (.aload_n 0) := by decide +kernel
theorem o38 : De cB5 7 3 10 (.getfield 15) := by decide +kernel
theorem o39 : De cB5 10 3 13 (.ifCond .ne 7) := by decide +kernel
theorem o40 : De cB5 13 1 14 (.iconst 1) := by decide +kernel
theorem o41 : De cB5 18 1 19 .ireturn := by decide +kernel
theorem o18 : De cB3 0 1 1 (.iload_n 0) := by decide +kernel
theorem o19 : De cB3 1 1 2 (.iload_n 1) := by decide +kernel
theorem o20 : De cB3 2 3 5 (.getstatic 1053) := by decide +kernel
theorem o21 : De cB3 5 3 8 (.invokestatic 1059) := by decide +kernel
theorem o22 : De cB3 8 1 9 .pop := by decide +kernel
theorem o23 : De cB3 9 1 10 .return_ := by decide +kernel
theorem o569 : De cB38 0 1 1 (.aload_n 0) := by decide +kernel
theorem o570 : De cB38 1 1 2 (.aload_n 1) := by decide +kernel
theorem o571 : De cB38 2 1 3 (.iconst 0) := by decide +kernel
theorem o572 : De cB38 3 1 4 (.aload_n 1) := by decide +kernel
theorem o573 : De cB38 4 1 5 .arraylength := by decide +kernel
theorem o574 : De cB38 5 1 6 .aconst_null := by decide +kernel
theorem o575 : De cB38 6 3 9 (.invokespecial 27) := by decide +kernel
theorem o576 : De cB38 9 1 10 .return_ := by decide +kernel
theorem o252 : De cB27 0 1 1 (.aload_n 0) := by decide +kernel
theorem o253 : De cB27 1 1 2 (.aload_n 1) := by decide +kernel
theorem o254 : De cB27 2 1 3 .aconst_null := by decide +kernel
theorem o255 : De cB27 3 3 6 (.invokespecial 489) := by decide +kernel
theorem o256 : De cB27 6 1 7 .return_ := by decide +kernel
theorem o5 : De cB1 0 1 1 (.aload_n 0) := by decide +kernel
theorem o6 : De cB1 1 3 4 (.getfield 9) := by decide +kernel
theorem o7 : De cB1 4 1 5 .arraylength := by decide +kernel
theorem o8 : De cB1 5 1 6 (.aload_n 0) := by decide +kernel
theorem o9 : De cB1 6 3 9 (.invokevirtual 335) := by decide +kernel
theorem o10 : De cB1 9 1 10 .ishr := by decide +kernel
theorem o11 : De cB1 10 1 11 .ireturn := by decide +kernel
theorem o42 : De cB6 0 1 1 (.aload_n 0) := by decide +kernel
theorem o43 : De cB6 1 3 4 (.invokevirtual 492) := by decide +kernel
theorem o44 : De cB6 4 3 7 (.ifCond .eq 12) := by decide +kernel
theorem o45 : De cB6 7 1 8 (.aload_n 0) := by decide +kernel
theorem o46 : De cB6 8 3 11 (.getfield 9) := by decide +kernel
theorem o47 : De cB6 11 1 12 (.iload_n 1) := by decide +kernel
theorem o48 : De cB6 12 3 15 (.invokestatic 495) := by decide +kernel
theorem o49 : De cB6 15 1 16 .ireturn := by decide +kernel
theorem o24 : De cB4 0 1 1 (.iload_n 1) := by decide +kernel
theorem o25 : De cB4 1 1 2 (.aload_n 0) := by decide +kernel
theorem o26 : De cB4 2 1 3 .arraylength := by decide +kernel
theorem o27 : De cB4 3 3 6 (.invokestatic 9) := by decide +kernel
theorem o28 : De cB4 6 1 7 (.aload_n 0) := by decide +kernel
theorem o29 : De cB4 7 1 8 (.iload_n 1) := by decide +kernel
theorem o30 : De cB4 8 1 9 .baload := by decide +kernel
theorem o31 : De cB4 9 3 12 (.sipush 255) := by decide +kernel
theorem o32 : De cB4 12 1 13 .iand := by decide +kernel
theorem o33 : De cB4 13 1 14 .i2c := by decide +kernel
theorem o34 : De cB4 14 1 15 .ireturn := by decide +kernel
theorem o59 : De cB8 0 1 1 (.iload_n 0) := by decide +kernel
theorem o60 : De cB8 1 3 4 (.sipush 255) := by decide +kernel
theorem o61 : De cB8 4 3 7 (.if_icmp .gt 7) := by decide +kernel
theorem o62 : De cB8 7 1 8 (.iconst 1) := by decide +kernel
theorem o63 : De cB8 12 1 13 .ireturn := by decide +kernel
theorem o64 : De cB9 0 1 1 (.iconst 1) := by decide +kernel
theorem o65 : De cB9 1 2 3 (.newarray .byte) := by decide +kernel
theorem o66 : De cB9 3 1 4 .dup := by decide +kernel
theorem o67 : De cB9 4 1 5 (.iconst 0) := by decide +kernel
theorem o68 : De cB9 5 1 6 (.iload_n 0) := by decide +kernel
theorem o69 : De cB9 6 1 7 .i2b := by decide +kernel
theorem o70 : De cB9 7 1 8 .bastore := by decide +kernel
theorem o71 : De cB9 8 1 9 .areturn := by decide +kernel
theorem o222 : De cB25 0 1 1 (.iload_n 1) := by decide +kernel
theorem o223 : De cB25 1 3 4 (.ifCond .ne 9) := by decide +kernel
theorem o224 : De cB25 4 1 5 (.iload_n 2) := by decide +kernel
theorem o225 : De cB25 5 1 6 (.aload_n 0) := by decide +kernel
theorem o226 : De cB25 6 1 7 .arraylength := by decide +kernel
theorem o227 : De cB25 17 1 18 (.aload_n 0) := by decide +kernel
theorem o228 : De cB25 18 3 21 (.invokevirtual 310) := by decide +kernel
theorem o229 : De cB25 21 3 24 (.checkcast 311) := by decide +kernel
theorem o230 : De cB25 24 1 25 .areturn := by decide +kernel
theorem o207 : De cB21 0 1 1 (.aload_n 0) := by decide +kernel
theorem o208 : De cB21 1 1 2 (.iload_n 1) := by decide +kernel
theorem o209 : De cB21 2 3 5 (.invokespecial 50) := by decide +kernel
theorem o210 : De cB21 5 1 6 .pop := by decide +kernel
theorem o211 : De cB21 6 1 7 (.aload_n 0) := by decide +kernel
theorem o212 : De cB21 7 1 8 .areturn := by decide +kernel
theorem o96 : De cB12 0 1 1 (.aload_n 0) := by decide +kernel
theorem o97 : De cB12 1 1 2 (.iload_n 1) := by decide +kernel
theorem o98 : De cB12 2 3 5 (.invokespecial 1) := by decide +kernel
theorem o99 : De cB12 5 1 6 .return_ := by decide +kernel
theorem o257 : De cB28 0 3 3 (.new 18) := by decide +kernel
theorem o258 : De cB28 3 1 4 .dup := by decide +kernel
theorem o259 : De cB28 4 1 5 (.aload_n 0) := by decide +kernel
theorem o260 : De cB28 5 3 8 (.invokespecial 137) := by decide +kernel
theorem o261 : De cB28 8 1 9 .areturn := by decide +kernel
theorem o168 : De cB18 0 1 1 (.aload_n 0) := by decide +kernel
theorem o169 : De cB18 1 1 2 (.aload_n 1) := by decide +kernel
theorem o170 : De cB18 2 3 5 (.invokespecial 29) := by decide +kernel
theorem o171 : De cB18 5 1 6 .pop := by decide +kernel
theorem o172 : De cB18 6 1 7 (.aload_n 0) := by decide +kernel
theorem o173 : De cB18 7 1 8 .areturn := by decide +kernel
theorem o219 : De cB24 0 1 1 (.aload_n 0) := by decide +kernel
theorem o220 : De cB24 1 3 4 (.invokespecial 343) := by decide +kernel
theorem o221 : De cB24 4 1 5 .ireturn := by decide +kernel
theorem o145 : De cB17 0 1 1 (.aload_n 1) := by decide +kernel
theorem o146 : De cB17 9 1 10 (.aload_n 1) := by decide +kernel
theorem o147 : De cB17 10 3 13 (.invokevirtual 32) := by decide +kernel
theorem o148 : De cB17 13 1 14 (.istore_n 2) := by decide +kernel
theorem o149 : De cB17 14 1 15 (.aload_n 0) := by decide +kernel
theorem o150 : De cB17 15 1 16 (.aload_n 0) := by decide +kernel
theorem o151 : De cB17 16 3 19 (.getfield 79) := by decide +kernel
theorem o152 : De cB17 19 1 20 (.iload_n 2) := by decide +kernel
theorem o153 : De cB17 20 1 21 .iadd := by decide +kernel
theorem o154 : De cB17 21 3 24 (.invokevirtual 100) := by decide +kernel
theorem o155 : De cB17 24 1 25 (.aload_n 0) := by decide +kernel
theorem o156 : De cB17 25 1 26 (.aload_n 0) := by decide +kernel
theorem o157 : De cB17 26 3 29 (.getfield 79) := by decide +kernel
theorem o158 : De cB17 29 1 30 (.aload_n 1) := by decide +kernel
theorem o159 : De cB17 30 3 33 (.invokevirtual 208) := by decide +kernel
theorem o160 : De cB17 33 1 34 (.aload_n 0) := by decide +kernel
theorem o161 : De cB17 34 1 35 .dup := by decide +kernel
theorem o162 : De cB17 35 3 38 (.getfield 79) := by decide +kernel
theorem o163 : De cB17 38 1 39 (.iload_n 2) := by decide +kernel
theorem o164 : De cB17 39 1 40 .iadd := by decide +kernel
theorem o165 : De cB17 40 3 43 (.putfield 79) := by decide +kernel
theorem o166 : De cB17 43 1 44 (.aload_n 0) := by decide +kernel
theorem o167 : De cB17 44 1 45 .areturn := by decide +kernel
theorem o84 : De cB11 0 1 1 (.aload_n 0) := by decide +kernel
theorem o85 : De cB11 1 3 4 (.invokespecial 3) := by decide +kernel
theorem o86 : De cB11 4 3 7 (.getstatic 18) := by decide +kernel
theorem o87 : De cB11 7 3 10 (.ifCond .eq 18) := by decide +kernel
theorem o88 : De cB11 10 1 11 (.aload_n 0) := by decide +kernel
theorem o89 : De cB11 11 1 12 (.iload_n 1) := by decide +kernel
theorem o90 : De cB11 12 2 14 (.newarray .byte) := by decide +kernel
theorem o91 : De cB11 14 3 17 (.putfield 15) := by decide +kernel
theorem o92 : De cB11 17 1 18 (.aload_n 0) := by decide +kernel
theorem o93 : De cB11 18 1 19 (.iconst 0) := by decide +kernel
theorem o94 : De cB11 19 3 22 (.putfield 22) := by decide +kernel
theorem o95 : De cB11 38 1 39 .return_ := by decide +kernel
theorem o181 : De cB20 0 1 1 (.aload_n 0) := by decide +kernel
theorem o182 : De cB20 1 1 2 (.aload_n 0) := by decide +kernel
theorem o183 : De cB20 2 3 5 (.getfield 79) := by decide +kernel
theorem o184 : De cB20 5 1 6 (.iconst 1) := by decide +kernel
theorem o185 : De cB20 6 1 7 .iadd := by decide +kernel
theorem o186 : De cB20 7 3 10 (.invokevirtual 100) := by decide +kernel
theorem o187 : De cB20 10 1 11 (.aload_n 0) := by decide +kernel
theorem o188 : De cB20 11 3 14 (.invokevirtual 83) := by decide +kernel
theorem o189 : De cB20 14 3 17 (.ifCond .eq 31) := by decide +kernel
theorem o190 : De cB20 17 1 18 (.iload_n 1) := by decide +kernel
theorem o191 : De cB20 18 3 21 (.invokestatic 191) := by decide +kernel
theorem o192 : De cB20 21 3 24 (.ifCond .eq 24) := by decide +kernel
theorem o193 : De cB20 24 1 25 (.aload_n 0) := by decide +kernel
theorem o194 : De cB20 25 3 28 (.getfield 15) := by decide +kernel
theorem o195 : De cB20 28 1 29 (.aload_n 0) := by decide +kernel
theorem o196 : De cB20 29 1 30 .dup := by decide +kernel
theorem o197 : De cB20 30 3 33 (.getfield 79) := by decide +kernel
theorem o198 : De cB20 33 1 34 .dup_x1 := by decide +kernel
theorem o199 : De cB20 34 1 35 (.iconst 1) := by decide +kernel
theorem o200 : De cB20 35 1 36 .iadd := by decide +kernel
theorem o201 : De cB20 36 3 39 (.putfield 79) := by decide +kernel
theorem o202 : De cB20 39 1 40 (.iload_n 1) := by decide +kernel
theorem o203 : De cB20 40 1 41 .i2b := by decide +kernel
theorem o204 : De cB20 41 1 42 .bastore := by decide +kernel
theorem o205 : De cB20 75 1 76 (.aload_n 0) := by decide +kernel
theorem o206 : De cB20 76 1 77 .areturn := by decide +kernel
theorem o213 : De cB22 0 1 1 (.aload_n 0) := by decide +kernel
theorem o214 : De cB22 1 3 4 (.getfield 15) := by decide +kernel
theorem o215 : De cB22 4 1 5 .areturn := by decide +kernel
theorem o174 : De cB19 0 3 3 (.getstatic 18) := by decide +kernel
theorem o175 : De cB19 3 3 6 (.ifCond .eq 14) := by decide +kernel
theorem o176 : De cB19 6 1 7 (.aload_n 0) := by decide +kernel
theorem o177 : De cB19 7 3 10 (.getfield 22) := by decide +kernel
theorem o178 : De cB19 10 3 13 (.ifCond .ne 7) := by decide +kernel
theorem o179 : De cB19 13 1 14 (.iconst 1) := by decide +kernel
theorem o180 : De cB19 18 1 19 .ireturn := by decide +kernel
theorem o216 : De cB23 0 1 1 (.aload_n 0) := by decide +kernel
theorem o217 : De cB23 1 3 4 (.getfield 79) := by decide +kernel
theorem o218 : De cB23 4 1 5 .ireturn := by decide +kernel
theorem o111 : De cB14 0 3 3 (.getstatic 18) := by decide +kernel
theorem o112 : De cB14 3 3 6 (.ifCond .eq 18) := by decide +kernel
theorem o113 : De cB14 6 1 7 (.aload_n 0) := by decide +kernel
theorem o114 : De cB14 7 3 10 (.getfield 22) := by decide +kernel
theorem o115 : De cB14 10 1 11 (.aload_n 1) := by decide +kernel
theorem o116 : De cB14 11 3 14 (.invokevirtual 40) := by decide +kernel
theorem o117 : De cB14 21 1 22 .return_ := by decide +kernel
theorem o134 : De cB16 0 1 1 (.aload_n 0) := by decide +kernel
theorem o135 : De cB16 1 1 2 (.aload_n 2) := by decide +kernel
theorem o136 : De cB16 2 3 5 (.invokevirtual 397) := by decide +kernel
theorem o137 : De cB16 5 1 6 (.aload_n 2) := by decide +kernel
theorem o138 : De cB16 6 1 7 (.aload_n 0) := by decide +kernel
theorem o139 : De cB16 7 3 10 (.getfield 15) := by decide +kernel
theorem o140 : De cB16 10 1 11 (.iload_n 1) := by decide +kernel
theorem o141 : De cB16 11 1 12 (.aload_n 0) := by decide +kernel
theorem o142 : De cB16 12 3 15 (.getfield 22) := by decide +kernel
theorem o143 : De cB16 15 3 18 (.invokevirtual 399) := by decide +kernel
theorem o144 : De cB16 18 1 19 .return_ := by decide +kernel
theorem o100 : De cB13 0 1 1 (.aload_n 0) := by decide +kernel
theorem o101 : De cB13 1 3 4 (.getfield 15) := by decide +kernel
theorem o102 : De cB13 4 1 5 .arraylength := by decide +kernel
theorem o103 : De cB13 5 1 6 (.aload_n 0) := by decide +kernel
theorem o104 : De cB13 6 3 9 (.getfield 22) := by decide +kernel
theorem o105 : De cB13 9 1 10 .ishr := by decide +kernel
theorem o106 : De cB13 10 1 11 (.istore_n 2) := by decide +kernel
theorem o107 : De cB13 11 1 12 (.iload_n 1) := by decide +kernel
theorem o108 : De cB13 12 1 13 (.iload_n 2) := by decide +kernel
theorem o109 : De cB13 13 1 14 .isub := by decide +kernel
theorem o110 : De cB13 38 1 39 .return_ := by decide +kernel
theorem o262 : De cB29 0 1 1 (.iload_n 0) := by decide +kernel
theorem o263 : De cB29 1 2 3 (.bipush 10) := by decide +kernel
theorem o264 : De cB29 3 3 6 (.if_icmp .ge 5) := by decide +kernel
theorem o265 : De cB29 6 1 7 (.iconst 1) := by decide +kernel
theorem o266 : De cB29 7 1 8 .ireturn := by decide +kernel
theorem o267 : De cB29 8 1 9 (.iload_n 0) := by decide +kernel
theorem o268 : De cB29 9 2 11 (.bipush 100) := by decide +kernel
theorem o269 : De cB29 11 3 14 (.if_icmp .ge 5) := by decide +kernel
theorem o270 : De cB29 14 1 15 (.iconst 2) := by decide +kernel
theorem o271 : De cB29 15 1 16 .ireturn := by decide +kernel
theorem o272 : De cB29 16 1 17 (.iload_n 0) := by decide +kernel
theorem o273 : De cB29 17 3 20 (.sipush 1000) := by decide +kernel
theorem o274 : De cB29 20 3 23 (.if_icmp .ge 5) := by decide +kernel
theorem o275 : De cB29 23 1 24 (.iconst 3) := by decide +kernel
theorem o276 : De cB29 24 1 25 .ireturn := by decide +kernel
theorem o277 : De cB29 25 1 26 (.iload_n 0) := by decide +kernel
theorem o278 : De cB29 26 3 29 (.sipush 10000) := by decide +kernel
theorem o279 : De cB29 29 3 32 (.if_icmp .ge 5) := by decide +kernel
theorem o280 : De cB29 32 1 33 (.iconst 4) := by decide +kernel
theorem o281 : De cB29 33 1 34 .ireturn := by decide +kernel
theorem o282 : De cB29 34 1 35 (.iload_n 0) := by decide +kernel
theorem o283 : De cB29 35 2 37 (.ldc 40) := by decide +kernel
theorem o284 : De cB29 37 3 40 (.if_icmp .ge 5) := by decide +kernel
theorem o285 : De cB29 40 1 41 (.iconst 5) := by decide +kernel
theorem o286 : De cB29 41 1 42 .ireturn := by decide +kernel
theorem o287 : De cB29 42 1 43 (.iload_n 0) := by decide +kernel
theorem o288 : De cB29 43 2 45 (.ldc 41) := by decide +kernel
theorem o289 : De cB29 45 3 48 (.if_icmp .ge 6) := by decide +kernel
theorem o290 : De cB29 48 2 50 (.bipush 6) := by decide +kernel
theorem o291 : De cB29 50 1 51 .ireturn := by decide +kernel
theorem o292 : De cB29 51 1 52 (.iload_n 0) := by decide +kernel
theorem o293 : De cB29 52 2 54 (.ldc 42) := by decide +kernel
theorem o294 : De cB29 54 3 57 (.if_icmp .ge 6) := by decide +kernel
theorem o295 : De cB29 57 2 59 (.bipush 7) := by decide +kernel
theorem o296 : De cB29 59 1 60 .ireturn := by decide +kernel
theorem o297 : De cB29 60 1 61 (.iload_n 0) := by decide +kernel
theorem o298 : De cB29 61 2 63 (.ldc 43) := by decide +kernel
theorem o299 : De cB29 63 3 66 (.if_icmp .ge 6) := by decide +kernel
theorem o300 : De cB29 66 2 68 (.bipush 8) := by decide +kernel
theorem o301 : De cB29 68 1 69 .ireturn := by decide +kernel
theorem o302 : De cB29 69 1 70 (.iload_n 0) := by decide +kernel
theorem o303 : De cB29 70 2 72 (.ldc 44) := by decide +kernel
theorem o304 : De cB29 72 3 75 (.if_icmp .ge 6) := by decide +kernel
theorem o305 : De cB29 75 2 77 (.bipush 9) := by decide +kernel
theorem o306 : De cB29 77 1 78 .ireturn := by decide +kernel
theorem o307 : De cB29 78 2 80 (.bipush 10) := by decide +kernel
theorem o308 : De cB29 80 1 81 .ireturn := by decide +kernel
theorem o341 : De cB31 0 1 1 (.iload_n 0) := by decide +kernel
theorem o342 : De cB31 1 3 4 (.ifCond .ne 5) := by decide +kernel
theorem o343 : De cB31 4 1 5 (.lconst 1) := by decide +kernel
theorem o344 : De cB31 5 1 6 .lreturn := by decide +kernel
theorem o345 : De cB31 6 1 7 (.iload_n 0) := by decide +kernel
theorem o346 : De cB31 7 1 8 (.iconst 1) := by decide +kernel
theorem o347 : De cB31 8 3 11 (.if_icmp .ne 7) := by decide +kernel
theorem o348 : De cB31 11 3 14 (.ldc2_w 45) := by decide +kernel
theorem o349 : De cB31 14 1 15 .lreturn := by decide +kernel
theorem o350 : De cB31 15 1 16 (.iload_n 0) := by decide +kernel
theorem o351 : De cB31 16 1 17 (.iconst 2) := by decide +kernel
theorem o352 : De cB31 17 3 20 (.if_icmp .ne 7) := by decide +kernel
theorem o353 : De cB31 20 3 23 (.ldc2_w 47) := by decide +kernel
theorem o354 : De cB31 23 1 24 .lreturn := by decide +kernel
theorem o355 : De cB31 24 1 25 (.iload_n 0) := by decide +kernel
theorem o356 : De cB31 25 1 26 (.iconst 3) := by decide +kernel
theorem o357 : De cB31 26 3 29 (.if_icmp .ne 7) := by decide +kernel
theorem o358 : De cB31 29 3 32 (.ldc2_w 49) := by decide +kernel
theorem o359 : De cB31 32 1 33 .lreturn := by decide +kernel
theorem o360 : De cB31 33 1 34 (.iload_n 0) := by decide +kernel
theorem o361 : De cB31 34 1 35 (.iconst 4) := by decide +kernel
theorem o362 : De cB31 35 3 38 (.if_icmp .ne 7) := by decide +kernel
theorem o363 : De cB31 38 3 41 (.ldc2_w 51) := by decide +kernel
theorem o364 : De cB31 41 1 42 .lreturn := by decide +kernel
theorem o365 : De cB31 42 1 43 (.iload_n 0) := by decide +kernel
theorem o366 : De cB31 43 1 44 (.iconst 5) := by decide +kernel
theorem o367 : De cB31 44 3 47 (.if_icmp .ne 7) := by decide +kernel
theorem o368 : De cB31 47 3 50 (.ldc2_w 53) := by decide +kernel
theorem o369 : De cB31 50 1 51 .lreturn := by decide +kernel
theorem o370 : De cB31 51 1 52 (.iload_n 0) := by decide +kernel
theorem o371 : De cB31 52 2 54 (.bipush 6) := by decide +kernel
theorem o372 : De cB31 54 3 57 (.if_icmp .ne 7) := by decide +kernel
theorem o373 : De cB31 57 3 60 (.ldc2_w 55) := by decide +kernel
theorem o374 : De cB31 60 1 61 .lreturn := by decide +kernel
theorem o375 : De cB31 61 1 62 (.iload_n 0) := by decide +kernel
theorem o376 : De cB31 62 2 64 (.bipush 7) := by decide +kernel
theorem o377 : De cB31 64 3 67 (.if_icmp .ne 7) := by decide +kernel
theorem o378 : De cB31 67 3 70 (.ldc2_w 57) := by decide +kernel
theorem o379 : De cB31 70 1 71 .lreturn := by decide +kernel
theorem o380 : De cB31 71 1 72 (.iload_n 0) := by decide +kernel
theorem o381 : De cB31 72 2 74 (.bipush 8) := by decide +kernel
theorem o382 : De cB31 74 3 77 (.if_icmp .ne 7) := by decide +kernel
theorem o383 : De cB31 77 3 80 (.ldc2_w 59) := by decide +kernel
theorem o384 : De cB31 80 1 81 .lreturn := by decide +kernel
theorem o385 : De cB31 81 3 84 (.ldc2_w 61) := by decide +kernel
theorem o386 : De cB31 84 1 85 .lreturn := by decide +kernel
theorem o513 : De cB36 0 1 1 (.iload_n 1) := by decide +kernel
theorem o514 : De cB36 1 1 2 (.iload_n 3) := by decide +kernel
theorem o515 : De cB36 2 2 4 (.iload 4) := by decide +kernel
theorem o516 : De cB36 4 1 5 .iadd := by decide +kernel
theorem o517 : De cB36 5 3 8 (.if_icmp .lt 5) := by decide +kernel
theorem o518 : De cB36 8 1 9 (.iconst 1) := by decide +kernel
theorem o519 : De cB36 9 1 10 .ireturn := by decide +kernel
theorem o520 : De cB36 10 1 11 (.iload_n 1) := by decide +kernel
theorem o521 : De cB36 11 1 12 (.iload_n 3) := by decide +kernel
theorem o522 : De cB36 12 3 15 (.if_icmp .ge 13) := by decide +kernel
theorem o523 : De cB36 15 1 16 (.aload_n 2) := by decide +kernel
theorem o524 : De cB36 16 1 17 (.iload_n 1) := by decide +kernel
theorem o525 : De cB36 17 3 20 (.invokevirtual 63) := by decide +kernel
theorem o526 : De cB36 20 2 22 (.istore 6) := by decide +kernel
theorem o534 : De cB36 25 1 26 (.iload_n 1) := by decide +kernel
theorem o535 : De cB36 26 1 27 (.iload_n 3) := by decide +kernel
theorem o536 : De cB36 27 1 28 .isub := by decide +kernel
theorem o537 : De cB36 28 2 30 (.istore 7) := by decide +kernel
theorem o538 : De cB36 30 2 32 (.iload 5) := by decide +kernel
theorem o539 : De cB36 32 1 33 .i2l := by decide +kernel
theorem o540 : De cB36 33 2 35 (.iload 4) := by decide +kernel
theorem o541 : De cB36 35 1 36 (.iconst 1) := by decide +kernel
theorem o542 : De cB36 36 1 37 .isub := by decide +kernel
theorem o543 : De cB36 37 2 39 (.iload 7) := by decide +kernel
theorem o544 : De cB36 39 1 40 .isub := by decide +kernel
theorem o545 : De cB36 40 3 43 (.invokestatic 67) := by decide +kernel
theorem o546 : De cB36 43 1 44 .ldiv := by decide +kernel
theorem o547 : De cB36 44 3 47 (.ldc2_w 45) := by decide +kernel
theorem o548 : De cB36 47 1 48 .lrem := by decide +kernel
theorem o549 : De cB36 48 2 50 (.lstore 8) := by decide +kernel
theorem o550 : De cB36 50 2 52 (.bipush 48) := by decide +kernel
theorem o551 : De cB36 52 2 54 (.lload 8) := by decide +kernel
theorem o552 : De cB36 54 1 55 .l2i := by decide +kernel
theorem o553 : De cB36 55 1 56 .iadd := by decide +kernel
theorem o554 : De cB36 56 1 57 .i2c := by decide +kernel
theorem o555 : De cB36 57 2 59 (.istore 6) := by decide +kernel
theorem o527 : De cB36 59 1 60 (.aload_n 0) := by decide +kernel
theorem o528 : De cB36 60 1 61 (.iload_n 1) := by decide +kernel
theorem o529 : De cB36 61 3 64 (.invokevirtual 63) := by decide +kernel
theorem o530 : De cB36 64 2 66 (.iload 6) := by decide +kernel
theorem o531 : De cB36 66 3 69 (.if_icmp .ne 7) := by decide +kernel
theorem o532 : De cB36 69 1 70 (.iconst 1) := by decide +kernel
theorem o533 : De cB36 74 1 75 .ireturn := by decide +kernel
theorem o467 : De cB34 0 1 1 (.aload_n 0) := by decide +kernel
theorem o468 : De cB34 1 3 4 (.invokespecial 1) := by decide +kernel
theorem o469 : De cB34 4 1 5 (.aload_n 0) := by decide +kernel
theorem o470 : De cB34 5 1 6 (.aload_n 1) := by decide +kernel
theorem o471 : De cB34 6 3 9 (.putfield 7) := by decide +kernel
theorem o472 : De cB34 9 1 10 (.aload_n 0) := by decide +kernel
theorem o473 : De cB34 10 1 11 (.iload_n 2) := by decide +kernel
theorem o474 : De cB34 11 1 12 (.iconst 1) := by decide +kernel
theorem o475 : De cB34 12 1 13 .isub := by decide +kernel
theorem o476 : De cB34 13 3 16 (.invokestatic 13) := by decide +kernel
theorem o477 : De cB34 16 3 19 (.invokevirtual 19) := by decide +kernel
theorem o478 : De cB34 19 3 22 (.putfield 25) := by decide +kernel
theorem o479 : De cB34 22 1 23 .return_ := by decide +kernel
theorem o480 : De cB35 0 1 1 (.iload_n 1) := by decide +kernel
theorem o481 : De cB35 1 3 4 (.invokestatic 13) := by decide +kernel
theorem o482 : De cB35 4 1 5 (.astore_n 2) := by decide +kernel
theorem o483 : De cB35 5 3 8 (.new 29) := by decide +kernel
theorem o484 : De cB35 8 1 9 .dup := by decide +kernel
theorem o485 : De cB35 9 1 10 (.aload_n 0) := by decide +kernel
theorem o486 : De cB35 10 3 13 (.getfield 7) := by decide +kernel
theorem o487 : De cB35 13 3 16 (.invokevirtual 19) := by decide +kernel
theorem o488 : De cB35 16 1 17 (.aload_n 0) := by decide +kernel
theorem o489 : De cB35 17 3 20 (.getfield 25) := by decide +kernel
theorem o490 : De cB35 20 1 21 .iadd := by decide +kernel
theorem o491 : De cB35 21 3 24 (.invokespecial 31) := by decide +kernel
theorem o492 : De cB35 24 1 25 (.aload_n 0) := by decide +kernel
theorem o493 : De cB35 25 3 28 (.getfield 7) := by decide +kernel
theorem o494 : De cB35 28 3 31 (.invokevirtual 34) := by decide +kernel
theorem o495 : De cB35 31 1 32 (.astore_n 3) := by decide +kernel
theorem o496 : De cB35 32 1 33 (.aload_n 2) := by decide +kernel
theorem o497 : De cB35 33 3 36 (.invokevirtual 19) := by decide +kernel
theorem o498 : De cB35 36 2 38 (.istore 4) := by decide +kernel
theorem o499 : De cB35 38 2 40 (.iload 4) := by decide +kernel
theorem o500 : De cB35 40 1 41 (.aload_n 0) := by decide +kernel
theorem o501 : De cB35 41 3 44 (.getfield 25) := by decide +kernel
theorem o507 : De cB35 44 3 47 (.if_icmp .ge 16) := by decide +kernel
theorem o508 : De cB35 47 1 48 (.aload_n 3) := by decide +kernel
theorem o509 : De cB35 48 2 50 (.bipush 48) := by decide +kernel
theorem o510 : De cB35 50 3 53 (.invokevirtual 38) := by decide +kernel
theorem o511 : De cB35 53 1 54 .pop := by decide +kernel
theorem o512 : De cB35 54 3 57 (.iinc 4 1) := by decide +kernel
theorem o502 : De cB35 60 1 61 (.aload_n 3) := by decide +kernel
theorem o503 : De cB35 61 1 62 (.aload_n 2) := by decide +kernel
theorem o504 : De cB35 62 3 65 (.invokevirtual 34) := by decide +kernel
theorem o505 : De cB35 65 3 68 (.invokevirtual 41) := by decide +kernel
theorem o506 : De cB35 68 1 69 .areturn := by decide +kernel
theorem j53 : Dj code 8 14 (.ifCond .ne 6) 6 := ⟨at_8, by decide, by decide⟩
theorem j48 : Dj code 60 78 (.ifCond .ne 18) 18 := ⟨at_60, by decide, by decide⟩
theorem j47 : Dj code 75 152 (.goto 77) 77 := ⟨at_75, by decide, by decide⟩
theorem j50 : Dj code 81 94 (.if_icmp .ne 13) 13 := ⟨at_81, by decide, by decide⟩
theorem j49 : Dj code 91 152 (.goto 61) 61 := ⟨at_91, by decide, by decide⟩
theorem j52 : Dj code 97 125 (.if_icmp .ne 28) 28 := ⟨at_97, by decide, by decide⟩
theorem j51 : Dj code 122 152 (.goto 30) 30 := ⟨at_122, by decide, by decide⟩
theorem j45 : Dj code 189 194 (.if_icmp .eq 5) 5 := ⟨at_189, by decide, by decide⟩
theorem j46 : Dj code 423 427 (.goto 4) 4 := ⟨at_423, by decide, by decide⟩
theorem j34 : Dj cB32 4 11 (.ifCond .ge 7) 7 := by decide +kernel
theorem j35 : Dj cB32 25 72 (.if_icmp .gt 47) 47 := by decide +kernel
theorem j38 : Dj cB32 69 22 (.goto (-47)) (-47) := by decide +kernel
theorem j36 : Dj cB32 88 104 (.if_icmp .ge 16) 16 := by decide +kernel
theorem j37 : Dj cB32 106 118 (.ifCond .eq 12) 12 := by decide +kernel
theorem j24 : Dj cB30 19 42 (.if_icmp .ge 23) 23 := by decide +kernel
theorem j22 : Dj cB30 24 31 (.if_icmp .le 7) 7 := by decide +kernel
theorem j23 : Dj cB30 39 16 (.goto (-23)) (-23) := by decide +kernel
theorem j1 : Dj cB2 6 16 (.if_icmp .lt 10) 10 := by decide +kernel
theorem j7 : Dj cB15 25 43 (.goto 18) 18 := by decide +kernel
theorem j12 : Dj cB26 38 97 (.goto 59) 59 := by decide +kernel
theorem j0 : Dj cB0 10 14 (.goto 4) 4 := by decide +kernel
theorem j2 : Dj cB5 14 18 (.goto 4) 4 := by decide +kernel
theorem j3 : Dj cB8 8 12 (.goto 4) 4 := by decide +kernel
theorem j11 : Dj cB25 7 17 (.if_icmp .eq 10) 10 := by decide +kernel
theorem j8 : Dj cB17 1 9 (.ifnonnull 8) 8 := by decide +kernel
theorem j4 : Dj cB11 22 38 (.goto 16) 16 := by decide +kernel
theorem j10 : Dj cB20 42 75 (.goto 33) 33 := by decide +kernel
theorem j9 : Dj cB19 14 18 (.goto 4) 4 := by decide +kernel
theorem j6 : Dj cB14 14 21 (.if_icmp .eq 7) 7 := by decide +kernel
theorem j5 : Dj cB13 14 38 (.ifCond .le 24) 24 := by decide +kernel
theorem j13 : Dj cB29 3 8 (.if_icmp .ge 5) 5 := by decide +kernel
theorem j14 : Dj cB29 11 16 (.if_icmp .ge 5) 5 := by decide +kernel
theorem j15 : Dj cB29 20 25 (.if_icmp .ge 5) 5 := by decide +kernel
theorem j16 : Dj cB29 29 34 (.if_icmp .ge 5) 5 := by decide +kernel
theorem j17 : Dj cB29 37 42 (.if_icmp .ge 5) 5 := by decide +kernel
theorem j18 : Dj cB29 45 51 (.if_icmp .ge 6) 6 := by decide +kernel
theorem j19 : Dj cB29 54 60 (.if_icmp .ge 6) 6 := by decide +kernel
theorem j20 : Dj cB29 63 69 (.if_icmp .ge 6) 6 := by decide +kernel
theorem j21 : Dj cB29 72 78 (.if_icmp .ge 6) 6 := by decide +kernel
theorem j25 : Dj cB31 1 6 (.ifCond .ne 5) 5 := by decide +kernel
theorem j26 : Dj cB31 8 15 (.if_icmp .ne 7) 7 := by decide +kernel
theorem j27 : Dj cB31 17 24 (.if_icmp .ne 7) 7 := by decide +kernel
theorem j28 : Dj cB31 26 33 (.if_icmp .ne 7) 7 := by decide +kernel
theorem j29 : Dj cB31 35 42 (.if_icmp .ne 7) 7 := by decide +kernel
theorem j30 : Dj cB31 44 51 (.if_icmp .ne 7) 7 := by decide +kernel
theorem j31 : Dj cB31 54 61 (.if_icmp .ne 7) 7 := by decide +kernel
theorem j32 : Dj cB31 64 71 (.if_icmp .ne 7) 7 := by decide +kernel
theorem j33 : Dj cB31 74 81 (.if_icmp .ne 7) 7 := by decide +kernel
theorem j41 : Dj cB36 5 10 (.if_icmp .lt 5) 5 := by decide +kernel
theorem j42 : Dj cB36 12 25 (.if_icmp .ge 13) 13 := by decide +kernel
theorem j43 : Dj cB36 22 59 (.goto 37) 37 := by decide +kernel
theorem j44 : Dj cB36 70 74 (.goto 4) 4 := by decide +kernel
theorem j39 : Dj cB35 44 60 (.if_icmp .ge 16) 16 := by decide +kernel
theorem j40 : Dj cB35 57 38 (.goto (-19)) (-19) := by decide +kernel
theorem opd_0 : parseMethodDescriptor "()B" = some ⟨[], some .byte⟩ := by decide +kernel
theorem opd_1 : parseMethodDescriptor "(IILjava/util/function/BiFunction;)I" = some ⟨[.int, .int, (.object "java/util/function/BiFunction")], some .int⟩ := by decide +kernel
theorem opd_2 : parseMethodDescriptor "(II)V" = some ⟨[.int, .int], none⟩ := by decide +kernel
theorem opd_3 : parseMethodDescriptor "()Z" = some ⟨[], some .boolean⟩ := by decide +kernel
theorem opd_4 : parseMethodDescriptor "([BI)C" = some ⟨[(.array .byte), .int], some .char⟩ := by decide +kernel
theorem opd_5 : parseMethodDescriptor "(C)Z" = some ⟨[.char], some .boolean⟩ := by decide +kernel
theorem opd_6 : parseMethodDescriptor "(C)[B" = some ⟨[.char], some (.array .byte)⟩ := by decide +kernel
theorem opd_7 : parseMethodDescriptor "([BB)V" = some ⟨[(.array .byte), .byte], none⟩ := by decide +kernel
theorem opd_8 : parseMethodDescriptor "(I)V" = some ⟨[.int], none⟩ := by decide +kernel
theorem opd_9 : parseMethodDescriptor "(Ljava/lang/String;)V" = some ⟨[(.object "java/lang/String")], none⟩ := by decide +kernel
theorem opd_10 : parseMethodDescriptor "([BIB)V" = some ⟨[(.array .byte), .int, .byte], none⟩ := by decide +kernel
theorem opd_11 : parseMethodDescriptor "()I" = some ⟨[], some .int⟩ := by decide +kernel
theorem opd_12 : parseMethodDescriptor "(ILjava/lang/String;)V" = some ⟨[.int, (.object "java/lang/String")], none⟩ := by decide +kernel
theorem opd_13 : parseMethodDescriptor "(Ljava/lang/String;)Ljava/lang/AbstractStringBuilder;" = some ⟨[(.object "java/lang/String")], some (.object "java/lang/AbstractStringBuilder")⟩ := by decide +kernel
theorem opd_14 : parseMethodDescriptor "(C)Ljava/lang/AbstractStringBuilder;" = some ⟨[.char], some (.object "java/lang/AbstractStringBuilder")⟩ := by decide +kernel
theorem opd_15 : parseMethodDescriptor "()[B" = some ⟨[], some (.array .byte)⟩ := by decide +kernel
theorem opd_16 : parseMethodDescriptor "([BII)[B" = some ⟨[(.array .byte), .int, .int], some (.array .byte)⟩ := by decide +kernel
theorem opd_17 : parseMethodDescriptor "(Ljava/lang/AbstractStringBuilder;Ljava/lang/Void;)V" = some ⟨[(.object "java/lang/AbstractStringBuilder"), (.object "java/lang/Void")], none⟩ := by decide +kernel
theorem opd_18 : parseMethodDescriptor "(Ljava/lang/StringBuilder;)V" = some ⟨[(.object "java/lang/StringBuilder")], none⟩ := by decide +kernel
theorem opd_19 : parseMethodDescriptor "(I)I" = some ⟨[.int], some .int⟩ := by decide +kernel
theorem opd_20 : parseMethodDescriptor "(II[B)I" = some ⟨[.int, .int, (.array .byte)], some .int⟩ := by decide +kernel
theorem opd_21 : parseMethodDescriptor "(I)Ljava/lang/String;" = some ⟨[.int], some (.object "java/lang/String")⟩ := by decide +kernel
theorem opd_22 : parseMethodDescriptor "(Ljava/lang/String;)Ljava/lang/StringBuilder;" = some ⟨[(.object "java/lang/String")], some (.object "java/lang/StringBuilder")⟩ := by decide +kernel
theorem opd_23 : parseMethodDescriptor "()Ljava/lang/String;" = some ⟨[], some (.object "java/lang/String")⟩ := by decide +kernel
theorem opd_24 : parseMethodDescriptor "(C)Ljava/lang/StringBuilder;" = some ⟨[.char], some (.object "java/lang/StringBuilder")⟩ := by decide +kernel
theorem opd_25 : parseMethodDescriptor "(I)C" = some ⟨[.int], some .char⟩ := by decide +kernel
theorem opd_26 : parseMethodDescriptor "(I)J" = some ⟨[.int], some .long⟩ := by decide +kernel
theorem opd_27 : parseMethodDescriptor "([CIILjava/lang/Void;)V" = some ⟨[(.array .char), .int, .int, (.object "java/lang/Void")], none⟩ := by decide +kernel
theorem opd_28 : parseMethodDescriptor "(Ljava/lang/String;I)V" = some ⟨[(.object "java/lang/String"), .int], none⟩ := by decide +kernel
theorem opd_29 : parseMethodDescriptor "(Ljava/lang/String;ILjava/lang/String;III)Z" = some ⟨[(.object "java/lang/String"), .int, (.object "java/lang/String"), .int, .int, .int], some .boolean⟩ := by decide +kernel
theorem opd_30 : parseMethodDescriptor "([C)V" = some ⟨[(.array .char)], none⟩ := by decide +kernel
theorem opd_31 : parseMethodDescriptor "(C)Ljava/lang/String;" = some ⟨[.char], some (.object "java/lang/String")⟩ := by decide +kernel
theorem opn_0 : plainName "java/lang/String" = true := by first | (simp [plainName, overriddenIn]; done) | decide +kernel
theorem opn_1 : plainName "jdk/internal/util/Preconditions" = true := by first | (simp [plainName, overriddenIn]; done) | decide +kernel
theorem opn_2 : plainName "java/lang/StringLatin1" = true := by first | (simp [plainName, overriddenIn]; done) | decide +kernel
theorem opn_3 : plainName "java/lang/AbstractStringBuilder" = true := by first | (simp [plainName, overriddenIn]; done) | decide +kernel
theorem opn_4 : plainName "java/lang/StringBuilder" = true := by first | (simp [plainName, overriddenIn]; done) | decide +kernel
theorem opn_5 : plainName "java/util/Arrays" = true := by first | (simp [plainName, overriddenIn]; done) | decide +kernel
theorem opn_6 : plainName "com/example/shardpick/shardpick/NumberedNamesNamePinLaw" = true := by first | (simp [plainName, overriddenIn]; done) | decide +kernel
theorem opn_7 : plainName "java/lang/Integer" = true := by first | (simp [plainName, overriddenIn]; done) | decide +kernel
theorem opn_8 : plainName "com/example/shardpick/shardpick/NumberedNames" = true := by first | (simp [plainName, overriddenIn]; done) | decide +kernel
theorem oef_iv0 (m : MethodId) (x0 : Addr) (x1 : Addr) (x2 : Int32) (x3 : Int32) : entryFrame m #[(.ref x0), (.ref x1), (.int x2), (.int x3), .null] 6 = mkF m 0 #[.val (.ref x0), .val (.ref x1), .val (.int x2), .val (.int x3), .val .null, .unset] [] := by first | (simp [entryFrame, mkF, argsToLocals, Value.category, maxLocals]; done) | rfl
theorem oef_ic0 (m : MethodId) (x0 : Addr) (x1 : Addr) : entryFrame m #[(.ref x0), (.ref x1)] 2 = mkF m 0 #[.val (.ref x0), .val (.ref x1)] [] := by first | (simp [entryFrame, mkF, argsToLocals, Value.category, maxLocals]; done) | rfl
theorem oef_law (m : MethodId) (x0 : Int32) (x1 : Int32) (x2 : Int32) (x3 : Int32) : entryFrame m #[(.int x0), (.int x1), (.int x2), (.int x3)] maxLocals = mkF m 0 #[.val (.int x0), .val (.int x1), .val (.int x2), .val (.int x3), .unset, .unset, .unset, .unset, .unset, .unset, .unset, .unset, .unset] [] := by first | (simp [entryFrame, mkF, argsToLocals, Value.category, maxLocals]; done) | rfl
abbrev EL : List (String × Nat) := consts_1
theorem hEW {a0 : Array Value} {Z : State} (hw : HW a0 Z) : EW Z a0 EL := (EW.cons (ow229 hw) (by decide) EW.nil)
theorem ostr {a0 : Array Value} {Z : State} (hw : HW a0 Z) : ∀ a ∈ Bundle.stringAtoms, a.before a0 Z = true := fun a ha => hw a ((by decide +kernel : ∀ a ∈ Bundle.stringAtoms, a ∈ tables_1) a ha)
set_option maxRecDepth 65536
set_option maxHeartbeats 40000000
def Q_scoder (Z : State) (x : Addr) (G1 : Int32) (h0 : Heap) (n0 : Nat) : QT := fun rv hE LE => rv = some (.int 0) ∧ Fr n0 LE ∧ hE = h0
theorem rm_scoder (l : Launch) (Z : State) (a0 : Array Value) (hw : HW a0 Z) (ws : List Jvm.Cond) (x : Addr) (G1 : Int32) (h0 : Heap) (n0 : Nat) (Z0 : n0 ≤ h0.size) (S0 : Exa Z h0 x ss0) (S1 : Fld Z h0 x ss0 ss2 "B" (.int 0)) (O2 : Sta Z Z.heap ss0 ss6 "Z" (.int G1)) (P5 : ¬ (G1 = (0 : Int32))) (X00 : Old Z n0 h0) :
    MF l Z mn0 (Jvm.Cond.code mn0 cB0 1 (Option.some Jvm.ClassFile.FieldType.byte)) ws Ro0 #[(.ref x)] h0 (Q_scoder Z x G1 h0 n0) := by
  refine MF.of ss0 rfl #[rv x] (plainFor_of_name opn_0) (fun _ => rfl) ?_
  intro p e s m below meth c _ hZ hh B hml hret hlk hown hnm Y e0
  have N0 := Fr.nil n0
  refine zgs Y B hZ hown (ow5 hw) e0 (O2.ext X00.2) o0 fun _ Y e30 => ?_
  refine zN Y B o1 ((if0 _ _).trans (feq P5).1) ?_
  refine zalN Y B o2 rfl ?_
  refine zgf Y B hZ hown (ow25 hw) Via.refl e30 S1 o3 fun _ Y e31 => ?_
  refine zgo Y B j0 ?_
  exact zrN Y B (t := .byte) hret (by simp) hlk o4 e31 ⟨rfl, N0, rfl⟩ rfl rfl
def Q_slen (Z : State) (x t : Addr) (kt : ClassId) (ds : List Int32) (G1 : Int32) (h0 : Heap) (n0 : Nat) : QT := fun rv hE LE => rv = some (.int (Int32.ofNat ds.length)) ∧ Fr n0 LE ∧ hE = h0
theorem rm_slen (l : Launch) (Z : State) (a0 : Array Value) (hw : HW a0 Z) (ws : List Jvm.Cond) (x t : Addr) (kt : ClassId) (ds : List Int32) (G1 : Int32) (h0 : Heap) (n0 : Nat) (Z0 : n0 ≤ h0.size) (S0 : Exa Z h0 x ss0) (S1 : Fld Z h0 x ss0 ss2 "B" (.int 0)) (S2 : Fld Z h0 x ss0 ss3 "[B" (.ref t)) (S3 : Arv Z h0 t kt .byte (Int32.ofNat ds.length) (B8 ds) (.int 0)) (O2 : Sta Z Z.heap ss0 ss6 "Z" (.int G1)) (P5 : ¬ (G1 = (0 : Int32))) (X00 : Old Z n0 h0) :
    MF l Z mn1 (Jvm.Cond.code mn1 cB1 1 (Option.some Jvm.ClassFile.FieldType.int)) ws Ro1 #[(.ref x)] h0 (Q_slen Z x t kt ds G1 h0 n0) := by
  refine MF.of ss0 rfl #[rv x] (plainFor_of_name opn_0) (fun _ => rfl) ?_
  intro p e s m below meth c _ hZ hh B hml hret hlk hown hnm Y e0
  have N0 := Fr.nil n0
  refine zalN Y B o5 rfl ?_
  refine zgf Y B hZ hown (ow23 hw) Via.refl e0 S2 o6 fun _ Y e30 => ?_
  refine zln Y B hZ e30 S3 o7 ?_
  refine zalN Y B o8 rfl ?_
  refine zcv Y B hZ hown (ow59 hw) (ow60 hw) (notFace_of_selects (args := #[]) (mvT hZ (ow62 hw))) (ow62 hw) (ow61 hw) (ow3 hw) (ow63 hw) (by decide) S0 (rm_scoder l Z a0 hw [] x G1 h0 n0 (Nat.le_trans Z0 (Nat.le_refl _)) S0 S1 O2 P5 X00) e30 hml opd_0 rfl o9 rfl rfl rfl rfl rfl fun _ T32 _ Y hQ => ?_
  obtain ⟨rfl, N32q, e32⟩ := hQ
  have N32 := Fr.app N0 N32q
  refine zishr Y B o10 rfl ?_
  rw [shr0 (Int32.ofNat ds.length)]
  exact zrI Y B hret hlk o11 e32 ⟨rfl, N32, rfl⟩ rfl rfl
def Q_prechk0 (Z : State) (i j : Nat) (h0 : Heap) (n0 : Nat) : QT := fun rv hE LE => rv = some (.int (Int32.ofNat i)) ∧ Fr n0 LE ∧ hE = h0
theorem rm_prechk0 (l : Launch) (Z : State) (a0 : Array Value) (hw : HW a0 Z) (ws : List Jvm.Cond) (i j : Nat) (h0 : Heap) (n0 : Nat) (Z0 : n0 ≤ h0.size) (HI : i < j) (HB : j < 2 ^ 31) :
    MF l Z mn2 (Jvm.Cond.code mn2 cB2 3 (Option.some Jvm.ClassFile.FieldType.int)) ws Ro0 #[(.int (Int32.ofNat i)), (.int (Int32.ofNat j)), .null] h0 (Q_prechk0 Z i j h0 n0) := by
  refine MF.of ss11 rfl #[iv (Int32.ofNat i), iv (Int32.ofNat j), .val .null] (plainFor_of_name opn_1) (fun _ => rfl) ?_
  intro p e s m below meth c _ hZ hh B hml hret hlk hown hnm Y e0
  have N0 := Fr.nil n0
  refine zilN Y B o12 rfl ?_
  refine zN Y B o13 ((if0 _ _).trans (flt (show ¬ ((Int32.ofNat i) < (0 : Int32)) from (on_pos (by omega)))).1) ?_
  refine zilN Y B o14 rfl <| zilN Y B o15 rfl ?_
  refine zCY Y B j1 (tlt (show (Int32.ofNat i) < (Int32.ofNat j) from (on_lt HI HB))).1 ?_
  refine zilN Y B o16 rfl ?_
  exact zrI Y B hret hlk o17 e0 ⟨rfl, N0, rfl⟩ rfl rfl
def Q_prechk1 (Z : State) (i j : Nat) (g3 : Addr) (h0 : Heap) (n0 : Nat) : QT := fun rv hE LE => rv = some (.int (Int32.ofNat i)) ∧ Fr n0 LE ∧ hE = h0
theorem rm_prechk1 (l : Launch) (Z : State) (a0 : Array Value) (hw : HW a0 Z) (ws : List Jvm.Cond) (i j : Nat) (g3 : Addr) (h0 : Heap) (n0 : Nat) (Z0 : n0 ≤ h0.size) (HI : i < j) (HB : j < 2 ^ 31) :
    MF l Z mn2 (Jvm.Cond.code mn2 cB2 3 (Option.some Jvm.ClassFile.FieldType.int)) ws Ro0 #[(.int (Int32.ofNat i)), (.int (Int32.ofNat j)), (.ref g3)] h0 (Q_prechk1 Z i j g3 h0 n0) := by
  refine MF.of ss11 rfl #[iv (Int32.ofNat i), iv (Int32.ofNat j), rv g3] (plainFor_of_name opn_1) (fun _ => rfl) ?_
  intro p e s m below meth c _ hZ hh B hml hret hlk hown hnm Y e0
  have N0 := Fr.nil n0
  refine zilN Y B o12 rfl ?_
  refine zN Y B o13 ((if0 _ _).trans (flt (show ¬ ((Int32.ofNat i) < (0 : Int32)) from (on_pos (by omega)))).1) ?_
  refine zilN Y B o14 rfl <| zilN Y B o15 rfl ?_
  refine zCY Y B j1 (tlt (show (Int32.ofNat i) < (Int32.ofNat j) from (on_lt HI HB))).1 ?_
  refine zilN Y B o16 rfl ?_
  exact zrI Y B hret hlk o17 e0 ⟨rfl, N0, rfl⟩ rfl rfl
def Q_schk (Z : State) (i j : Nat) (G3 : Value) (h0 : Heap) (n0 : Nat) : QT := fun rv hE LE => rv = none ∧ Fr n0 LE ∧ hE = h0
theorem rm_schk (l : Launch) (Z : State) (a0 : Array Value) (hw : HW a0 Z) (ws : List Jvm.Cond) (i j : Nat) (G3 : Value) (h0 : Heap) (n0 : Nat) (Z0 : n0 ≤ h0.size) (HI : i < j) (HB : j < 2 ^ 31) (O4 : Sta Z Z.heap ss11 ss13 ss14 G3) (rG3 : G3.isRef = true) (X00 : Old Z n0 h0) :
    MF l Z mn3 (Jvm.Cond.code mn3 cB3 2 (Option.none : Option Jvm.ClassFile.FieldType)) ws Ro2 #[(.int (Int32.ofNat i)), (.int (Int32.ofNat j))] h0 (Q_schk Z i j G3 h0 n0) := by
  refine MF.of ss0 rfl #[iv (Int32.ofNat i), iv (Int32.ofNat j)] (plainFor_of_name opn_0) (fun _ => rfl) ?_
  intro p e s m below meth c _ hZ hh B hml hret hlk hown hnm Y e0
  have N0 := Fr.nil n0
  refine zilN Y B o18 rfl <| zilN Y B o19 rfl ?_
  rcases ref_cases rG3 with rfl | ⟨g3, rfl⟩
  · show Go p e below _ _ (mkF m 2 #[iv (Int32.ofNat i), iv (Int32.ofNat j)] [(.int (Int32.ofNat j)), (.int (Int32.ofNat i))])
    refine zgs Y B hZ hown (ow190 hw) e0 (O4.ext X00.2) o20 fun _ Y e30 => ?_
    refine zcs Y B hZ hown (ow192 hw) (ow193 hw) (ow191 hw) (ow194 hw) (by decide) (rm_prechk0 l Z a0 hw [] i j h0 n0 (Nat.le_trans Z0 (Nat.le_refl _)) HI HB) e30 hml opd_1 rfl o21 rfl rfl rfl rfl rfl fun _ T31 _ Y hQ => ?_
    obtain ⟨rfl, N31q, e31⟩ := hQ
    have N31 := Fr.app N0 N31q
    refine zpop Y B o22 rfl ?_
    exact zr0 Y B hret hlk o23 e31 ⟨rfl, N31, rfl⟩ rfl rfl
  · show Go p e below _ _ (mkF m 2 #[iv (Int32.ofNat i), iv (Int32.ofNat j)] [(.int (Int32.ofNat j)), (.int (Int32.ofNat i))])
    refine zgs Y B hZ hown (ow190 hw) e0 (O4.ext X00.2) o20 fun _ Y e32 => ?_
    refine zcs Y B hZ hown (ow192 hw) (ow193 hw) (ow191 hw) (ow194 hw) (by decide) (rm_prechk1 l Z a0 hw [] i j g3 h0 n0 (Nat.le_trans Z0 (Nat.le_refl _)) HI HB) e32 hml opd_1 rfl o21 rfl rfl rfl rfl rfl fun _ T33 _ Y hQ => ?_
    obtain ⟨rfl, N33q, e33⟩ := hQ
    have N33 := Fr.app N0 N33q
    refine zpop Y B o22 rfl ?_
    exact zr0 Y B hret hlk o23 e33 ⟨rfl, N33, rfl⟩ rfl rfl
def Q_l1char (Z : State) (t : Addr) (kt : ClassId) (ds : List Int32) (i : Nat) (G3 : Value) (h0 : Heap) (n0 : Nat) : QT := fun rv hE LE => rv = some (.int (ds.getD i 0)) ∧ Fr n0 LE ∧ hE = h0
theorem rm_l1char (l : Launch) (Z : State) (a0 : Array Value) (hw : HW a0 Z) (ws : List Jvm.Cond) (t : Addr) (kt : ClassId) (ds : List Int32) (i : Nat) (G3 : Value) (h0 : Heap) (n0 : Nat) (Z0 : n0 ≤ h0.size) (S3 : Arv Z h0 t kt .byte (Int32.ofNat ds.length) (B8 ds) (.int 0)) (HLO : ∀ c ∈ ds, ¬ c < 0 ∧ ¬ (255 : Int32) < c) (HI : i < ds.length) (HB : ds.length < 2 ^ 31) (O4 : Sta Z Z.heap ss11 ss13 ss14 G3) (rG3 : G3.isRef = true) (X00 : Old Z n0 h0) :
    MF l Z mn4 (Jvm.Cond.code mn4 cB4 2 (Option.some Jvm.ClassFile.FieldType.char)) ws Ro3 #[(.ref t), (.int (Int32.ofNat i))] h0 (Q_l1char Z t kt ds i G3 h0 n0) := by
  refine MF.of ss15 rfl #[rv t, iv (Int32.ofNat i)] (plainFor_of_name opn_2) (fun _ => rfl) ?_
  intro p e s m below meth c _ hZ hh B hml hret hlk hown hnm Y e0
  have N0 := Fr.nil n0
  refine zilN Y B o24 rfl <| zalN Y B o25 rfl ?_
  refine zln Y B hZ e0 S3 o26 ?_
  refine zcs Y B hZ hown (ow187 hw) (ow188 hw) (ow3 hw) (ow189 hw) (by decide) (rm_schk l Z a0 hw [] i ds.length G3 h0 n0 (Nat.le_trans Z0 (Nat.le_refl _)) HI HB O4 rG3 X00) e0 hml opd_2 rfl o27 rfl rfl rfl rfl rfl fun _ T31 _ Y hQ => ?_
  obtain ⟨rfl, N31q, e31⟩ := hQ
  have N31 := Fr.app N0 N31q
  refine zalN Y B o28 rfl <| zilN Y B o29 rfl ?_
  refine zlb Y B hZ e31 S3 (v := (.int ((ds.getD i 0).toInt8.toInt32))) ⟨on_pos (by omega), on_lt HI HB⟩ (b8_at (by omega)) o30 ?_
  refine zsp Y B o31 (v := 255) rfl <| ziand Y B o32 rfl <| zi2c Y B o33 rfl ?_
  exact zrN Y B (t := .char) hret (by simp) hlk o34 e31 ⟨(by rw [(lo_back (getD_lo HLO i)).1, (lo_back (getD_lo HLO i)).2]), N31, rfl⟩ rfl rfl
def Q_sl1 (Z : State) (x : Addr) (G1 : Int32) (h0 : Heap) (n0 : Nat) : QT := fun rv hE LE => rv = some (.int 1) ∧ Fr n0 LE ∧ hE = h0
theorem rm_sl1 (l : Launch) (Z : State) (a0 : Array Value) (hw : HW a0 Z) (ws : List Jvm.Cond) (x : Addr) (G1 : Int32) (h0 : Heap) (n0 : Nat) (Z0 : n0 ≤ h0.size) (S0 : Exa Z h0 x ss0) (S1 : Fld Z h0 x ss0 ss2 "B" (.int 0)) (O2 : Sta Z Z.heap ss0 ss6 "Z" (.int G1)) (P5 : ¬ (G1 = (0 : Int32))) (X00 : Old Z n0 h0) :
    MF l Z mn5 (Jvm.Cond.code mn5 cB5 1 (Option.some Jvm.ClassFile.FieldType.boolean)) ws Ro0 #[(.ref x)] h0 (Q_sl1 Z x G1 h0 n0) := by
  refine MF.of ss0 rfl #[rv x] (plainFor_of_name opn_0) (fun _ => rfl) ?_
  intro p e s m below meth c _ hZ hh B hml hret hlk hown hnm Y e0
  have N0 := Fr.nil n0
  refine zgs Y B hZ hown (ow5 hw) e0 (O2.ext X00.2) o35 fun _ Y e30 => ?_
  refine zN Y B o36 ((if0 _ _).trans (feq P5).1) ?_
  refine zalN Y B o37 rfl ?_
  refine zgf Y B hZ hown (ow25 hw) Via.refl e30 S1 o38 fun _ Y e31 => ?_
  refine zN Y B o39 (by decide) ?_
  refine zc1 Y B o40 <| zgo Y B j2 ?_
  exact zrN Y B (t := .boolean) hret (by simp) hlk o41 e31 ⟨rfl, N0, rfl⟩ rfl rfl
def Q_schar (Z : State) (x t : Addr) (kt : ClassId) (ds : List Int32) (i : Nat) (G1 : Int32) (G3 : Value) (h0 : Heap) (n0 : Nat) : QT := fun rv hE LE => rv = some (.int (ds.getD i 0)) ∧ Fr n0 LE ∧ hE = h0
theorem rm_schar (l : Launch) (Z : State) (a0 : Array Value) (hw : HW a0 Z) (ws : List Jvm.Cond) (x t : Addr) (kt : ClassId) (ds : List Int32) (i : Nat) (G1 : Int32) (G3 : Value) (h0 : Heap) (n0 : Nat) (Z0 : n0 ≤ h0.size) (S0 : Exa Z h0 x ss0) (S1 : Fld Z h0 x ss0 ss2 "B" (.int 0)) (S2 : Fld Z h0 x ss0 ss3 "[B" (.ref t)) (S3 : Arv Z h0 t kt .byte (Int32.ofNat ds.length) (B8 ds) (.int 0)) (HLO : ∀ c ∈ ds, ¬ c < 0 ∧ ¬ (255 : Int32) < c) (HI : i < ds.length) (HB : ds.length < 2 ^ 31) (O2 : Sta Z Z.heap ss0 ss6 "Z" (.int G1)) (P5 : ¬ (G1 = (0 : Int32))) (X00 : Old Z n0 h0) (O4 : Sta Z Z.heap ss11 ss13 ss14 G3) (rG3 : G3.isRef = true) :
    MF l Z mn6 (Jvm.Cond.code mn6 cB6 2 (Option.some Jvm.ClassFile.FieldType.char)) ws Ro4 #[(.ref x), (.int (Int32.ofNat i))] h0 (Q_schar Z x t kt ds i G1 G3 h0 n0) := by
  refine MF.of ss0 rfl #[rv x, iv (Int32.ofNat i)] (plainFor_of_name opn_0) (fun _ => rfl) ?_
  intro p e s m below meth c _ hZ hh B hml hret hlk hown hnm Y e0
  have N0 := Fr.nil n0
  refine zalN Y B o42 rfl ?_
  refine zcv Y B hZ hown (ow179 hw) (ow180 hw) (notFace_of_selects (args := #[]) (mvT hZ (ow182 hw))) (ow182 hw) (ow181 hw) (ow3 hw) (ow183 hw) (by decide) S0 (rm_sl1 l Z a0 hw [] x G1 h0 n0 (Nat.le_trans Z0 (Nat.le_refl _)) S0 S1 O2 P5 X00) e0 hml opd_3 rfl o43 rfl rfl rfl rfl rfl fun _ T30 _ Y hQ => ?_
  obtain ⟨rfl, N30q, e30⟩ := hQ
  have N30 := Fr.app N0 N30q
  refine zN Y B o44 (by decide) ?_
  refine zalN Y B o45 rfl ?_
  refine zgf Y B hZ hown (ow23 hw) Via.refl e30 S2 o46 fun _ Y e31 => ?_
  refine zilN Y B o47 rfl ?_
  refine zcs Y B hZ hown (ow184 hw) (ow185 hw) (ow8 hw) (ow186 hw) (by decide) (rm_l1char l Z a0 hw [] t kt ds i G3 h0 n0 (Nat.le_trans Z0 (Nat.le_refl _)) S3 HLO HI HB O4 rG3 X00) e31 hml opd_4 rfl o48 rfl rfl rfl rfl rfl fun _ T32 _ Y hQ => ?_
  obtain ⟨rfl, N32q, e32⟩ := hQ
  have N32 := Fr.app N30 N32q
  exact zrN Y B (t := .char) hret (by simp) hlk o49 e32 ⟨(by rw [(lo_back (getD_lo HLO i)).2]), N32, rfl⟩ rfl rfl
def Q_siniBB (Z : State) (x t : Addr) (h0 : Heap) (n0 : Nat) : QT := fun rv hE LE => rv = none ∧ Fr n0 LE ∧ Keep h0 hE [x] ∧ (Exa Z hE x ss0) ∧ (Fld Z hE x ss0 ss2 "B" (.int 0)) ∧ (Fld Z hE x ss0 ss3 "[B" (.ref t))
theorem rm_siniBB (l : Launch) (Z : State) (a0 : Array Value) (hw : HW a0 Z) (ws : List Jvm.Cond) (x t : Addr) (h0 : Heap) (n0 : Nat) (Z0 : n0 ≤ h0.size) (E1 : Exa Z h0 x ss0) (g_x : n0 ≤ x) (F1 : Fld Z h0 x ss0 ss3 "[B" .null) (F2 : Fld Z h0 x ss0 ss2 "B" (.int 0)) :
    MF l Z mn7 (Jvm.Cond.code mn7 cB7 3 (Option.none : Option Jvm.ClassFile.FieldType)) ws Ro5 #[(.ref x), (.ref t), (.int 0)] h0 (Q_siniBB Z x t h0 n0) := by
  refine MF.of ss0 rfl #[rv x, rv t, iv 0] (plainFor_of_name opn_0) (fun _ => rfl) ?_
  intro p e s m below meth c _ hZ hh B hml hret hlk hown hnm Y e0
  have N0 := Fr.nil n0
  have K0 := Keep.refl h0 [x]
  refine zalN Y B o50 rfl ?_
  refine Go.a3 (initO Y B.1 hZ hown (ow20 hw) (ow21 hw) (ow22 hw) e0 rfl (by rw [hml]; rfl) rfl (hb B.2 o51.1) (by decide) (W := 0) (by show 2 * 0 + _ ≤ _; exact Nat.le_of_eq rfl) (by decide)) fun _ Y e30 => ?_
  refine zalN Y B o52 rfl <| zalN Y B o53 rfl ?_
  refine Go.b3 (putF Y B.1 hZ hown (host := "") (Or.inl (ow23 hw)) Via.refl e30 F1 E1 (Or.inr ⟨(ow24 hw), rfl, hnm⟩) (ow11 hw) (ty := (.array .byte)) (by decide) rfl rfl rfl rfl (hb B.2 o54.1)) fun T31 h31 Y e31 W31 => ?_
  have N31 := Fr.snoc Y N0 g_x
  have K32 := K0.wr W31 (Or.inl (List.mem_of_getElem? (i := 0) rfl))
  refine zalN Y B o55 rfl <| zilN Y B o56 rfl ?_
  have F34 := (F2.other W31 (Or.inr (slot_ne (Or.inr (ow26 hw)) (Or.inr (ow24 hw)) (by decide) (t := .byte) (t' := (.array .byte)) (by decide) (by decide))))
  have F35 := (E1.wr W31)
  refine Go.b3 (putFN Y B.1 hZ hown (ow25 hw) Via.refl e31 F34 F35 (Or.inr ⟨(ow26 hw), rfl, hnm⟩) (ow11 hw) (ty := .byte) (v' := (.int (nar .byte (0 : Int32)))) (by decide) rfl (fits_nar_byte _) rfl rfl (hb B.2 o57.1)) fun T33 h33 Y e33 W33 => ?_
  have N33 := Fr.snoc Y N31 g_x
  have K36 := K32.wr W33 (Or.inl (List.mem_of_getElem? (i := 0) rfl))
  have F37 := (F35.wr W33)
  have F38 := ((F1.same W31).other W33 (Or.inr (slot_ne (Or.inr (ow24 hw)) (Or.inr (ow26 hw)) (by decide) (t := (.array .byte)) (t' := .byte) (by decide) (by decide))))
  exact zr0 Y B hret hlk o58 e33 ⟨rfl, N33, K36, F37, (F34.same W33), F38⟩ rfl rfl
def Q_canenc (Z : State) (u : Int32) (h0 : Heap) (n0 : Nat) : QT := fun rv hE LE => rv = some (.int 1) ∧ Fr n0 LE ∧ hE = h0
theorem rm_canenc (l : Launch) (Z : State) (a0 : Array Value) (hw : HW a0 Z) (ws : List Jvm.Cond) (u : Int32) (h0 : Heap) (n0 : Nat) (Z0 : n0 ≤ h0.size) (HC : ¬ (255 : Int32) < u) :
    MF l Z mn8 (Jvm.Cond.code mn8 cB8 1 (Option.some Jvm.ClassFile.FieldType.boolean)) ws Ro0 #[(.int u)] h0 (Q_canenc Z u h0 n0) := by
  refine MF.of ss15 rfl #[iv u] (plainFor_of_name opn_2) (fun _ => rfl) ?_
  intro p e s m below meth c _ hZ hh B hml hret hlk hown hnm Y e0
  have N0 := Fr.nil n0
  refine zilN Y B o59 rfl <| zsp Y B o60 (v := 255) rfl ?_
  refine zCN Y B o61 (flt HC).2.2.1 ?_
  refine zc1 Y B o62 <| zgo Y B j3 ?_
  exact zrN Y B (t := .boolean) hret (by simp) hlk o63 e0 ⟨rfl, N0, rfl⟩ rfl rfl
def Q_l1tob (Z : State) (u : Int32) (h0 : Heap) (n0 : Nat) : QT := fun rv hE LE => ∃ t : Addr, ∃ kt : ClassId, rv = some (.ref t) ∧ Fr n0 LE ∧ Keep h0 hE [] ∧ (h0.size ≤ t) ∧ (Arv Z hE t kt .byte (1 : Int32) (B8 [u]) (.int 0))
theorem rm_l1tob (l : Launch) (Z : State) (a0 : Array Value) (hw : HW a0 Z) (ws : List Jvm.Cond) (u : Int32) (h0 : Heap) (n0 : Nat) (Z0 : n0 ≤ h0.size)  :
    MF l Z mn9 (Jvm.Cond.code mn9 cB9 1 (Option.some (Jvm.ClassFile.FieldType.array Jvm.ClassFile.FieldType.byte))) ws Ro6 #[(.int u)] h0 (Q_l1tob Z u h0 n0) := by
  refine MF.of ss15 rfl #[iv u] (plainFor_of_name opn_2) (fun _ => rfl) ?_
  intro p e s m below meth c _ hZ hh B hml hret hlk hown hnm Y e0
  have N0 := Fr.nil n0
  have K0 := Keep.refl h0 []
  refine zc1 Y B o64 ?_
  refine znq Y B hZ (aty := .byte) (ow15 hw) e0 o65 (by decide) (cap := 1) (by decide) rfl rfl rfl (ad := "[B") (by decide +kernel) fun T30 h30 k30 b30 g30 Y e30 E30 A30 B30 => ?_
  have K31 := K0.ext E30
  have V30 : Arv Z h30 b30 k30 .byte (1 : Int32) [(.int 0)] (.int 0) := (Arv.new A30 (by decide)).pad (pad_rep [] (.int 0) 1)
  refine zdup Y B o66 rfl <| zc0 Y B o67 <| zilN Y B o68 rfl <| zi2b Y B o69 rfl ?_
  obtain ⟨c32, A32, q32, S32, M32, G32, J32⟩ := id V30
  refine Go.b1 (stB Y B.1 hZ e30 A32 (j := (0 : Int32)) (inb_of S32 ⟨by decide, by decide⟩) rfl rfl (hb B.2 o70.1)) fun T32 h32 Y e32 W32 => ?_
  have N32 := Fr.snoc Y N0 (Nat.le_trans (Nat.le_trans Z0 (Nat.le_refl _)) (Nat.le_of_eq g30.symm))
  have K33 := K31.wr W32 (Or.inr (Nat.le_trans (Nat.le_refl _) (Nat.le_of_eq g30.symm)))
  have V32 : Arv Z h32 b30 k30 .byte (1 : Int32) ([(.int (nar .byte (u.toInt8.toInt32)))]) (.int 0) := Arv.set A32 q32 S32 M32 G32 J32 (fits_nar_byte _) W32 0 rfl (Nat.le_of_ble_eq_true rfl)
  rw [nar_b8 u] at V32
  exact zrR Y B hret rfl rfl rfl hlk o71 e32 ⟨b30, k30, rfl, N32, K33, (Nat.le_trans (Nat.le_refl _) (Nat.le_of_eq g30.symm)), V32⟩ rfl rfl
def Q_svalof (Z : State) (u G1 : Int32) (h0 : Heap) (n0 : Nat) : QT := fun rv hE LE => ∃ x : Addr, ∃ t : Addr, ∃ kt : ClassId, rv = some (.ref x) ∧ Fr n0 LE ∧ Keep h0 hE [] ∧ (h0.size ≤ x) ∧ (h0.size ≤ t) ∧ (Exa Z hE x ss0) ∧ (Fld Z hE x ss0 ss2 "B" (.int 0)) ∧ (Fld Z hE x ss0 ss3 "[B" (.ref t)) ∧ (Arv Z hE t kt .byte (Int32.ofNat [u].length) (B8 [u]) (.int 0))
theorem rm_svalof (l : Launch) (Z : State) (a0 : Array Value) (hw : HW a0 Z) (ws : List Jvm.Cond) (u G1 : Int32) (h0 : Heap) (n0 : Nat) (Z0 : n0 ≤ h0.size) (HC : ¬ (255 : Int32) < u) (O2 : Sta Z Z.heap ss0 ss6 "Z" (.int G1)) (P5 : ¬ (G1 = (0 : Int32))) (X00 : Old Z n0 h0) :
    MF l Z mn10 (Jvm.Cond.code mn10 cB10 1 (Option.some (Jvm.ClassFile.FieldType.object ss0))) ws Ro7 #[(.int u)] h0 (Q_svalof Z u G1 h0 n0) := by
  refine MF.of ss0 rfl #[iv u] (plainFor_of_name opn_0) (fun _ => rfl) ?_
  intro p e s m below meth c _ hZ hh B hml hret hlk hown hnm Y e0
  have N0 := Fr.nil n0
  have K0 := Keep.refl h0 []
  refine zgs Y B hZ hown (ow5 hw) e0 (O2.ext X00.2) o72 fun _ Y e30 => ?_
  refine zN Y B o73 ((if0 _ _).trans (feq P5).1) ?_
  refine zilN Y B o74 rfl ?_
  refine zcs Y B hZ hown (ow6 hw) (ow7 hw) (ow8 hw) (ow9 hw) (by decide) (rm_canenc l Z a0 hw [] u h0 n0 (Nat.le_trans Z0 (Nat.le_refl _)) HC) e30 hml opd_5 rfl o75 rfl rfl rfl rfl rfl fun _ T31 _ Y hQ => ?_
  obtain ⟨rfl, N31q, e31⟩ := hQ
  have N31 := Fr.app N0 N31q
  refine zN Y B o76 (by decide) ?_
  refine zno Y B hZ hown (ow10 hw) (ow11 hw) (ow3 hw) e31 o77 rfl rfl fun T32 h32 b32 g32 Y e32 E32 A32 D32 U32 => ?_
  have K33 := K0.ext E32
  have O33 := X00.ext E32
  refine zdup Y B o78 rfl <| zilN Y B o79 rfl ?_
  refine zcs Y B hZ hown (ow12 hw) (ow13 hw) (ow8 hw) (ow14 hw) (by decide) (rm_l1tob l Z a0 hw [] u h32 n0 (Nat.le_trans Z0 K33.1) ) e32 hml opd_6 rfl o80 rfl rfl rfl rfl rfl fun _ T34 _ Y hQ => ?_
  obtain ⟨t_34, kt_34, rfl, N34q, K34q, P34_0, P34_1⟩ := hQ
  have N34 := Fr.app N31 N34q
  have K35 := K33.trans K34q all0
  have O35 := O33.keep K34q all0
  refine zc0 Y B o81 ?_
  have F37 := (A32.keep K34q)
  have F38 := ((D32 (Or.inr (ow24 hw)) (ty := (.array .byte)) (by decide)).keep K34q nin0)
  have F39 := ((D32 (Or.inr (ow26 hw)) (ty := .byte) (by decide)).keep K34q nin0)
  refine zci Y B hZ rfl hown (ow16 hw) (ow17 hw) (ow3 hw) (ow19 hw) (by decide) (rm_siniBB l Z a0 hw [] b32 t_34 T34.heap n0 (Nat.le_trans Z0 K35.1) F37 ((Nat.le_trans (Nat.le_trans Z0 (Nat.le_refl _)) (Nat.le_of_eq g32.symm))) F38 F39) rfl hml opd_7 rfl o82 rfl rfl rfl rfl rfl fun _ T36 _ Y hQ => ?_
  obtain ⟨rfl, N36q, K36q, P36_0, P36_1, P36_2⟩ := hQ
  have N36 := Fr.app N34 N36q
  have K40 := K35.trans K36q (allS (Or.inr (Nat.le_trans (Nat.le_refl _) (Nat.le_of_eq g32.symm))) all0)
  have O40 := O35.keep K36q (allS (Nat.le_trans (Nat.le_trans Z0 (Nat.le_refl _)) (Nat.le_of_eq g32.symm)) all0)
  have F41 := (P34_1.keep K36q (ninS (Ne.symm (Nat.ne_of_lt (Nat.lt_of_lt_of_le A32.lt P34_0))) nin0))
  exact zrR Y B hret rfl rfl rfl hlk o83 rfl ⟨b32, t_34, kt_34, rfl, N36, K40, (Nat.le_trans (Nat.le_refl _) (Nat.le_of_eq g32.symm)), (Nat.le_trans K33.1 P34_0), P36_0, P36_1, P36_2, F41⟩ rfl rfl
def Q_asbinit (Z : State) (b : Addr) (cap : Nat) (G1 : Int32) (h0 : Heap) (n0 : Nat) : QT := fun rv hE LE => ∃ v : Addr, ∃ kv : ClassId, rv = none ∧ Fr n0 LE ∧ Keep h0 hE [b] ∧ (h0.size ≤ v) ∧ (Exa Z hE b ss5) ∧ (Fld Z hE b ss1 ss2 "B" (.int 0)) ∧ (Fld Z hE b ss1 ss3 "[B" (.ref v)) ∧ (Fld Z hE b ss1 ss7 "I" (.int (Int32.ofNat ([] : List Int32).length))) ∧ (Arv Z hE v kv .byte (Int32.ofNat cap) (B8 ([] : List Int32)) (.int 0)) ∧ (Exa Z hE v "[B")
theorem rm_asbinit (l : Launch) (Z : State) (a0 : Array Value) (hw : HW a0 Z) (ws : List Jvm.Cond) (b : Addr) (cap : Nat) (G1 : Int32) (h0 : Heap) (n0 : Nat) (Z0 : n0 ≤ h0.size) (B0 : Exa Z h0 b ss5) (B1 : Fld Z h0 b ss1 ss2 "B" (.int 0)) (B2 : Fld Z h0 b ss1 ss3 "[B" .null) (B3 : Fld Z h0 b ss1 ss7 "I" (.int 0)) (g_b : n0 ≤ b) (HCAP : cap ≤ 13) (O2 : Sta Z Z.heap ss0 ss6 "Z" (.int G1)) (P5 : ¬ (G1 = (0 : Int32))) (X00 : Old Z n0 h0) :
    MF l Z mn11 (Jvm.Cond.code mn11 cB11 2 (Option.none : Option Jvm.ClassFile.FieldType)) ws Ro8 #[(.ref b), (.int (Int32.ofNat cap))] h0 (Q_asbinit Z b cap G1 h0 n0) := by
  refine MF.of ss1 rfl #[rv b, iv (Int32.ofNat cap)] (plainFor_of_name opn_3) (fun _ => rfl) ?_
  intro p e s m below meth c _ hZ hh B hml hret hlk hown hnm Y e0
  have N0 := Fr.nil n0
  have K0 := Keep.refl h0 [b]
  refine zalN Y B o84 rfl ?_
  refine Go.a3 (initO Y B.1 hZ hown (ow83 hw) (ow21 hw) (ow22 hw) e0 rfl (by rw [hml]; rfl) rfl (hb B.2 o85.1) (by decide) (W := 0) (by show 2 * 0 + _ ≤ _; exact Nat.le_of_eq rfl) (by decide)) fun _ Y e30 => ?_
  refine zgs Y B hZ hown (ow84 hw) e30 (O2.ext X00.2) o86 fun _ Y e31 => ?_
  refine zN Y B o87 ((if0 _ _).trans (feq P5).1) ?_
  refine zalN Y B o88 rfl <| zilN Y B o89 rfl ?_
  refine znq Y B hZ (aty := .byte) (ow15 hw) e31 o90 (on_pos (by omega)) (cap := 13) (by rw [on_nat (by omega)]; exact HCAP) rfl rfl rfl (ad := "[B") (by decide +kernel) fun T32 h32 k32 b32 g32 Y e32 E32 A32 B32 => ?_
  have K33 := K0.ext E32
  have O33 := X00.ext E32
  have F35 := (B2.ext E32)
  have F36 := (B0.ext E32)
  refine Go.b3 (putF Y B.1 hZ hown (host := "") (Or.inl (ow85 hw)) Via.refl e32 F35 F36 (Or.inl (ow86 hw)) (ow72 hw) (ty := (.array .byte)) (by decide) rfl rfl rfl rfl (hb B.2 o91.1)) fun T34 h34 Y e34 W34 => ?_
  have N34 := Fr.snoc Y N0 g_b
  have K37 := K33.wr W34 (Or.inl (List.mem_of_getElem? (i := 0) rfl))
  have O37 := O33.wr W34 g_b
  refine zalN Y B o92 rfl <| zc0 Y B o93 ?_
  have F39 := ((B1.ext E32).other W34 (Or.inr (slot_ne (Or.inl (ow88 hw)) (Or.inl (ow86 hw)) (by decide) (t := .byte) (t' := (.array .byte)) (by decide) (by decide))))
  have F40 := (F36.wr W34)
  refine Go.b3 (putFN Y B.1 hZ hown (ow87 hw) Via.refl e34 F39 F40 (Or.inl (ow88 hw)) (ow72 hw) (ty := .byte) (v' := (.int (nar .byte (0 : Int32)))) (by decide) rfl (fits_nar_byte _) rfl rfl (hb B.2 o94.1)) fun T38 h38 Y e38 W38 => ?_
  have N38 := Fr.snoc Y N34 g_b
  have K41 := K37.wr W38 (Or.inl (List.mem_of_getElem? (i := 0) rfl))
  have O41 := O37.wr W38 g_b
  refine zgo Y B j4 ?_
  have F42 := (F40.wr W38)
  have F43 := ((F35.same W34).other W38 (Or.inr (slot_ne (Or.inl (ow86 hw)) (Or.inl (ow88 hw)) (by decide) (t := (.array .byte)) (t' := .byte) (by decide) (by decide))))
  have F44 := (((B3.ext E32).other W34 (Or.inr (slot_ne (Or.inl (ow101 hw)) (Or.inl (ow86 hw)) (by decide) (t := .int) (t' := (.array .byte)) (by decide) (by decide)))).other W38 (Or.inr (slot_ne (Or.inl (ow101 hw)) (Or.inl (ow88 hw)) (by decide) (t := .int) (t' := .byte) (by decide) (by decide))))
  have F45 := (((Arv.new A32 (on_pos (by omega))).other W34 (Ne.symm (Nat.ne_of_lt (Nat.lt_of_lt_of_le B0.lt (Nat.le_of_eq g32.symm))))).other W38 (Ne.symm (Nat.ne_of_lt (Nat.lt_of_lt_of_le B0.lt (Nat.le_of_eq g32.symm)))))
  have F46 := ((B32.wr W34).wr W38)
  exact zr0 Y B hret hlk o95 e38 ⟨b32, k32, rfl, N38, K41, (Nat.le_trans (Nat.le_refl _) (Nat.le_of_eq g32.symm)), F42, (F39.same W38), F43, F44, F45, F46⟩ rfl rfl
def Q_sbinitI (Z : State) (b : Addr) (cap : Nat) (G1 : Int32) (h0 : Heap) (n0 : Nat) : QT := fun rv hE LE => ∃ v : Addr, ∃ kv : ClassId, rv = none ∧ Fr n0 LE ∧ Keep h0 hE [b] ∧ (h0.size ≤ v) ∧ (Exa Z hE b ss5) ∧ (Fld Z hE b ss1 ss2 "B" (.int 0)) ∧ (Fld Z hE b ss1 ss3 "[B" (.ref v)) ∧ (Fld Z hE b ss1 ss7 "I" (.int (Int32.ofNat ([] : List Int32).length))) ∧ (Arv Z hE v kv .byte (Int32.ofNat cap) (B8 ([] : List Int32)) (.int 0)) ∧ (Exa Z hE v "[B")
theorem rm_sbinitI (l : Launch) (Z : State) (a0 : Array Value) (hw : HW a0 Z) (ws : List Jvm.Cond) (b : Addr) (cap : Nat) (G1 : Int32) (h0 : Heap) (n0 : Nat) (Z0 : n0 ≤ h0.size) (B0 : Exa Z h0 b ss5) (B1 : Fld Z h0 b ss1 ss2 "B" (.int 0)) (B2 : Fld Z h0 b ss1 ss3 "[B" .null) (B3 : Fld Z h0 b ss1 ss7 "I" (.int 0)) (g_b : n0 ≤ b) (HCAP : cap ≤ 13) (O2 : Sta Z Z.heap ss0 ss6 "Z" (.int G1)) (P5 : ¬ (G1 = (0 : Int32))) (X00 : Old Z n0 h0) :
    MF l Z mn12 (Jvm.Cond.code mn12 cB12 2 (Option.none : Option Jvm.ClassFile.FieldType)) ws Ro9 #[(.ref b), (.int (Int32.ofNat cap))] h0 (Q_sbinitI Z b cap G1 h0 n0) := by
  refine MF.of ss5 rfl #[rv b, iv (Int32.ofNat cap)] (plainFor_of_name opn_4) (fun _ => rfl) ?_
  intro p e s m below meth c _ hZ hh B hml hret hlk hown hnm Y e0
  have N0 := Fr.nil n0
  have K0 := Keep.refl h0 [b]
  refine zalN Y B o96 rfl <| zilN Y B o97 rfl ?_
  refine zci Y B hZ rfl hown (ow77 hw) (ow78 hw) (ow81 hw) (ow82 hw) (by decide) (rm_asbinit l Z a0 hw [] b cap G1 h0 n0 (Nat.le_trans Z0 (Nat.le_refl _)) B0 B1 B2 B3 g_b HCAP O2 P5 X00) e0 hml opd_8 rfl o98 rfl rfl rfl rfl rfl fun _ T30 _ Y hQ => ?_
  obtain ⟨v_30, kv_30, rfl, N30q, K30q, P30_0, P30_1, P30_2, P30_3, P30_4, P30_5, P30_6⟩ := hQ
  have N30 := Fr.app N0 N30q
  have K31 := K0.trans K30q (allS (Or.inl (List.mem_of_getElem? (i := 0) rfl)) all0)
  have O31 := X00.keep K30q (allS g_b all0)
  exact zr0 Y B hret hlk o99 rfl ⟨v_30, kv_30, rfl, N30, K31, (Nat.le_trans (Nat.le_refl _) P30_0), P30_1, P30_2, P30_3, P30_4, P30_5, P30_6⟩ rfl rfl
def Q_ens0 (Z : State) (b v : Addr) (kv : ClassId) (cap : Nat) (cs : List Int32) (mc : Nat) (h0 : Heap) (n0 : Nat) : QT := fun rv hE LE => rv = none ∧ Fr n0 LE ∧ hE = h0
theorem rm_ens0 (l : Launch) (Z : State) (a0 : Array Value) (hw : HW a0 Z) (ws : List Jvm.Cond) (b v : Addr) (kv : ClassId) (cap : Nat) (cs : List Int32) (mc : Nat) (h0 : Heap) (n0 : Nat) (Z0 : n0 ≤ h0.size) (B0 : Exa Z h0 b ss5) (B1 : Fld Z h0 b ss1 ss2 "B" (.int 0)) (B2 : Fld Z h0 b ss1 ss3 "[B" (.ref v)) (B3 : Fld Z h0 b ss1 ss7 "I" (.int (Int32.ofNat cs.length))) (B4 : Arv Z h0 v kv .byte (Int32.ofNat cap) (B8 cs) (.int 0)) (B5 : Exa Z h0 v "[B") (HMC : mc ≤ cap) (HCB : cap < 2 ^ 31) :
    MF l Z mn13 (Jvm.Cond.code mn13 cB13 3 (Option.none : Option Jvm.ClassFile.FieldType)) ws Ro0 #[(.ref b), (.int (Int32.ofNat mc))] h0 (Q_ens0 Z b v kv cap cs mc h0 n0) := by
  refine MF.of ss1 rfl #[rv b, iv (Int32.ofNat mc), un] (plainFor_of_name opn_3) (fun _ => rfl) ?_
  intro p e s m below meth c _ hZ hh B hml hret hlk hown hnm Y e0
  have N0 := Fr.nil n0
  refine zalN Y B o100 rfl ?_
  refine zgf Y B hZ hown (ow85 hw) Via.refl e0 B2 o101 fun _ Y e30 => ?_
  refine zln Y B hZ e30 B4 o102 ?_
  refine zalN Y B o103 rfl ?_
  refine zgf Y B hZ hown (ow87 hw) Via.refl e30 B1 o104 fun _ Y e32 => ?_
  refine zishr Y B o105 rfl ?_
  rw [shr0 (Int32.ofNat cap)]
  refine zisN Y B o106 (s2 rfl) <| zilN Y B o107 rfl <| zilN Y B o108 rfl <| zisub Y B o109 rfl ?_
  rw [show ((Int32.ofNat mc) - (Int32.ofNat cap)) = (Int32.ofNat mc - Int32.ofNat cap) from rfl]
  refine zY Y B j5 ((if0 _ _).trans (flt (show ¬ ((0 : Int32) < (Int32.ofNat mc - Int32.ofNat cap)) from (on_subneg HMC HCB))).2.2.2) ?_
  exact zr0 Y B hret hlk o110 e32 ⟨rfl, N0, rfl⟩ rfl rfl
def Q_infl0 (Z : State) (b x : Addr) (G1 : Int32) (h0 : Heap) (n0 : Nat) : QT := fun rv hE LE => rv = none ∧ Fr n0 LE ∧ hE = h0
theorem rm_infl0 (l : Launch) (Z : State) (a0 : Array Value) (hw : HW a0 Z) (ws : List Jvm.Cond) (b x : Addr) (G1 : Int32) (h0 : Heap) (n0 : Nat) (Z0 : n0 ≤ h0.size) (B0 : Exa Z h0 b ss5) (B1 : Fld Z h0 b ss1 ss2 "B" (.int 0)) (S0 : Exa Z h0 x ss0) (S1 : Fld Z h0 x ss0 ss2 "B" (.int 0)) (O2 : Sta Z Z.heap ss0 ss6 "Z" (.int G1)) (P5 : ¬ (G1 = (0 : Int32))) (X00 : Old Z n0 h0) :
    MF l Z mn14 (Jvm.Cond.code mn14 cB14 2 (Option.none : Option Jvm.ClassFile.FieldType)) ws Ro1 #[(.ref b), (.ref x)] h0 (Q_infl0 Z b x G1 h0 n0) := by
  refine MF.of ss1 rfl #[rv b, rv x] (plainFor_of_name opn_3) (fun _ => rfl) ?_
  intro p e s m below meth c _ hZ hh B hml hret hlk hown hnm Y e0
  have N0 := Fr.nil n0
  refine zgs Y B hZ hown (ow84 hw) e0 (O2.ext X00.2) o111 fun _ Y e30 => ?_
  refine zN Y B o112 ((if0 _ _).trans (feq P5).1) ?_
  refine zalN Y B o113 rfl ?_
  refine zgf Y B hZ hown (ow87 hw) Via.refl e30 B1 o114 fun _ Y e31 => ?_
  refine zalN Y B o115 rfl ?_
  refine zcv Y B hZ hown (ow117 hw) (ow60 hw) (notFace_of_selects (args := #[]) (mvT hZ (ow62 hw))) (ow62 hw) (ow61 hw) (ow3 hw) (ow63 hw) (by decide) S0 (rm_scoder l Z a0 hw [] x G1 h0 n0 (Nat.le_trans Z0 (Nat.le_refl _)) S0 S1 O2 P5 X00) e31 hml opd_0 rfl o116 rfl rfl rfl rfl rfl fun _ T32 _ Y hQ => ?_
  obtain ⟨rfl, N32q, e32⟩ := hQ
  have N32 := Fr.app N0 N32q
  refine zCY Y B j6 (by decide) ?_
  exact zr0 Y B hret hlk o117 e32 ⟨rfl, N32, rfl⟩ rfl rfl
def Q_sgetb (Z : State) (x t : Addr) (kt : ClassId) (ds : List Int32) (v : Addr) (kv : ClassId) (cap : Nat) (cs : List Int32) (G1 : Int32) (h0 : Heap) (n0 : Nat) : QT := fun rv hE LE => rv = none ∧ Fr n0 LE ∧ Keep h0 hE [v] ∧ (Arv Z hE v kv .byte (Int32.ofNat cap) (B8 (cs ++ ds)) (.int 0))
theorem rm_sgetb (l : Launch) (Z : State) (a0 : Array Value) (hw : HW a0 Z) (ws : List Jvm.Cond) (x t : Addr) (kt : ClassId) (ds : List Int32) (v : Addr) (kv : ClassId) (cap : Nat) (cs : List Int32) (G1 : Int32) (h0 : Heap) (n0 : Nat) (Z0 : n0 ≤ h0.size) (S0 : Exa Z h0 x ss0) (S1 : Fld Z h0 x ss0 ss2 "B" (.int 0)) (S2 : Fld Z h0 x ss0 ss3 "[B" (.ref t)) (S3 : Arv Z h0 t kt .byte (Int32.ofNat ds.length) (B8 ds) (.int 0)) (B4 : Arv Z h0 v kv .byte (Int32.ofNat cap) (B8 cs) (.int 0)) (HR : cs.length + ds.length ≤ cap) (HCB : cap < 2 ^ 31) (g_v : n0 ≤ v) (O2 : Sta Z Z.heap ss0 ss6 "Z" (.int G1)) (P5 : ¬ (G1 = (0 : Int32))) (X00 : Old Z n0 h0) :
    MF l Z mn15 (Jvm.Cond.code mn15 cB15 4 (Option.none : Option Jvm.ClassFile.FieldType)) ws Ro10 #[(.ref x), (.ref v), (.int (Int32.ofNat cs.length)), (.int 0)] h0 (Q_sgetb Z x t kt ds v kv cap cs G1 h0 n0) := by
  refine MF.of ss0 rfl #[rv x, rv v, iv (Int32.ofNat cs.length), iv 0] (plainFor_of_name opn_0) (fun _ => rfl) ?_
  intro p e s m below meth c _ hZ hh B hml hret hlk hown hnm Y e0
  have N0 := Fr.nil n0
  have K0 := Keep.refl h0 [v]
  refine zalN Y B o118 rfl ?_
  refine zcv Y B hZ hown (ow59 hw) (ow60 hw) (notFace_of_selects (args := #[]) (mvT hZ (ow62 hw))) (ow62 hw) (ow61 hw) (ow3 hw) (ow63 hw) (by decide) S0 (rm_scoder l Z a0 hw [] x G1 h0 n0 (Nat.le_trans Z0 (Nat.le_refl _)) S0 S1 O2 P5 X00) e0 hml opd_0 rfl o119 rfl rfl rfl rfl rfl fun _ T30 _ Y hQ => ?_
  obtain ⟨rfl, N30q, e30⟩ := hQ
  have N30 := Fr.app N0 N30q
  refine zilN Y B o120 rfl <| zCN Y B o121 (by decide) ?_
  refine zalN Y B o122 rfl ?_
  refine zgf Y B hZ hown (ow23 hw) Via.refl e30 S2 o123 fun _ Y e31 => ?_
  refine zc0 Y B o124 <| zalN Y B o125 rfl <| zilN Y B o126 rfl <| zilN Y B o127 rfl <| zishl Y B o128 rfl ?_
  rw [shl0 (Int32.ofNat cs.length)]
  refine zalN Y B o129 rfl ?_
  refine zgf Y B hZ hown (ow23 hw) Via.refl e31 S2 o130 fun _ Y e32 => ?_
  refine zln Y B hZ e32 S3 o131 ?_
  obtain ⟨T34, h34, L34, Y, e34, N34, K34, A34, st34⟩ := own_cpy Y B.1 hZ hown (ow123 hw) (ow126 hw) (ow124 hw) (ow125 hw) e32 (cs := ds) (es := cs) (ca := ds.length) (cb := cap) (n := ds.length) S3 B4 rfl rfl (Nat.le_refl _) (Nat.le_refl _) HR (by omega) HCB N30 g_v (g := (mkF m 22 #[rv x, rv v, iv (Int32.ofNat cs.length), iv 0] [(.int (Int32.ofNat ds.length)), (.int (Int32.ofNat cs.length)), (.ref v), (.int 0), (.ref t)])) rfl (by rw [hml]; rfl) rfl (hb B.2 o132.1) (by decide) (W := 0) (by show 2 * 0 + _ ≤ _; exact Nat.le_of_eq rfl) (by decide)
  refine Go.by st34 ?_
  have K35 := K0.trans K34 (allS (Or.inl (List.mem_of_getElem? (i := 0) rfl)) all0)
  have O35 := X00.keep K34 (allS g_v all0)
  show Go p e below _ _ (mkF m 25 #[rv x, rv v, iv (Int32.ofNat cs.length), iv 0] [])
  refine zgo Y B j7 ?_
  exact zr0 Y B hret hlk o133 e34 ⟨rfl, N34, K35, A34⟩ rfl rfl
def Q_putstr (Z : State) (b v : Addr) (kv : ClassId) (cap : Nat) (cs : List Int32) (x t : Addr) (kt : ClassId) (ds : List Int32) (G1 : Int32) (h0 : Heap) (n0 : Nat) : QT := fun rv hE LE => rv = none ∧ Fr n0 LE ∧ Keep h0 hE [v] ∧ (Arv Z hE v kv .byte (Int32.ofNat cap) (B8 (cs ++ ds)) (.int 0))
theorem rm_putstr (l : Launch) (Z : State) (a0 : Array Value) (hw : HW a0 Z) (ws : List Jvm.Cond) (b v : Addr) (kv : ClassId) (cap : Nat) (cs : List Int32) (x t : Addr) (kt : ClassId) (ds : List Int32) (G1 : Int32) (h0 : Heap) (n0 : Nat) (Z0 : n0 ≤ h0.size) (B0 : Exa Z h0 b ss5) (B1 : Fld Z h0 b ss1 ss2 "B" (.int 0)) (B2 : Fld Z h0 b ss1 ss3 "[B" (.ref v)) (B3 : Fld Z h0 b ss1 ss7 "I" (.int (Int32.ofNat cs.length))) (B4 : Arv Z h0 v kv .byte (Int32.ofNat cap) (B8 cs) (.int 0)) (B5 : Exa Z h0 v "[B") (S0 : Exa Z h0 x ss0) (S1 : Fld Z h0 x ss0 ss2 "B" (.int 0)) (S2 : Fld Z h0 x ss0 ss3 "[B" (.ref t)) (S3 : Arv Z h0 t kt .byte (Int32.ofNat ds.length) (B8 ds) (.int 0)) (HR : cs.length + ds.length ≤ cap) (HCB : cap < 2 ^ 31) (g_v : n0 ≤ v) (O2 : Sta Z Z.heap ss0 ss6 "Z" (.int G1)) (P5 : ¬ (G1 = (0 : Int32))) (X00 : Old Z n0 h0) :
    MF l Z mn16 (Jvm.Cond.code mn16 cB16 3 (Option.none : Option Jvm.ClassFile.FieldType)) ws Ro11 #[(.ref b), (.int (Int32.ofNat cs.length)), (.ref x)] h0 (Q_putstr Z b v kv cap cs x t kt ds G1 h0 n0) := by
  refine MF.of ss1 rfl #[rv b, iv (Int32.ofNat cs.length), rv x] (plainFor_of_name opn_3) (fun _ => rfl) ?_
  intro p e s m below meth c _ hZ hh B hml hret hlk hown hnm Y e0
  have N0 := Fr.nil n0
  have K0 := Keep.refl h0 [v]
  refine zalN Y B o134 rfl <| zalN Y B o135 rfl ?_
  refine zcp Y B hZ hown (ow112 hw) (ow113 hw) (own_selp (ow113 hw) (ow114 hw) (ow115 hw) (by decide)) (ow114 hw) (ow81 hw) (ow116 hw) (by decide) B0 (rm_infl0 l Z a0 hw [] b x G1 h0 n0 (Nat.le_trans Z0 (Nat.le_refl _)) B0 B1 S0 S1 O2 P5 X00) e0 hml opd_9 rfl o136 rfl rfl rfl rfl rfl fun _ T30 _ Y hQ => ?_
  obtain ⟨rfl, N30q, e30⟩ := hQ
  have N30 := Fr.app N0 N30q
  refine zalN Y B o137 rfl <| zalN Y B o138 rfl ?_
  refine zgf Y B hZ hown (ow85 hw) Via.refl e30 B2 o139 fun _ Y e31 => ?_
  refine zilN Y B o140 rfl <| zalN Y B o141 rfl ?_
  refine zgf Y B hZ hown (ow87 hw) Via.refl e31 B1 o142 fun _ Y e32 => ?_
  refine zcv Y B hZ hown (ow118 hw) (ow119 hw) (notFace_of_selects (args := #[]) (mvT hZ (ow121 hw))) (ow121 hw) (ow120 hw) (ow3 hw) (ow122 hw) (by decide) S0 (rm_sgetb l Z a0 hw [] x t kt ds v kv cap cs G1 h0 n0 (Nat.le_trans Z0 (Nat.le_refl _)) S0 S1 S2 S3 B4 HR HCB g_v O2 P5 X00) e32 hml opd_10 rfl o143 rfl rfl rfl rfl rfl fun _ T33 _ Y hQ => ?_
  obtain ⟨rfl, N33q, K33q, P33_0⟩ := hQ
  have N33 := Fr.app N30 N33q
  have K34 := K0.trans K33q (allS (Or.inl (List.mem_of_getElem? (i := 0) rfl)) all0)
  have O34 := X00.keep K33q (allS g_v all0)
  exact zr0 Y B hret hlk o144 rfl ⟨rfl, N33, K34, P33_0⟩ rfl rfl
def Q_asbappS (Z : State) (b v : Addr) (kv : ClassId) (cap : Nat) (cs : List Int32) (x t : Addr) (kt : ClassId) (ds : List Int32) (G1 : Int32) (h0 : Heap) (n0 : Nat) : QT := fun rv hE LE => rv = some (.ref b) ∧ Fr n0 LE ∧ Keep h0 hE [b, v] ∧ (Exa Z hE b ss5) ∧ (Fld Z hE b ss1 ss2 "B" (.int 0)) ∧ (Fld Z hE b ss1 ss3 "[B" (.ref v)) ∧ (Fld Z hE b ss1 ss7 "I" (.int (Int32.ofNat (cs ++ ds).length))) ∧ (Arv Z hE v kv .byte (Int32.ofNat cap) (B8 (cs ++ ds)) (.int 0)) ∧ (Exa Z hE v "[B")
theorem rm_asbappS (l : Launch) (Z : State) (a0 : Array Value) (hw : HW a0 Z) (ws : List Jvm.Cond) (b v : Addr) (kv : ClassId) (cap : Nat) (cs : List Int32) (x t : Addr) (kt : ClassId) (ds : List Int32) (G1 : Int32) (h0 : Heap) (n0 : Nat) (Z0 : n0 ≤ h0.size) (B0 : Exa Z h0 b ss5) (B1 : Fld Z h0 b ss1 ss2 "B" (.int 0)) (B2 : Fld Z h0 b ss1 ss3 "[B" (.ref v)) (B3 : Fld Z h0 b ss1 ss7 "I" (.int (Int32.ofNat cs.length))) (B4 : Arv Z h0 v kv .byte (Int32.ofNat cap) (B8 cs) (.int 0)) (B5 : Exa Z h0 v "[B") (S0 : Exa Z h0 x ss0) (S1 : Fld Z h0 x ss0 ss2 "B" (.int 0)) (S2 : Fld Z h0 x ss0 ss3 "[B" (.ref t)) (S3 : Arv Z h0 t kt .byte (Int32.ofNat ds.length) (B8 ds) (.int 0)) (HR : cs.length + ds.length ≤ cap) (HCB : cap < 2 ^ 31) (g_v : n0 ≤ v) (g_b : n0 ≤ b) (O2 : Sta Z Z.heap ss0 ss6 "Z" (.int G1)) (P5 : ¬ (G1 = (0 : Int32))) (X00 : Old Z n0 h0) :
    MF l Z mn17 (Jvm.Cond.code mn17 cB17 3 (Option.some (Jvm.ClassFile.FieldType.object ss1))) ws Ro12 #[(.ref b), (.ref x)] h0 (Q_asbappS Z b v kv cap cs x t kt ds G1 h0 n0) := by
  refine MF.of ss1 rfl #[rv b, rv x, un] (plainFor_of_name opn_3) (fun _ => rfl) ?_
  intro p e s m below meth c _ hZ hh B hml hret hlk hown hnm Y e0
  have N0 := Fr.nil n0
  have K0 := Keep.refl h0 [b, v]
  refine zalN Y B o145 rfl <| znnY Y B j8 <| zalN Y B o146 rfl ?_
  refine zcv Y B hZ hown (ow99 hw) (ow55 hw) (notFace_of_selects (args := #[]) (mvT hZ (ow57 hw))) (ow57 hw) (ow56 hw) (ow3 hw) (ow58 hw) (by decide) S0 (rm_slen l Z a0 hw [] x t kt ds G1 h0 n0 (Nat.le_trans Z0 (Nat.le_refl _)) S0 S1 S2 S3 O2 P5 X00) e0 hml opd_11 rfl o147 rfl rfl rfl rfl rfl fun _ T30 _ Y hQ => ?_
  obtain ⟨rfl, N30q, e30⟩ := hQ
  have N30 := Fr.app N0 N30q
  refine zisN Y B o148 (s2 rfl) <| zalN Y B o149 rfl <| zalN Y B o150 rfl ?_
  refine zgf Y B hZ hown (ow100 hw) Via.refl e30 B3 o151 fun _ Y e31 => ?_
  refine zilN Y B o152 rfl <| ziadd Y B o153 rfl ?_
  rw [show ((Int32.ofNat cs.length) + (Int32.ofNat ds.length)) = (Int32.ofNat (cs.length + ds.length)) from (on_add _ _)]
  refine zcp Y B hZ hown (ow102 hw) (ow103 hw) (own_selp (ow103 hw) (ow104 hw) (ow105 hw) (by decide)) (ow104 hw) (ow81 hw) (ow106 hw) (by decide) B0 (rm_ens0 l Z a0 hw [] b v kv cap cs (cs.length + ds.length) h0 n0 (Nat.le_trans Z0 (Nat.le_refl _)) B0 B1 B2 B3 B4 B5 (HR) HCB) e31 hml opd_8 rfl o154 rfl rfl rfl rfl rfl fun _ T32 _ Y hQ => ?_
  obtain ⟨rfl, N32q, e32⟩ := hQ
  have N32 := Fr.app N30 N32q
  refine zalN Y B o155 rfl <| zalN Y B o156 rfl ?_
  refine zgf Y B hZ hown (ow100 hw) Via.refl e32 B3 o157 fun _ Y e33 => ?_
  refine zalN Y B o158 rfl ?_
  refine zcp Y B hZ hown (ow107 hw) (ow108 hw) (own_selp (ow108 hw) (ow109 hw) (ow110 hw) (by decide)) (ow109 hw) (ow81 hw) (ow111 hw) (by decide) B0 (rm_putstr l Z a0 hw [] b v kv cap cs x t kt ds G1 h0 n0 (Nat.le_trans Z0 (Nat.le_refl _)) B0 B1 B2 B3 B4 B5 S0 S1 S2 S3 HR HCB g_v O2 P5 X00) e33 hml opd_12 rfl o159 rfl rfl rfl rfl rfl fun _ T34 _ Y hQ => ?_
  obtain ⟨rfl, N34q, K34q, P34_0⟩ := hQ
  have N34 := Fr.app N32 N34q
  have K35 := K0.trans K34q (allS (Or.inl (List.mem_of_getElem? (i := 1) rfl)) all0)
  have O35 := X00.keep K34q (allS g_v all0)
  refine zalN Y B o160 rfl <| zdup Y B o161 rfl ?_
  have F37 := (B3.keep K34q (ninS (ne_exa B0 B5 (by decide)) nin0))
  refine zgf Y B hZ hown (ow100 hw) Via.refl rfl F37 o162 fun _ Y e36 => ?_
  refine zilN Y B o163 rfl <| ziadd Y B o164 rfl ?_
  rw [show ((Int32.ofNat cs.length) + (Int32.ofNat ds.length)) = (Int32.ofNat (cs ++ ds).length) from (by rw [on_add, List.length_append])]
  have F39 := (B0.keep K34q)
  refine Go.b3 (putF Y B.1 hZ hown (host := "") (Or.inl (ow100 hw)) Via.refl e36 F37 F39 (Or.inl (ow101 hw)) (ow72 hw) (ty := .int) (by decide) rfl rfl rfl rfl (hb B.2 o165.1)) fun T38 h38 Y e38 W38 => ?_
  have N38 := Fr.snoc Y N34 g_b
  have K40 := K35.wr W38 (Or.inl (List.mem_of_getElem? (i := 0) rfl))
  have O40 := O35.wr W38 g_b
  refine zalN Y B o166 rfl ?_
  have F41 := (F39.wr W38)
  have F42 := ((B1.keep K34q (ninS (ne_exa B0 B5 (by decide)) nin0)).other W38 (Or.inr (slot_ne (Or.inl (ow88 hw)) (Or.inl (ow101 hw)) (by decide) (t := .byte) (t' := .int) (by decide) (by decide))))
  have F43 := ((B2.keep K34q (ninS (ne_exa B0 B5 (by decide)) nin0)).other W38 (Or.inr (slot_ne (Or.inl (ow86 hw)) (Or.inl (ow101 hw)) (by decide) (t := (.array .byte)) (t' := .int) (by decide) (by decide))))
  have F44 := (P34_0.other W38 (ne_exa B5 B0 (by decide)))
  have F45 := ((B5.keep K34q).wr W38)
  exact zrR Y B hret rfl rfl rfl hlk o167 e38 ⟨rfl, N38, K40, F41, F42, F43, (F37.same W38), F44, F45⟩ rfl rfl
def Q_sbappS (Z : State) (b v : Addr) (kv : ClassId) (cap : Nat) (cs : List Int32) (x t : Addr) (kt : ClassId) (ds : List Int32) (G1 : Int32) (h0 : Heap) (n0 : Nat) : QT := fun rv hE LE => rv = some (.ref b) ∧ Fr n0 LE ∧ Keep h0 hE [b, v] ∧ (Exa Z hE b ss5) ∧ (Fld Z hE b ss1 ss2 "B" (.int 0)) ∧ (Fld Z hE b ss1 ss3 "[B" (.ref v)) ∧ (Fld Z hE b ss1 ss7 "I" (.int (Int32.ofNat (cs ++ ds).length))) ∧ (Arv Z hE v kv .byte (Int32.ofNat cap) (B8 (cs ++ ds)) (.int 0)) ∧ (Exa Z hE v "[B")
theorem rm_sbappS (l : Launch) (Z : State) (a0 : Array Value) (hw : HW a0 Z) (ws : List Jvm.Cond) (b v : Addr) (kv : ClassId) (cap : Nat) (cs : List Int32) (x t : Addr) (kt : ClassId) (ds : List Int32) (G1 : Int32) (h0 : Heap) (n0 : Nat) (Z0 : n0 ≤ h0.size) (B0 : Exa Z h0 b ss5) (B1 : Fld Z h0 b ss1 ss2 "B" (.int 0)) (B2 : Fld Z h0 b ss1 ss3 "[B" (.ref v)) (B3 : Fld Z h0 b ss1 ss7 "I" (.int (Int32.ofNat cs.length))) (B4 : Arv Z h0 v kv .byte (Int32.ofNat cap) (B8 cs) (.int 0)) (B5 : Exa Z h0 v "[B") (S0 : Exa Z h0 x ss0) (S1 : Fld Z h0 x ss0 ss2 "B" (.int 0)) (S2 : Fld Z h0 x ss0 ss3 "[B" (.ref t)) (S3 : Arv Z h0 t kt .byte (Int32.ofNat ds.length) (B8 ds) (.int 0)) (HR : cs.length + ds.length ≤ cap) (HCB : cap < 2 ^ 31) (g_v : n0 ≤ v) (g_b : n0 ≤ b) (O2 : Sta Z Z.heap ss0 ss6 "Z" (.int G1)) (P5 : ¬ (G1 = (0 : Int32))) (X00 : Old Z n0 h0) :
    MF l Z mn18 (Jvm.Cond.code mn18 cB18 2 (Option.some (Jvm.ClassFile.FieldType.object ss5))) ws Ro13 #[(.ref b), (.ref x)] h0 (Q_sbappS Z b v kv cap cs x t kt ds G1 h0 n0) := by
  refine MF.of ss5 rfl #[rv b, rv x] (plainFor_of_name opn_4) (fun _ => rfl) ?_
  intro p e s m below meth c _ hZ hh B hml hret hlk hown hnm Y e0
  have N0 := Fr.nil n0
  have K0 := Keep.refl h0 [b, v]
  refine zalN Y B o168 rfl <| zalN Y B o169 rfl ?_
  obtain ⟨_, _, ⟨T30, L30, k30, n30⟩, -, Y, ⟨Lc30, hQ30, l30, y30, z30⟩, st30⟩ := superBack Y B.1 hZ (y := mn17) hown (ow94 hw) (own_same (ow95 hw) (ow105 hw) rfl (by decide)) (ow95 hw) (ow96 hw) (by decide) (backOf (W := 0) (rm_asbappS l Z a0 hw [] b v kv cap cs x t kt ds G1 h0 n0 (Nat.le_trans Z0 (Nat.le_refl _)) B0 B1 B2 B3 B4 B5 S0 S1 S2 S3 HR HCB g_v g_b O2 P5 X00) hZ (ow98 hw) (ow81 hw) (by decide) (by decide)) e0 (Ins.self B0) (g := (mkF m 2 #[rv b, rv x] [(.ref x), (.ref b)])) rfl (by rw [hml]; rfl) (ow98 hw) (argsL := [(.ref x)]) (rest := []) (lenOf opd_13 rfl) rfl (by show 2 * 0 + _ ≤ _; exact Nat.le_of_eq rfl) (hb B.2 o170.1) (fun _ _ => ⟨rfl, e0, (by decide : 0 + 0 ≤ _), (by decide : 0 + 0 ≤ _)⟩)
  dsimp only [Pt.U, Pt.locs, Pt.cells, Pt.slots] at Y l30 y30 z30 st30 hQ30
  subst l30 y30 z30
  obtain ⟨rfl, N30q, K30q, P30_0, P30_1, P30_2, P30_3, P30_4, P30_5⟩ := hQ30
  have N30 := Fr.app N0 N30q
  refine Go.tr st30 ?_
  have K31 := K0.trans K30q (allS (Or.inl (List.mem_of_getElem? (i := 0) rfl)) (allS (Or.inl (List.mem_of_getElem? (i := 1) rfl)) all0))
  have O31 := X00.keep K30q (allS g_b (allS g_v all0))
  refine zpop Y B o171 rfl <| zalN Y B o172 rfl ?_
  exact zrR Y B hret rfl rfl rfl hlk o173 rfl ⟨rfl, N30, K31, P30_0, P30_1, P30_2, P30_3, P30_4, P30_5⟩ rfl rfl
def Q_asbl1 (Z : State) (b : Addr) (G1 : Int32) (h0 : Heap) (n0 : Nat) : QT := fun rv hE LE => rv = some (.int 1) ∧ Fr n0 LE ∧ hE = h0
theorem rm_asbl1 (l : Launch) (Z : State) (a0 : Array Value) (hw : HW a0 Z) (ws : List Jvm.Cond) (b : Addr) (G1 : Int32) (h0 : Heap) (n0 : Nat) (Z0 : n0 ≤ h0.size) (B0 : Exa Z h0 b ss5) (B1 : Fld Z h0 b ss1 ss2 "B" (.int 0)) (O2 : Sta Z Z.heap ss0 ss6 "Z" (.int G1)) (P5 : ¬ (G1 = (0 : Int32))) (X00 : Old Z n0 h0) :
    MF l Z mn19 (Jvm.Cond.code mn19 cB19 1 (Option.some Jvm.ClassFile.FieldType.boolean)) ws Ro0 #[(.ref b)] h0 (Q_asbl1 Z b G1 h0 n0) := by
  refine MF.of ss1 rfl #[rv b] (plainFor_of_name opn_3) (fun _ => rfl) ?_
  intro p e s m below meth c _ hZ hh B hml hret hlk hown hnm Y e0
  have N0 := Fr.nil n0
  refine zgs Y B hZ hown (ow84 hw) e0 (O2.ext X00.2) o174 fun _ Y e30 => ?_
  refine zN Y B o175 ((if0 _ _).trans (feq P5).1) ?_
  refine zalN Y B o176 rfl ?_
  refine zgf Y B hZ hown (ow87 hw) Via.refl e30 B1 o177 fun _ Y e31 => ?_
  refine zN Y B o178 (by decide) ?_
  refine zc1 Y B o179 <| zgo Y B j9 ?_
  exact zrN Y B (t := .boolean) hret (by simp) hlk o180 e31 ⟨rfl, N0, rfl⟩ rfl rfl
def Q_asbappC (Z : State) (b v : Addr) (kv : ClassId) (cap : Nat) (cs : List Int32) (u G1 : Int32) (h0 : Heap) (n0 : Nat) : QT := fun rv hE LE => rv = some (.ref b) ∧ Fr n0 LE ∧ Keep h0 hE [b, v] ∧ (Exa Z hE b ss5) ∧ (Fld Z hE b ss1 ss2 "B" (.int 0)) ∧ (Fld Z hE b ss1 ss3 "[B" (.ref v)) ∧ (Fld Z hE b ss1 ss7 "I" (.int (Int32.ofNat (cs ++ [u]).length))) ∧ (Arv Z hE v kv .byte (Int32.ofNat cap) (B8 (cs ++ [u])) (.int 0)) ∧ (Exa Z hE v "[B")
theorem rm_asbappC (l : Launch) (Z : State) (a0 : Array Value) (hw : HW a0 Z) (ws : List Jvm.Cond) (b v : Addr) (kv : ClassId) (cap : Nat) (cs : List Int32) (u G1 : Int32) (h0 : Heap) (n0 : Nat) (Z0 : n0 ≤ h0.size) (B0 : Exa Z h0 b ss5) (B1 : Fld Z h0 b ss1 ss2 "B" (.int 0)) (B2 : Fld Z h0 b ss1 ss3 "[B" (.ref v)) (B3 : Fld Z h0 b ss1 ss7 "I" (.int (Int32.ofNat cs.length))) (B4 : Arv Z h0 v kv .byte (Int32.ofNat cap) (B8 cs) (.int 0)) (B5 : Exa Z h0 v "[B") (HR : cs.length + 1 ≤ cap) (HCB : cap < 2 ^ 31) (g_v : n0 ≤ v) (g_b : n0 ≤ b) (HC : ¬ (255 : Int32) < u) (O2 : Sta Z Z.heap ss0 ss6 "Z" (.int G1)) (P5 : ¬ (G1 = (0 : Int32))) (X00 : Old Z n0 h0) :
    MF l Z mn20 (Jvm.Cond.code mn20 cB20 2 (Option.some (Jvm.ClassFile.FieldType.object ss1))) ws Ro2 #[(.ref b), (.int u)] h0 (Q_asbappC Z b v kv cap cs u G1 h0 n0) := by
  refine MF.of ss1 rfl #[rv b, iv u] (plainFor_of_name opn_3) (fun _ => rfl) ?_
  intro p e s m below meth c _ hZ hh B hml hret hlk hown hnm Y e0
  have N0 := Fr.nil n0
  have K0 := Keep.refl h0 [b, v]
  refine zalN Y B o181 rfl <| zalN Y B o182 rfl ?_
  refine zgf Y B hZ hown (ow100 hw) Via.refl e0 B3 o183 fun _ Y e30 => ?_
  refine zc1 Y B o184 <| ziadd Y B o185 rfl ?_
  rw [show ((Int32.ofNat cs.length) + (1 : Int32)) = (Int32.ofNat (cs.length + 1)) from (on_add _ 1)]
  refine zcp Y B hZ hown (ow102 hw) (ow103 hw) (own_selp (ow103 hw) (ow104 hw) (ow105 hw) (by decide)) (ow104 hw) (ow81 hw) (ow106 hw) (by decide) B0 (rm_ens0 l Z a0 hw [] b v kv cap cs (cs.length + 1) h0 n0 (Nat.le_trans Z0 (Nat.le_refl _)) B0 B1 B2 B3 B4 B5 (HR) HCB) e30 hml opd_8 rfl o186 rfl rfl rfl rfl rfl fun _ T31 _ Y hQ => ?_
  obtain ⟨rfl, N31q, e31⟩ := hQ
  have N31 := Fr.app N0 N31q
  refine zalN Y B o187 rfl ?_
  refine zcv Y B hZ hown (ow227 hw) (ow153 hw) (notFace_of_selects (args := #[]) (mvT hZ (ow155 hw))) (ow155 hw) (ow154 hw) (ow81 hw) (ow156 hw) (by decide) B0 (rm_asbl1 l Z a0 hw [] b G1 h0 n0 (Nat.le_trans Z0 (Nat.le_refl _)) B0 B1 O2 P5 X00) e31 hml opd_3 rfl o188 rfl rfl rfl rfl rfl fun _ T32 _ Y hQ => ?_
  obtain ⟨rfl, N32q, e32⟩ := hQ
  have N32 := Fr.app N31 N32q
  refine zN Y B o189 (by decide) ?_
  refine zilN Y B o190 rfl ?_
  refine zcs Y B hZ hown (ow228 hw) (ow7 hw) (ow8 hw) (ow9 hw) (by decide) (rm_canenc l Z a0 hw [] u h0 n0 (Nat.le_trans Z0 (Nat.le_refl _)) HC) e32 hml opd_5 rfl o191 rfl rfl rfl rfl rfl fun _ T33 _ Y hQ => ?_
  obtain ⟨rfl, N33q, e33⟩ := hQ
  have N33 := Fr.app N32 N33q
  refine zN Y B o192 (by decide) ?_
  refine zalN Y B o193 rfl ?_
  refine zgf Y B hZ hown (ow85 hw) Via.refl e33 B2 o194 fun _ Y e34 => ?_
  refine zalN Y B o195 rfl <| zdup Y B o196 rfl ?_
  refine zgf Y B hZ hown (ow100 hw) Via.refl e34 B3 o197 fun _ Y e35 => ?_
  refine Go.by (fun _ kq_ => XS.dupX1 Y.here B.1 rfl (hb B.2 o198.1) rfl rfl rfl kq_) ?_
  show Go p e below _ _ (mkF m 34 #[rv b, iv u] [(.int (Int32.ofNat cs.length)), (.ref b), (.int (Int32.ofNat cs.length)), (.ref v)])
  refine zc1 Y B o199 <| ziadd Y B o200 rfl ?_
  rw [show ((Int32.ofNat cs.length) + (1 : Int32)) = (Int32.ofNat (cs ++ [u]).length) from (by rw [List.length_append]; exact on_add _ 1)]
  refine Go.b3 (putF Y B.1 hZ hown (host := "") (Or.inl (ow100 hw)) Via.refl e35 B3 B0 (Or.inl (ow101 hw)) (ow72 hw) (ty := .int) (by decide) rfl rfl rfl rfl (hb B.2 o201.1)) fun T36 h36 Y e36 W36 => ?_
  have N36 := Fr.snoc Y N33 g_b
  have K37 := K0.wr W36 (Or.inl (List.mem_of_getElem? (i := 0) rfl))
  have O37 := X00.wr W36 g_b
  refine zilN Y B o202 rfl <| zi2b Y B o203 rfl ?_
  have F39 := (B4.other W36 (ne_exa B5 B0 (by decide)))
  obtain ⟨c38, A38, q38, S38, M38, G38, J38⟩ := id F39
  refine Go.b1 (stB Y B.1 hZ e36 A38 (j := (Int32.ofNat cs.length)) (inb_of S38 ⟨on_pos (by omega), on_lt (by omega) HCB⟩) rfl rfl (hb B.2 o204.1)) fun T38 h38 Y e38 W38 => ?_
  have N38 := Fr.snoc Y N36 g_v
  have K40 := K37.wr W38 (Or.inl (List.mem_of_getElem? (i := 1) rfl))
  have O40 := O37.wr W38 g_v
  have V38 : Arv Z h38 v kv .byte (Int32.ofNat cap) (B8 (cs ++ [u])) (.int 0) := own_push (cs := cs) (x := u) F39 (on_nat (by omega)) W38 (nar_b8 u)
  refine zgo Y B j10 <| zalN Y B o205 rfl ?_
  have F41 := ((B0.wr W36).wr W38)
  have F42 := ((B1.other W36 (Or.inr (slot_ne (Or.inl (ow88 hw)) (Or.inl (ow101 hw)) (by decide) (t := .byte) (t' := .int) (by decide) (by decide)))).other W38 (Or.inl (ne_exa B0 B5 (by decide))))
  have F43 := ((B2.other W36 (Or.inr (slot_ne (Or.inl (ow86 hw)) (Or.inl (ow101 hw)) (by decide) (t := (.array .byte)) (t' := .int) (by decide) (by decide)))).other W38 (Or.inl (ne_exa B0 B5 (by decide))))
  have F44 := ((B3.same W36).other W38 (Or.inl (ne_exa B0 B5 (by decide))))
  have F45 := ((B5.wr W36).wr W38)
  exact zrR Y B hret rfl rfl rfl hlk o206 e38 ⟨rfl, N38, K40, F41, F42, F43, F44, V38, F45⟩ rfl rfl
def Q_sbappC (Z : State) (b v : Addr) (kv : ClassId) (cap : Nat) (cs : List Int32) (u G1 : Int32) (h0 : Heap) (n0 : Nat) : QT := fun rv hE LE => rv = some (.ref b) ∧ Fr n0 LE ∧ Keep h0 hE [b, v] ∧ (Exa Z hE b ss5) ∧ (Fld Z hE b ss1 ss2 "B" (.int 0)) ∧ (Fld Z hE b ss1 ss3 "[B" (.ref v)) ∧ (Fld Z hE b ss1 ss7 "I" (.int (Int32.ofNat (cs ++ [u]).length))) ∧ (Arv Z hE v kv .byte (Int32.ofNat cap) (B8 (cs ++ [u])) (.int 0)) ∧ (Exa Z hE v "[B")
theorem rm_sbappC (l : Launch) (Z : State) (a0 : Array Value) (hw : HW a0 Z) (ws : List Jvm.Cond) (b v : Addr) (kv : ClassId) (cap : Nat) (cs : List Int32) (u G1 : Int32) (h0 : Heap) (n0 : Nat) (Z0 : n0 ≤ h0.size) (B0 : Exa Z h0 b ss5) (B1 : Fld Z h0 b ss1 ss2 "B" (.int 0)) (B2 : Fld Z h0 b ss1 ss3 "[B" (.ref v)) (B3 : Fld Z h0 b ss1 ss7 "I" (.int (Int32.ofNat cs.length))) (B4 : Arv Z h0 v kv .byte (Int32.ofNat cap) (B8 cs) (.int 0)) (B5 : Exa Z h0 v "[B") (HR : cs.length + 1 ≤ cap) (HCB : cap < 2 ^ 31) (g_v : n0 ≤ v) (g_b : n0 ≤ b) (HC : ¬ (255 : Int32) < u) (O2 : Sta Z Z.heap ss0 ss6 "Z" (.int G1)) (P5 : ¬ (G1 = (0 : Int32))) (X00 : Old Z n0 h0) :
    MF l Z mn21 (Jvm.Cond.code mn21 cB21 2 (Option.some (Jvm.ClassFile.FieldType.object ss5))) ws Ro3 #[(.ref b), (.int u)] h0 (Q_sbappC Z b v kv cap cs u G1 h0 n0) := by
  refine MF.of ss5 rfl #[rv b, iv u] (plainFor_of_name opn_4) (fun _ => rfl) ?_
  intro p e s m below meth c _ hZ hh B hml hret hlk hown hnm Y e0
  have N0 := Fr.nil n0
  have K0 := Keep.refl h0 [b, v]
  refine zalN Y B o207 rfl <| zilN Y B o208 rfl ?_
  obtain ⟨_, _, ⟨T30, L30, k30, n30⟩, -, Y, ⟨Lc30, hQ30, l30, y30, z30⟩, st30⟩ := superBack Y B.1 hZ (y := mn20) hown (ow223 hw) (own_same (ow224 hw) (ow105 hw) rfl (by decide)) (ow224 hw) (ow96 hw) (by decide) (backOf (W := 0) (rm_asbappC l Z a0 hw [] b v kv cap cs u G1 h0 n0 (Nat.le_trans Z0 (Nat.le_refl _)) B0 B1 B2 B3 B4 B5 HR HCB g_v g_b HC O2 P5 X00) hZ (ow226 hw) (ow81 hw) (by decide) (by decide)) e0 (Ins.self B0) (g := (mkF m 2 #[rv b, iv u] [(.int u), (.ref b)])) rfl (by rw [hml]; rfl) (ow226 hw) (argsL := [(.int u)]) (rest := []) (lenOf opd_14 rfl) rfl (by show 2 * 0 + _ ≤ _; exact Nat.le_of_eq rfl) (hb B.2 o209.1) (fun _ _ => ⟨rfl, e0, (by decide : 0 + 0 ≤ _), (by decide : 0 + 0 ≤ _)⟩)
  dsimp only [Pt.U, Pt.locs, Pt.cells, Pt.slots] at Y l30 y30 z30 st30 hQ30
  subst l30 y30 z30
  obtain ⟨rfl, N30q, K30q, P30_0, P30_1, P30_2, P30_3, P30_4, P30_5⟩ := hQ30
  have N30 := Fr.app N0 N30q
  refine Go.tr st30 ?_
  have K31 := K0.trans K30q (allS (Or.inl (List.mem_of_getElem? (i := 0) rfl)) (allS (Or.inl (List.mem_of_getElem? (i := 1) rfl)) all0))
  have O31 := X00.keep K30q (allS g_b (allS g_v all0))
  refine zpop Y B o210 rfl <| zalN Y B o211 rfl ?_
  exact zrR Y B hret rfl rfl rfl hlk o212 rfl ⟨rfl, N30, K31, P30_0, P30_1, P30_2, P30_3, P30_4, P30_5⟩ rfl rfl
def Q_getval (Z : State) (b v : Addr) (h0 : Heap) (n0 : Nat) : QT := fun rv hE LE => rv = some (.ref v) ∧ Fr n0 LE ∧ hE = h0
theorem rm_getval (l : Launch) (Z : State) (a0 : Array Value) (hw : HW a0 Z) (ws : List Jvm.Cond) (b v : Addr) (h0 : Heap) (n0 : Nat) (Z0 : n0 ≤ h0.size) (B0 : Exa Z h0 b ss5) (B2 : Fld Z h0 b ss1 ss3 "[B" (.ref v)) :
    MF l Z mn22 (Jvm.Cond.code mn22 cB22 1 (Option.some (Jvm.ClassFile.FieldType.array Jvm.ClassFile.FieldType.byte))) ws Ro0 #[(.ref b)] h0 (Q_getval Z b v h0 n0) := by
  refine MF.of ss1 rfl #[rv b] (plainFor_of_name opn_3) (fun _ => rfl) ?_
  intro p e s m below meth c _ hZ hh B hml hret hlk hown hnm Y e0
  have N0 := Fr.nil n0
  refine zalN Y B o213 rfl ?_
  refine zgf Y B hZ hown (ow85 hw) Via.refl e0 B2 o214 fun _ Y e30 => ?_
  exact zrR Y B hret rfl rfl rfl hlk o215 e30 ⟨rfl, N0, rfl⟩ rfl rfl
def Q_asblen (Z : State) (b : Addr) (z : Int32) (h0 : Heap) (n0 : Nat) : QT := fun rv hE LE => rv = some (.int z) ∧ Fr n0 LE ∧ hE = h0
theorem rm_asblen (l : Launch) (Z : State) (a0 : Array Value) (hw : HW a0 Z) (ws : List Jvm.Cond) (b : Addr) (z : Int32) (h0 : Heap) (n0 : Nat) (Z0 : n0 ≤ h0.size) (B0 : Exa Z h0 b ss5) (B3 : Fld Z h0 b ss1 ss7 "I" (.int z)) :
    MF l Z mn23 (Jvm.Cond.code mn23 cB23 1 (Option.some Jvm.ClassFile.FieldType.int)) ws Ro0 #[(.ref b)] h0 (Q_asblen Z b z h0 n0) := by
  refine MF.of ss1 rfl #[rv b] (plainFor_of_name opn_3) (fun _ => rfl) ?_
  intro p e s m below meth c _ hZ hh B hml hret hlk hown hnm Y e0
  have N0 := Fr.nil n0
  refine zalN Y B o216 rfl ?_
  refine zgf Y B hZ hown (ow100 hw) Via.refl e0 B3 o217 fun _ Y e30 => ?_
  exact zrI Y B hret hlk o218 e30 ⟨rfl, N0, rfl⟩ rfl rfl
def Q_sblen (Z : State) (b : Addr) (z : Int32) (h0 : Heap) (n0 : Nat) : QT := fun rv hE LE => rv = some (.int z) ∧ Fr n0 LE ∧ hE = h0
theorem rm_sblen (l : Launch) (Z : State) (a0 : Array Value) (hw : HW a0 Z) (ws : List Jvm.Cond) (b : Addr) (z : Int32) (h0 : Heap) (n0 : Nat) (Z0 : n0 ≤ h0.size) (B0 : Exa Z h0 b ss5) (B3 : Fld Z h0 b ss1 ss7 "I" (.int z)) :
    MF l Z mn24 (Jvm.Cond.code mn24 cB24 1 (Option.some Jvm.ClassFile.FieldType.int)) ws Ro5 #[(.ref b)] h0 (Q_sblen Z b z h0 n0) := by
  refine MF.of ss5 rfl #[rv b] (plainFor_of_name opn_4) (fun _ => rfl) ?_
  intro p e s m below meth c _ hZ hh B hml hret hlk hown hnm Y e0
  have N0 := Fr.nil n0
  refine zalN Y B o219 rfl ?_
  obtain ⟨_, _, ⟨T30, L30, k30, n30⟩, -, Y, ⟨Lc30, hQ30, l30, y30, z30⟩, st30⟩ := superBack Y B.1 hZ (y := mn23) hown (ow150 hw) (own_same (ow146 hw) (ow105 hw) rfl (by decide)) (ow146 hw) (ow96 hw) (by decide) (backOf (W := 0) (rm_asblen l Z a0 hw [] b z h0 n0 (Nat.le_trans Z0 (Nat.le_refl _)) B0 B3) hZ (ow151 hw) (ow81 hw) (by decide) (by decide)) e0 (Ins.self B0) (g := (mkF m 1 #[rv b] [(.ref b)])) rfl (by rw [hml]; rfl) (ow151 hw) (argsL := []) (rest := []) (lenOf opd_11 rfl) rfl (by show 2 * 0 + _ ≤ _; exact Nat.le_of_eq rfl) (hb B.2 o220.1) (fun _ _ => ⟨rfl, e0, (by decide : 0 + 0 ≤ _), (by decide : 0 + 0 ≤ _)⟩)
  dsimp only [Pt.U, Pt.locs, Pt.cells, Pt.slots] at Y l30 y30 z30 st30 hQ30
  subst l30 y30 z30
  obtain ⟨rfl, N30q, e30⟩ := hQ30
  have N30 := Fr.app N0 N30q
  refine Go.tr st30 ?_
  exact zrI Y B hret hlk o221 e30 ⟨rfl, N30, rfl⟩ rfl rfl
def Q_cor1 (Z : State) (v : Addr) (kv : ClassId) (cs : List Int32) (h0 : Heap) (n0 : Nat) : QT := fun rv hE LE => ∃ t : Addr, ∃ kt : ClassId, rv = some (.ref t) ∧ Fr n0 LE ∧ Keep h0 hE [] ∧ (h0.size ≤ t) ∧ (Arv Z hE t kt .byte (Int32.ofNat cs.length) (B8 cs) (.int 0))
theorem rm_cor1 (l : Launch) (Z : State) (a0 : Array Value) (hw : HW a0 Z) (ws : List Jvm.Cond) (v : Addr) (kv : ClassId) (cs : List Int32) (h0 : Heap) (n0 : Nat) (Z0 : n0 ≤ h0.size) (B4 : Arv Z h0 v kv .byte (Int32.ofNat cs.length) (B8 cs) (.int 0)) (B5 : Exa Z h0 v "[B") (HL : cs.length ≤ 13) :
    MF l Z mn25 (Jvm.Cond.code mn25 cB25 3 (Option.some (Jvm.ClassFile.FieldType.array Jvm.ClassFile.FieldType.byte))) ws Ro14 #[(.ref v), (.int 0), (.int (Int32.ofNat cs.length))] h0 (Q_cor1 Z v kv cs h0 n0) := by
  refine MF.of "java/util/Arrays" rfl #[rv v, iv 0, iv (Int32.ofNat cs.length)] (plainFor_of_name opn_5) (fun _ => rfl) ?_
  intro p e s m below meth c _ hZ hh B hml hret hlk hown hnm Y e0
  have N0 := Fr.nil n0
  have K0 := Keep.refl h0 []
  refine zilN Y B o222 rfl <| zN Y B o223 (by decide) ?_
  refine zilN Y B o224 rfl <| zalN Y B o225 rfl ?_
  refine zln Y B hZ e0 B4 o226 ?_
  refine zCY Y B j11 (teq rfl).1 ?_
  refine zalN Y B o227 rfl ?_
  obtain ⟨T31, h31, Y, e31, E31, A31, B31, st31⟩ := cloneH Y B.1 hZ hown (ad := "[B") (ow161 hw) (ow162 hw) (ow166 hw) (ow164 hw) (ow165 hw) (ow167 hw) e0 B4.arh B5 (g := (mkF m 18 #[rv v, iv 0, iv (Int32.ofNat cs.length)] [(.ref v)])) rfl (by rw [hml]; rfl) rfl (hb B.2 o228.1) (by decide) (W := 0) (cap := 13) (by show 2 * 0 + _ ≤ _; exact Nat.le_of_eq rfl) (by decide) (by rw [on_nat (by omega)]; exact HL) (by decide) (by decide)
  obtain ⟨b31, g31⟩ : ∃ z, z = h0.size := ⟨_, rfl⟩
  rw [← g31] at A31 B31 st31
  refine Go.by st31 ?_
  have K32 := K0.ext E31
  show Go p e below _ _ (mkF m 21 #[rv v, iv 0, iv (Int32.ofNat cs.length)] [(.ref b31)])
  refine Go.a3 (st' := _ :: _) (castY Y B.1 hZ hown (ow168 hw) e31 (Ins.self B31) rfl rfl (hb B.2 o229.1)) fun _ Y e33 => ?_
  exact zrR Y B hret rfl rfl rfl hlk o230 e33 ⟨b31, kv, rfl, N0, K32, (Nat.le_trans (Nat.le_refl _) (Nat.le_of_eq g31.symm)), (arv_of_arh A31)⟩ rfl rfl
def Q_siniAV1 (Z : State) (x b v : Addr) (kv : ClassId) (cs : List Int32) (G1 : Int32) (h0 : Heap) (n0 : Nat) : QT := fun rv hE LE => ∃ t : Addr, ∃ kt : ClassId, rv = none ∧ Fr n0 LE ∧ Keep h0 hE [x] ∧ (h0.size ≤ t) ∧ (Exa Z hE x ss0) ∧ (Fld Z hE x ss0 ss2 "B" (.int 0)) ∧ (Fld Z hE x ss0 ss3 "[B" (.ref t)) ∧ (Arv Z hE t kt .byte (Int32.ofNat cs.length) (B8 cs) (.int 0))
theorem rm_siniAV1 (l : Launch) (Z : State) (a0 : Array Value) (hw : HW a0 Z) (ws : List Jvm.Cond) (x b v : Addr) (kv : ClassId) (cs : List Int32) (G1 : Int32) (h0 : Heap) (n0 : Nat) (Z0 : n0 ≤ h0.size) (E1 : Exa Z h0 x ss0) (g_x : n0 ≤ x) (F1 : Fld Z h0 x ss0 ss3 "[B" .null) (F2 : Fld Z h0 x ss0 ss2 "B" (.int 0)) (B0 : Exa Z h0 b ss5) (B1 : Fld Z h0 b ss1 ss2 "B" (.int 0)) (B2 : Fld Z h0 b ss1 ss3 "[B" (.ref v)) (B3 : Fld Z h0 b ss1 ss7 "I" (.int (Int32.ofNat cs.length))) (B4 : Arv Z h0 v kv .byte (Int32.ofNat cs.length) (B8 cs) (.int 0)) (B5 : Exa Z h0 v "[B") (HL : cs.length ≤ 13) (O2 : Sta Z Z.heap ss0 ss6 "Z" (.int G1)) (P5 : ¬ (G1 = (0 : Int32))) (X00 : Old Z n0 h0) :
    MF l Z mn26 (Jvm.Cond.code mn26 cB26 5 (Option.none : Option Jvm.ClassFile.FieldType)) ws Ro15 #[(.ref x), (.ref b), .null] h0 (Q_siniAV1 Z x b v kv cs G1 h0 n0) := by
  refine MF.of ss0 rfl #[rv x, rv b, .val .null, un, un] (plainFor_of_name opn_0) (fun _ => rfl) ?_
  intro p e s m below meth c _ hZ hh B hml hret hlk hown hnm Y e0
  have N0 := Fr.nil n0
  have K0 := Keep.refl h0 [x]
  refine zalN Y B o231 rfl ?_
  refine Go.a3 (initO Y B.1 hZ hown (ow20 hw) (ow21 hw) (ow22 hw) e0 rfl (by rw [hml]; rfl) rfl (hb B.2 o232.1) (by decide) (W := 0) (by show 2 * 0 + _ ≤ _; exact Nat.le_of_eq rfl) (by decide)) fun _ Y e30 => ?_
  refine zalN Y B o233 rfl ?_
  refine zcv Y B hZ hown (ow139 hw) (ow140 hw) (notFace_of_selects (args := #[]) (mvT hZ (ow142 hw))) (ow142 hw) (ow141 hw) (ow81 hw) (ow143 hw) (by decide) B0 (rm_getval l Z a0 hw [] b v h0 n0 (Nat.le_trans Z0 (Nat.le_refl _)) B0 B2) e30 hml opd_15 rfl o234 rfl rfl rfl rfl rfl fun _ T31 _ Y hQ => ?_
  obtain ⟨rfl, N31q, e31⟩ := hQ
  have N31 := Fr.app N0 N31q
  refine zasN Y B o235 (s3 rfl) rfl <| zalN Y B o236 rfl ?_
  refine zcv Y B hZ hown (ow144 hw) (ow145 hw) (own_notface (args := #[]) (mvT hZ (ow105 hw)) rfl) (ow147 hw) (ow148 hw) (ow73 hw) (ow149 hw) (by decide) B0 (rm_sblen l Z a0 hw [] b (Int32.ofNat cs.length) h0 n0 (Nat.le_trans Z0 (Nat.le_refl _)) B0 B3) e31 hml opd_11 rfl o237 rfl rfl rfl rfl rfl fun _ T32 _ Y hQ => ?_
  obtain ⟨rfl, N32q, e32⟩ := hQ
  have N32 := Fr.app N31 N32q
  refine zis Y B o238 (s4 rfl) <| zalN Y B o239 rfl ?_
  refine zcv Y B hZ hown (ow152 hw) (ow153 hw) (notFace_of_selects (args := #[]) (mvT hZ (ow155 hw))) (ow155 hw) (ow154 hw) (ow81 hw) (ow156 hw) (by decide) B0 (rm_asbl1 l Z a0 hw [] b G1 h0 n0 (Nat.le_trans Z0 (Nat.le_refl _)) B0 B1 O2 P5 X00) e32 hml opd_3 rfl o240 rfl rfl rfl rfl rfl fun _ T33 _ Y hQ => ?_
  obtain ⟨rfl, N33q, e33⟩ := hQ
  have N33 := Fr.app N32 N33q
  refine zN Y B o241 (by decide) ?_
  refine zalN Y B o242 rfl <| zc0 Y B o243 ?_
  refine Go.b3 (putFN Y B.1 hZ hown (ow25 hw) Via.refl e33 F2 E1 (Or.inr ⟨(ow26 hw), rfl, hnm⟩) (ow11 hw) (ty := .byte) (v' := (.int (nar .byte (0 : Int32)))) (by decide) rfl (fits_nar_byte _) rfl rfl (hb B.2 o244.1)) fun T34 h34 Y e34 W34 => ?_
  have N34 := Fr.snoc Y N33 g_x
  have K35 := K0.wr W34 (Or.inl (List.mem_of_getElem? (i := 0) rfl))
  have O35 := X00.wr W34 g_x
  refine zalN Y B o245 rfl <| zalN Y B o246 rfl <| zc0 Y B o247 <| zil Y B o248 rfl ?_
  have F37 := (B4.other W34 (ne_exa B5 E1 (by decide)))
  have F38 := (B5.wr W34)
  refine zcs Y B hZ hown (ow157 hw) (ow158 hw) (ow159 hw) (ow160 hw) (by decide) (rm_cor1 l Z a0 hw [] v kv cs h34 n0 (Nat.le_trans Z0 K35.1) F37 F38 HL) e34 hml opd_16 rfl o249 rfl rfl rfl rfl rfl fun _ T36 _ Y hQ => ?_
  obtain ⟨t_36, kt_36, rfl, N36q, K36q, P36_0, P36_1⟩ := hQ
  have N36 := Fr.app N34 N36q
  have K39 := K35.trans K36q all0
  have O39 := O35.keep K36q all0
  have F41 := ((F1.other W34 (Or.inr (slot_ne (Or.inr (ow24 hw)) (Or.inr (ow26 hw)) (by decide) (t := (.array .byte)) (t' := .byte) (by decide) (by decide)))).keep K36q nin0)
  have F42 := ((E1.wr W34).keep K36q)
  refine Go.b3 (putF Y B.1 hZ hown (host := "") (Or.inl (ow23 hw)) Via.refl rfl F41 F42 (Or.inr ⟨(ow24 hw), rfl, hnm⟩) (ow11 hw) (ty := (.array .byte)) (by decide) rfl rfl rfl rfl (hb B.2 o250.1)) fun T40 h40 Y e40 W40 => ?_
  have N40 := Fr.snoc Y N36 g_x
  have K43 := K39.wr W40 (Or.inl (List.mem_of_getElem? (i := 0) rfl))
  have O43 := O39.wr W40 g_x
  refine zgo Y B j12 ?_
  have F44 := (F42.wr W40)
  have F45 := (((F2.same W34).keep K36q nin0).other W40 (Or.inr (slot_ne (Or.inr (ow26 hw)) (Or.inr (ow24 hw)) (by decide) (t := .byte) (t' := (.array .byte)) (by decide) (by decide))))
  have F46 := (P36_1.other W40 (Ne.symm (Nat.ne_of_lt (Nat.lt_of_lt_of_le (E1.wr W34).lt P36_0))))
  exact zr0 Y B hret hlk o251 e40 ⟨t_36, kt_36, rfl, N40, K43, (Nat.le_trans K35.1 P36_0), F44, F45, (F41.same W40), F46⟩ rfl rfl
def Q_siniSB1 (Z : State) (x b v : Addr) (kv : ClassId) (cs : List Int32) (G1 : Int32) (h0 : Heap) (n0 : Nat) : QT := fun rv hE LE => ∃ t : Addr, ∃ kt : ClassId, rv = none ∧ Fr n0 LE ∧ Keep h0 hE [x] ∧ (h0.size ≤ t) ∧ (Exa Z hE x ss0) ∧ (Fld Z hE x ss0 ss2 "B" (.int 0)) ∧ (Fld Z hE x ss0 ss3 "[B" (.ref t)) ∧ (Arv Z hE t kt .byte (Int32.ofNat cs.length) (B8 cs) (.int 0))
theorem rm_siniSB1 (l : Launch) (Z : State) (a0 : Array Value) (hw : HW a0 Z) (ws : List Jvm.Cond) (x b v : Addr) (kv : ClassId) (cs : List Int32) (G1 : Int32) (h0 : Heap) (n0 : Nat) (Z0 : n0 ≤ h0.size) (E1 : Exa Z h0 x ss0) (g_x : n0 ≤ x) (F1 : Fld Z h0 x ss0 ss3 "[B" .null) (F2 : Fld Z h0 x ss0 ss2 "B" (.int 0)) (B0 : Exa Z h0 b ss5) (B1 : Fld Z h0 b ss1 ss2 "B" (.int 0)) (B2 : Fld Z h0 b ss1 ss3 "[B" (.ref v)) (B3 : Fld Z h0 b ss1 ss7 "I" (.int (Int32.ofNat cs.length))) (B4 : Arv Z h0 v kv .byte (Int32.ofNat cs.length) (B8 cs) (.int 0)) (B5 : Exa Z h0 v "[B") (HL : cs.length ≤ 13) (O2 : Sta Z Z.heap ss0 ss6 "Z" (.int G1)) (P5 : ¬ (G1 = (0 : Int32))) (X00 : Old Z n0 h0) :
    MF l Z mn27 (Jvm.Cond.code mn27 cB27 2 (Option.none : Option Jvm.ClassFile.FieldType)) ws Ro16 #[(.ref x), (.ref b)] h0 (Q_siniSB1 Z x b v kv cs G1 h0 n0) := by
  refine MF.of ss0 rfl #[rv x, rv b] (plainFor_of_name opn_0) (fun _ => rfl) ?_
  intro p e s m below meth c _ hZ hh B hml hret hlk hown hnm Y e0
  have N0 := Fr.nil n0
  have K0 := Keep.refl h0 [x]
  refine zalN Y B o252 rfl <| zalN Y B o253 rfl <| znull Y B o254 ?_
  refine zci Y B hZ rfl hown (ow136 hw) (ow137 hw) (ow3 hw) (ow138 hw) (by decide) (rm_siniAV1 l Z a0 hw [] x b v kv cs G1 h0 n0 (Nat.le_trans Z0 (Nat.le_refl _)) E1 g_x F1 F2 B0 B1 B2 B3 B4 B5 HL O2 P5 X00) e0 hml opd_17 rfl o255 rfl rfl rfl rfl rfl fun _ T30 _ Y hQ => ?_
  obtain ⟨t_30, kt_30, rfl, N30q, K30q, P30_0, P30_1, P30_2, P30_3, P30_4⟩ := hQ
  have N30 := Fr.app N0 N30q
  have K31 := K0.trans K30q (allS (Or.inl (List.mem_of_getElem? (i := 0) rfl)) all0)
  have O31 := X00.keep K30q (allS g_x all0)
  exact zr0 Y B hret hlk o256 rfl ⟨t_30, kt_30, rfl, N30, K31, (Nat.le_trans (Nat.le_refl _) P30_0), P30_1, P30_2, P30_3, P30_4⟩ rfl rfl
def Q_tostr1 (Z : State) (b v : Addr) (kv : ClassId) (cs : List Int32) (G1 : Int32) (h0 : Heap) (n0 : Nat) : QT := fun rv hE LE => ∃ x : Addr, ∃ t : Addr, ∃ kt : ClassId, rv = some (.ref x) ∧ Fr n0 LE ∧ Keep h0 hE [] ∧ (h0.size ≤ x) ∧ (h0.size ≤ t) ∧ (Exa Z hE x ss0) ∧ (Fld Z hE x ss0 ss2 "B" (.int 0)) ∧ (Fld Z hE x ss0 ss3 "[B" (.ref t)) ∧ (Arv Z hE t kt .byte (Int32.ofNat cs.length) (B8 cs) (.int 0))
theorem rm_tostr1 (l : Launch) (Z : State) (a0 : Array Value) (hw : HW a0 Z) (ws : List Jvm.Cond) (b v : Addr) (kv : ClassId) (cs : List Int32) (G1 : Int32) (h0 : Heap) (n0 : Nat) (Z0 : n0 ≤ h0.size) (B0 : Exa Z h0 b ss5) (B1 : Fld Z h0 b ss1 ss2 "B" (.int 0)) (B2 : Fld Z h0 b ss1 ss3 "[B" (.ref v)) (B3 : Fld Z h0 b ss1 ss7 "I" (.int (Int32.ofNat cs.length))) (B4 : Arv Z h0 v kv .byte (Int32.ofNat cs.length) (B8 cs) (.int 0)) (B5 : Exa Z h0 v "[B") (HL : cs.length ≤ 13) (O2 : Sta Z Z.heap ss0 ss6 "Z" (.int G1)) (P5 : ¬ (G1 = (0 : Int32))) (X00 : Old Z n0 h0) :
    MF l Z mn28 (Jvm.Cond.code mn28 cB28 1 (Option.some (Jvm.ClassFile.FieldType.object ss0))) ws Ro17 #[(.ref b)] h0 (Q_tostr1 Z b v kv cs G1 h0 n0) := by
  refine MF.of ss5 rfl #[rv b] (plainFor_of_name opn_4) (fun _ => rfl) ?_
  intro p e s m below meth c _ hZ hh B hml hret hlk hown hnm Y e0
  have N0 := Fr.nil n0
  have K0 := Keep.refl h0 []
  refine zno Y B hZ hown (ow132 hw) (ow11 hw) (ow3 hw) e0 o257 rfl rfl fun T30 h30 b30 g30 Y e30 E30 A30 D30 U30 => ?_
  have K31 := K0.ext E30
  have O31 := X00.ext E30
  refine zdup Y B o258 rfl <| zalN Y B o259 rfl ?_
  have F33 := (B0.ext E30)
  have F34 := (B1.ext E30)
  have F35 := (B2.ext E30)
  have F36 := (B3.ext E30)
  have F37 := (B4.ext E30)
  have F38 := (B5.ext E30)
  refine zci Y B hZ rfl hown (ow133 hw) (ow134 hw) (ow3 hw) (ow135 hw) (by decide) (rm_siniSB1 l Z a0 hw [] b30 b v kv cs G1 h30 n0 (Nat.le_trans Z0 K31.1) A30 ((Nat.le_trans (Nat.le_trans Z0 (Nat.le_refl _)) (Nat.le_of_eq g30.symm))) (D30 (Or.inr (ow24 hw)) (ty := (.array .byte)) (by decide)) (D30 (Or.inr (ow26 hw)) (ty := .byte) (by decide)) F33 F34 F35 F36 F37 F38 HL O2 P5 O31) e30 hml opd_18 rfl o260 rfl rfl rfl rfl rfl fun _ T32 _ Y hQ => ?_
  obtain ⟨t_32, kt_32, rfl, N32q, K32q, P32_0, P32_1, P32_2, P32_3, P32_4⟩ := hQ
  have N32 := Fr.app N0 N32q
  have K39 := K31.trans K32q (allS (Or.inr (Nat.le_trans (Nat.le_refl _) (Nat.le_of_eq g30.symm))) all0)
  have O39 := O31.keep K32q (allS (Nat.le_trans (Nat.le_trans Z0 (Nat.le_refl _)) (Nat.le_of_eq g30.symm)) all0)
  exact zrR Y B hret rfl rfl rfl hlk o261 rfl ⟨b30, t_32, kt_32, rfl, N32, K39, (Nat.le_trans (Nat.le_refl _) (Nat.le_of_eq g30.symm)), (Nat.le_trans K31.1 P32_0), P32_1, P32_2, P32_3, P32_4⟩ rfl rfl
def Q_width (Z : State) (X : Nat) (h0 : Heap) (n0 : Nat) : QT := fun rv hE LE => ∃ k : Nat, rv = some (.int (Int32.ofNat k)) ∧ Fr n0 LE ∧ hE = h0 ∧ (WD X k)
theorem rm_width (l : Launch) (Z : State) (a0 : Array Value) (hw : HW a0 Z) (ws : List Jvm.Cond) (X : Nat) (h0 : Heap) (n0 : Nat) (Z0 : n0 ≤ h0.size) (HX : X < 2 ^ 31) :
    MF l Z mn29 (Jvm.Cond.code mn29 cB29 1 (Option.some Jvm.ClassFile.FieldType.int)) ws Ro0 #[(.int (Int32.ofNat X))] h0 (Q_width Z X h0 n0) := by
  refine MF.of ss12 rfl #[iv (Int32.ofNat X)] (plainFor_of_name opn_6) (fun _ => rfl) ?_
  intro p e s m below meth c _ hZ hh B hml hret hlk hown hnm Y e0
  have N0 := Fr.nil n0
  refine zilN Y B o262 rfl <| zbp Y B o263 (v := 10) rfl ?_
  by_cases hc1 : (Int32.ofNat X) < (10 : Int32)
  · refine zCN Y B o264 (tlt hc1).2.1 ?_
    refine zc1 Y B o265 ?_
    exact zrI Y B hret hlk o266 e0 ⟨1, rfl, N0, rfl, (by have q := (lt_on (b := 10) HX (by decide)).mp hc1; exact ⟨by decide, by decide, (by show X < 10; omega), Or.inl rfl⟩)⟩ rfl rfl
  · refine zCY Y B j13 (flt hc1).2.1 ?_
    refine zilN Y B o267 rfl <| zbp Y B o268 (v := 100) rfl ?_
    by_cases hc2 : (Int32.ofNat X) < (100 : Int32)
    · refine zCN Y B o269 (tlt hc2).2.1 ?_
      refine zc2 Y B o270 ?_
      exact zrI Y B hret hlk o271 e0 ⟨2, rfl, N0, rfl, (by have q := (lt_on (b := 100) HX (by decide)).mp hc2; have r : ¬ X < 10 := fun z => hc1 ((lt_on (b := 10) HX (by decide)).mpr z); exact ⟨by decide, by decide, (by show X < 100; omega), Or.inr (by show 10 ≤ X; omega)⟩)⟩ rfl rfl
    · refine zCY Y B j14 (flt hc2).2.1 ?_
      refine zilN Y B o272 rfl <| zsp Y B o273 (v := 1000) rfl ?_
      by_cases hc3 : (Int32.ofNat X) < (1000 : Int32)
      · refine zCN Y B o274 (tlt hc3).2.1 ?_
        refine zc3 Y B o275 ?_
        exact zrI Y B hret hlk o276 e0 ⟨3, rfl, N0, rfl, (by have q := (lt_on (b := 1000) HX (by decide)).mp hc3; have r : ¬ X < 100 := fun z => hc2 ((lt_on (b := 100) HX (by decide)).mpr z); exact ⟨by decide, by decide, (by show X < 1000; omega), Or.inr (by show 100 ≤ X; omega)⟩)⟩ rfl rfl
      · refine zCY Y B j15 (flt hc3).2.1 ?_
        refine zilN Y B o277 rfl <| zsp Y B o278 (v := 10000) rfl ?_
        by_cases hc4 : (Int32.ofNat X) < (10000 : Int32)
        · refine zCN Y B o279 (tlt hc4).2.1 ?_
          refine zc4 Y B o280 ?_
          exact zrI Y B hret hlk o281 e0 ⟨4, rfl, N0, rfl, (by have q := (lt_on (b := 10000) HX (by decide)).mp hc4; have r : ¬ X < 1000 := fun z => hc3 ((lt_on (b := 1000) HX (by decide)).mpr z); exact ⟨by decide, by decide, (by show X < 10000; omega), Or.inr (by show 1000 ≤ X; omega)⟩)⟩ rfl rfl
        · refine zCY Y B j16 (flt hc4).2.1 ?_
          refine zilN Y B o282 rfl ?_
          refine Go.f2 (Y.ldcInt B.1 hown (mvT hZ (ow232 hw)) rfl (hb B.2 o283.1)) ?_
          by_cases hc5 : (Int32.ofNat X) < (100000 : Int32)
          · refine zCN Y B o284 (tlt hc5).2.1 ?_
            refine zc5 Y B o285 ?_
            exact zrI Y B hret hlk o286 e0 ⟨5, rfl, N0, rfl, (by have q := (lt_on (b := 100000) HX (by decide)).mp hc5; have r : ¬ X < 10000 := fun z => hc4 ((lt_on (b := 10000) HX (by decide)).mpr z); exact ⟨by decide, by decide, (by show X < 100000; omega), Or.inr (by show 10000 ≤ X; omega)⟩)⟩ rfl rfl
          · refine zCY Y B j17 (flt hc5).2.1 ?_
            refine zilN Y B o287 rfl ?_
            refine Go.f2 (Y.ldcInt B.1 hown (mvT hZ (ow233 hw)) rfl (hb B.2 o288.1)) ?_
            by_cases hc6 : (Int32.ofNat X) < (1000000 : Int32)
            · refine zCN Y B o289 (tlt hc6).2.1 ?_
              refine zbp Y B o290 (v := 6) rfl ?_
              exact zrI Y B hret hlk o291 e0 ⟨6, rfl, N0, rfl, (by have q := (lt_on (b := 1000000) HX (by decide)).mp hc6; have r : ¬ X < 100000 := fun z => hc5 ((lt_on (b := 100000) HX (by decide)).mpr z); exact ⟨by decide, by decide, (by show X < 1000000; omega), Or.inr (by show 100000 ≤ X; omega)⟩)⟩ rfl rfl
            · refine zCY Y B j18 (flt hc6).2.1 ?_
              refine zilN Y B o292 rfl ?_
              refine Go.f2 (Y.ldcInt B.1 hown (mvT hZ (ow234 hw)) rfl (hb B.2 o293.1)) ?_
              by_cases hc7 : (Int32.ofNat X) < (10000000 : Int32)
              · refine zCN Y B o294 (tlt hc7).2.1 ?_
                refine zbp Y B o295 (v := 7) rfl ?_
                exact zrI Y B hret hlk o296 e0 ⟨7, rfl, N0, rfl, (by have q := (lt_on (b := 10000000) HX (by decide)).mp hc7; have r : ¬ X < 1000000 := fun z => hc6 ((lt_on (b := 1000000) HX (by decide)).mpr z); exact ⟨by decide, by decide, (by show X < 10000000; omega), Or.inr (by show 1000000 ≤ X; omega)⟩)⟩ rfl rfl
              · refine zCY Y B j19 (flt hc7).2.1 ?_
                refine zilN Y B o297 rfl ?_
                refine Go.f2 (Y.ldcInt B.1 hown (mvT hZ (ow235 hw)) rfl (hb B.2 o298.1)) ?_
                by_cases hc8 : (Int32.ofNat X) < (100000000 : Int32)
                · refine zCN Y B o299 (tlt hc8).2.1 ?_
                  refine zbp Y B o300 (v := 8) rfl ?_
                  exact zrI Y B hret hlk o301 e0 ⟨8, rfl, N0, rfl, (by have q := (lt_on (b := 100000000) HX (by decide)).mp hc8; have r : ¬ X < 10000000 := fun z => hc7 ((lt_on (b := 10000000) HX (by decide)).mpr z); exact ⟨by decide, by decide, (by show X < 100000000; omega), Or.inr (by show 10000000 ≤ X; omega)⟩)⟩ rfl rfl
                · refine zCY Y B j20 (flt hc8).2.1 ?_
                  refine zilN Y B o302 rfl ?_
                  refine Go.f2 (Y.ldcInt B.1 hown (mvT hZ (ow236 hw)) rfl (hb B.2 o303.1)) ?_
                  by_cases hc9 : (Int32.ofNat X) < (1000000000 : Int32)
                  · refine zCN Y B o304 (tlt hc9).2.1 ?_
                    refine zbp Y B o305 (v := 9) rfl ?_
                    exact zrI Y B hret hlk o306 e0 ⟨9, rfl, N0, rfl, (by have q := (lt_on (b := 1000000000) HX (by decide)).mp hc9; have r : ¬ X < 100000000 := fun z => hc8 ((lt_on (b := 100000000) HX (by decide)).mpr z); exact ⟨by decide, by decide, (by show X < 1000000000; omega), Or.inr (by show 100000000 ≤ X; omega)⟩)⟩ rfl rfl
                  · refine zCY Y B j21 (flt hc9).2.1 ?_
                    refine zbp Y B o307 (v := 10) rfl ?_
                    exact zrI Y B hret hlk o308 e0 ⟨10, rfl, N0, rfl, (by have r : ¬ X < 1000000000 := fun z => hc9 ((lt_on (b := 1000000000) HX (by decide)).mpr z); exact ⟨by decide, by decide, (by show X < 10000000000; omega), Or.inr (by show 1000000000 ≤ X; omega)⟩)⟩ rfl rfl
def Q_ssize (Z : State) (X : Nat) (h0 : Heap) (n0 : Nat) : QT := fun rv hE LE => ∃ k : Nat, rv = some (.int (Int32.ofNat k)) ∧ Fr n0 LE ∧ hE = h0 ∧ (WD X k)
theorem rm_ssize (l : Launch) (Z : State) (a0 : Array Value) (hw : HW a0 Z) (ws : List Jvm.Cond) (X : Nat) (h0 : Heap) (n0 : Nat) (Z0 : n0 ≤ h0.size) (HX : X < 2 ^ 31) :
    MF l Z mn30 (Jvm.Cond.code mn30 cB30 4 (Option.some Jvm.ClassFile.FieldType.int)) ws Ro0 #[(.int (Int32.ofNat X))] h0 (Q_ssize Z X h0 n0) := by
  refine MF.of ss4 rfl #[iv (Int32.ofNat X), un, un, un] (plainFor_of_name opn_7) (fun _ => rfl) ?_
  intro p e s m below meth c _ hZ hh B hml hret hlk hown hnm Y e0
  have N0 := Fr.nil n0
  refine zc1 Y B o309 <| zisN Y B o310 (s1 rfl) <| zilN Y B o311 rfl ?_
  refine zN Y B o312 ((if0 _ _).trans (flt (show ¬ ((Int32.ofNat X) < (0 : Int32)) from (on_pos HX))).1) ?_
  refine zc0 Y B o313 <| zisN Y B o314 (s1 rfl) <| zilN Y B o315 rfl <| zineg Y B o316 rfl <| zisN Y B o317 (s0 rfl) <| zbp Y B o318 (v := (-10)) rfl <| zisN Y B o319 (s2 rfl) <| zc1 Y B o320 ?_
  refine zisN Y B o321 (s3 rfl) <| zilN Y B o322 rfl <| zbp Y B o323 (v := 10) rfl <| zCN Y B o324 (by decide) ?_
  refine zilN Y B o325 rfl <| zilN Y B o326 rfl ?_
  by_cases hc1 : (-10 : Int32) < (-(Int32.ofNat X))
  · refine zCN Y B o327 (tlt hc1).2.2.2 ?_
    refine zilN Y B o328 rfl <| zilN Y B o329 rfl <| ziadd Y B o330 (v := 1) rfl ?_
    exact zrI Y B hret hlk o331 e0 ⟨1, rfl, N0, rfl, (by have q := (neg_lt_on (a := 10) (by decide) HX).mp hc1; exact ⟨by decide, by decide, (by show X < 10; omega), Or.inl rfl⟩)⟩ rfl rfl
  · refine zCY Y B j22 (flt hc1).2.2.2 ?_
    refine zbp Y B o332 (v := 10) rfl <| zilN Y B o333 rfl <| zimul Y B o334 (v := (-100)) rfl <| zisN Y B o335 (s2 rfl) <| zinc Y B o336 rfl (v := 2) rfl (s3 rfl) <| zgo Y B j23 <| zilN Y B o322 rfl <| zbp Y B o323 (v := 10) rfl ?_
    refine zCN Y B o324 (by decide) ?_
    refine zilN Y B o325 rfl <| zilN Y B o326 rfl ?_
    by_cases hc2 : (-100 : Int32) < (-(Int32.ofNat X))
    · refine zCN Y B o327 (tlt hc2).2.2.2 ?_
      refine zilN Y B o328 rfl <| zilN Y B o329 rfl <| ziadd Y B o330 (v := 2) rfl ?_
      exact zrI Y B hret hlk o331 e0 ⟨2, rfl, N0, rfl, (by have q := (neg_lt_on (a := 100) (by decide) HX).mp hc2; have r : ¬ X < 10 := fun z => hc1 ((neg_lt_on (a := 10) (by decide) HX).mpr z); exact ⟨by decide, by decide, (by show X < 100; omega), Or.inr (by show 10 ≤ X; omega)⟩)⟩ rfl rfl
    · refine zCY Y B j22 (flt hc2).2.2.2 ?_
      refine zbp Y B o332 (v := 10) rfl <| zilN Y B o333 rfl <| zimul Y B o334 (v := (-1000)) rfl <| zisN Y B o335 (s2 rfl) <| zinc Y B o336 rfl (v := 3) rfl (s3 rfl) <| zgo Y B j23 <| zilN Y B o322 rfl <| zbp Y B o323 (v := 10) rfl ?_
      refine zCN Y B o324 (by decide) ?_
      refine zilN Y B o325 rfl <| zilN Y B o326 rfl ?_
      by_cases hc3 : (-1000 : Int32) < (-(Int32.ofNat X))
      · refine zCN Y B o327 (tlt hc3).2.2.2 ?_
        refine zilN Y B o328 rfl <| zilN Y B o329 rfl <| ziadd Y B o330 (v := 3) rfl ?_
        exact zrI Y B hret hlk o331 e0 ⟨3, rfl, N0, rfl, (by have q := (neg_lt_on (a := 1000) (by decide) HX).mp hc3; have r : ¬ X < 100 := fun z => hc2 ((neg_lt_on (a := 100) (by decide) HX).mpr z); exact ⟨by decide, by decide, (by show X < 1000; omega), Or.inr (by show 100 ≤ X; omega)⟩)⟩ rfl rfl
      · refine zCY Y B j22 (flt hc3).2.2.2 ?_
        refine zbp Y B o332 (v := 10) rfl <| zilN Y B o333 rfl <| zimul Y B o334 (v := (-10000)) rfl <| zisN Y B o335 (s2 rfl) <| zinc Y B o336 rfl (v := 4) rfl (s3 rfl) <| zgo Y B j23 <| zilN Y B o322 rfl <| zbp Y B o323 (v := 10) rfl ?_
        refine zCN Y B o324 (by decide) ?_
        refine zilN Y B o325 rfl <| zilN Y B o326 rfl ?_
        by_cases hc4 : (-10000 : Int32) < (-(Int32.ofNat X))
        · refine zCN Y B o327 (tlt hc4).2.2.2 ?_
          refine zilN Y B o328 rfl <| zilN Y B o329 rfl <| ziadd Y B o330 (v := 4) rfl ?_
          exact zrI Y B hret hlk o331 e0 ⟨4, rfl, N0, rfl, (by have q := (neg_lt_on (a := 10000) (by decide) HX).mp hc4; have r : ¬ X < 1000 := fun z => hc3 ((neg_lt_on (a := 1000) (by decide) HX).mpr z); exact ⟨by decide, by decide, (by show X < 10000; omega), Or.inr (by show 1000 ≤ X; omega)⟩)⟩ rfl rfl
        · refine zCY Y B j22 (flt hc4).2.2.2 ?_
          refine zbp Y B o332 (v := 10) rfl <| zilN Y B o333 rfl <| zimul Y B o334 (v := (-100000)) rfl <| zisN Y B o335 (s2 rfl) <| zinc Y B o336 rfl (v := 5) rfl (s3 rfl) <| zgo Y B j23 <| zilN Y B o322 rfl <| zbp Y B o323 (v := 10) rfl ?_
          refine zCN Y B o324 (by decide) ?_
          refine zilN Y B o325 rfl <| zilN Y B o326 rfl ?_
          by_cases hc5 : (-100000 : Int32) < (-(Int32.ofNat X))
          · refine zCN Y B o327 (tlt hc5).2.2.2 ?_
            refine zilN Y B o328 rfl <| zilN Y B o329 rfl <| ziadd Y B o330 (v := 5) rfl ?_
            exact zrI Y B hret hlk o331 e0 ⟨5, rfl, N0, rfl, (by have q := (neg_lt_on (a := 100000) (by decide) HX).mp hc5; have r : ¬ X < 10000 := fun z => hc4 ((neg_lt_on (a := 10000) (by decide) HX).mpr z); exact ⟨by decide, by decide, (by show X < 100000; omega), Or.inr (by show 10000 ≤ X; omega)⟩)⟩ rfl rfl
          · refine zCY Y B j22 (flt hc5).2.2.2 ?_
            refine zbp Y B o332 (v := 10) rfl <| zilN Y B o333 rfl <| zimul Y B o334 (v := (-1000000)) rfl <| zisN Y B o335 (s2 rfl) <| zinc Y B o336 rfl (v := 6) rfl (s3 rfl) <| zgo Y B j23 <| zilN Y B o322 rfl <| zbp Y B o323 (v := 10) rfl ?_
            refine zCN Y B o324 (by decide) ?_
            refine zilN Y B o325 rfl <| zilN Y B o326 rfl ?_
            by_cases hc6 : (-1000000 : Int32) < (-(Int32.ofNat X))
            · refine zCN Y B o327 (tlt hc6).2.2.2 ?_
              refine zilN Y B o328 rfl <| zilN Y B o329 rfl <| ziadd Y B o330 (v := 6) rfl ?_
              exact zrI Y B hret hlk o331 e0 ⟨6, rfl, N0, rfl, (by have q := (neg_lt_on (a := 1000000) (by decide) HX).mp hc6; have r : ¬ X < 100000 := fun z => hc5 ((neg_lt_on (a := 100000) (by decide) HX).mpr z); exact ⟨by decide, by decide, (by show X < 1000000; omega), Or.inr (by show 100000 ≤ X; omega)⟩)⟩ rfl rfl
            · refine zCY Y B j22 (flt hc6).2.2.2 ?_
              refine zbp Y B o332 (v := 10) rfl <| zilN Y B o333 rfl <| zimul Y B o334 (v := (-10000000)) rfl <| zisN Y B o335 (s2 rfl) <| zinc Y B o336 rfl (v := 7) rfl (s3 rfl) <| zgo Y B j23 <| zilN Y B o322 rfl <| zbp Y B o323 (v := 10) rfl ?_
              refine zCN Y B o324 (by decide) ?_
              refine zilN Y B o325 rfl <| zilN Y B o326 rfl ?_
              by_cases hc7 : (-10000000 : Int32) < (-(Int32.ofNat X))
              · refine zCN Y B o327 (tlt hc7).2.2.2 ?_
                refine zilN Y B o328 rfl <| zilN Y B o329 rfl <| ziadd Y B o330 (v := 7) rfl ?_
                exact zrI Y B hret hlk o331 e0 ⟨7, rfl, N0, rfl, (by have q := (neg_lt_on (a := 10000000) (by decide) HX).mp hc7; have r : ¬ X < 1000000 := fun z => hc6 ((neg_lt_on (a := 1000000) (by decide) HX).mpr z); exact ⟨by decide, by decide, (by show X < 10000000; omega), Or.inr (by show 1000000 ≤ X; omega)⟩)⟩ rfl rfl
              · refine zCY Y B j22 (flt hc7).2.2.2 ?_
                refine zbp Y B o332 (v := 10) rfl <| zilN Y B o333 rfl <| zimul Y B o334 (v := (-100000000)) rfl <| zisN Y B o335 (s2 rfl) <| zinc Y B o336 rfl (v := 8) rfl (s3 rfl) <| zgo Y B j23 <| zilN Y B o322 rfl <| zbp Y B o323 (v := 10) rfl ?_
                refine zCN Y B o324 (by decide) ?_
                refine zilN Y B o325 rfl <| zilN Y B o326 rfl ?_
                by_cases hc8 : (-100000000 : Int32) < (-(Int32.ofNat X))
                · refine zCN Y B o327 (tlt hc8).2.2.2 ?_
                  refine zilN Y B o328 rfl <| zilN Y B o329 rfl <| ziadd Y B o330 (v := 8) rfl ?_
                  exact zrI Y B hret hlk o331 e0 ⟨8, rfl, N0, rfl, (by have q := (neg_lt_on (a := 100000000) (by decide) HX).mp hc8; have r : ¬ X < 10000000 := fun z => hc7 ((neg_lt_on (a := 10000000) (by decide) HX).mpr z); exact ⟨by decide, by decide, (by show X < 100000000; omega), Or.inr (by show 10000000 ≤ X; omega)⟩)⟩ rfl rfl
                · refine zCY Y B j22 (flt hc8).2.2.2 ?_
                  refine zbp Y B o332 (v := 10) rfl <| zilN Y B o333 rfl <| zimul Y B o334 (v := (-1000000000)) rfl <| zisN Y B o335 (s2 rfl) <| zinc Y B o336 rfl (v := 9) rfl (s3 rfl) <| zgo Y B j23 <| zilN Y B o322 rfl <| zbp Y B o323 (v := 10) rfl ?_
                  refine zCN Y B o324 (by decide) ?_
                  refine zilN Y B o325 rfl <| zilN Y B o326 rfl ?_
                  by_cases hc9 : (-1000000000 : Int32) < (-(Int32.ofNat X))
                  · refine zCN Y B o327 (tlt hc9).2.2.2 ?_
                    refine zilN Y B o328 rfl <| zilN Y B o329 rfl <| ziadd Y B o330 (v := 9) rfl ?_
                    exact zrI Y B hret hlk o331 e0 ⟨9, rfl, N0, rfl, (by have q := (neg_lt_on (a := 1000000000) (by decide) HX).mp hc9; have r : ¬ X < 100000000 := fun z => hc8 ((neg_lt_on (a := 100000000) (by decide) HX).mpr z); exact ⟨by decide, by decide, (by show X < 1000000000; omega), Or.inr (by show 100000000 ≤ X; omega)⟩)⟩ rfl rfl
                  · refine zCY Y B j22 (flt hc9).2.2.2 ?_
                    refine zbp Y B o332 (v := 10) rfl <| zilN Y B o333 rfl <| zimul Y B o334 (v := (-1410065408)) rfl <| zisN Y B o335 (s2 rfl) <| zinc Y B o336 rfl (v := 10) rfl (s3 rfl) <| zgo Y B j23 <| zilN Y B o322 rfl <| zbp Y B o323 (v := 10) rfl ?_
                    refine zCY Y B j24 (by decide) ?_
                    refine zbp Y B o337 (v := 10) rfl <| zilN Y B o338 rfl <| ziadd Y B o339 (v := 10) rfl ?_
                    exact zrI Y B hret hlk o340 e0 ⟨10, rfl, N0, rfl, (by have r : ¬ X < 1000000000 := fun z => hc9 ((neg_lt_on (a := 1000000000) (by decide) HX).mpr z); exact ⟨by decide, by decide, (by show X < 10000000000; omega), Or.inr (by show 1000000000 ≤ X; omega)⟩)⟩ rfl rfl
def Q_pow10 (Z : State) (E : Nat) (h0 : Heap) (n0 : Nat) : QT := fun rv hE LE => ∃ pw : Nat, rv = some (.long (Int64.ofNat pw)) ∧ Fr n0 LE ∧ hE = h0 ∧ (pw = 10 ^ E)
theorem rm_pow10 (l : Launch) (Z : State) (a0 : Array Value) (hw : HW a0 Z) (ws : List Jvm.Cond) (E : Nat) (h0 : Heap) (n0 : Nat) (Z0 : n0 ≤ h0.size) (HE : E ≤ 9) :
    MF l Z mn31 (Jvm.Cond.code mn31 cB31 1 (Option.some Jvm.ClassFile.FieldType.long)) ws Ro0 #[(.int (Int32.ofNat E))] h0 (Q_pow10 Z E h0 n0) := by
  refine MF.of ss12 rfl #[iv (Int32.ofNat E)] (plainFor_of_name opn_6) (fun _ => rfl) ?_
  intro p e s m below meth c _ hZ hh B hml hret hlk hown hnm Y e0
  have N0 := Fr.nil n0
  refine zilN Y B o341 rfl ?_
  by_cases hc0 : (Int32.ofNat E) = (0 : Int32)
  · refine zN Y B o342 ((if0 _ _).trans (teq hc0).2) ?_
    refine Go.by (fun _ kq_ => XS.lconst Y.here B.1 rfl (hb B.2 o343.1) kq_) ?_
    show Go p e below _ _ (mkF m 5 #[iv (Int32.ofNat E)] [(.long (1 : Int64))])
    exact zrL Y B hret hlk o344 e0 ⟨1, rfl, N0, rfl, (by rw [(eq_on (b := 0) (by omega) (by decide)).mp hc0])⟩ rfl rfl
  · refine zY Y B j25 ((if0 _ _).trans (feq hc0).2) ?_
    refine zilN Y B o345 rfl <| zc1 Y B o346 ?_
    by_cases hc1 : (Int32.ofNat E) = (1 : Int32)
    · refine zCN Y B o347 (teq hc1).2 ?_
      refine Go.f3 (Y.ldc2Long B.1 hown (mvT hZ (ow198 hw)) rfl (hb B.2 o348.1)) ?_
      exact zrL Y B hret hlk o349 e0 ⟨10, rfl, N0, rfl, (by rw [(eq_on (b := 1) (by omega) (by decide)).mp hc1])⟩ rfl rfl
    · refine zCY Y B j26 (feq hc1).2 ?_
      refine zilN Y B o350 rfl <| zc2 Y B o351 ?_
      by_cases hc2 : (Int32.ofNat E) = (2 : Int32)
      · refine zCN Y B o352 (teq hc2).2 ?_
        refine Go.f3 (Y.ldc2Long B.1 hown (mvT hZ (ow244 hw)) rfl (hb B.2 o353.1)) ?_
        exact zrL Y B hret hlk o354 e0 ⟨100, rfl, N0, rfl, (by rw [(eq_on (b := 2) (by omega) (by decide)).mp hc2])⟩ rfl rfl
      · refine zCY Y B j27 (feq hc2).2 ?_
        refine zilN Y B o355 rfl <| zc3 Y B o356 ?_
        by_cases hc3 : (Int32.ofNat E) = (3 : Int32)
        · refine zCN Y B o357 (teq hc3).2 ?_
          refine Go.f3 (Y.ldc2Long B.1 hown (mvT hZ (ow243 hw)) rfl (hb B.2 o358.1)) ?_
          exact zrL Y B hret hlk o359 e0 ⟨1000, rfl, N0, rfl, (by rw [(eq_on (b := 3) (by omega) (by decide)).mp hc3])⟩ rfl rfl
        · refine zCY Y B j28 (feq hc3).2 ?_
          refine zilN Y B o360 rfl <| zc4 Y B o361 ?_
          by_cases hc4 : (Int32.ofNat E) = (4 : Int32)
          · refine zCN Y B o362 (teq hc4).2 ?_
            refine Go.f3 (Y.ldc2Long B.1 hown (mvT hZ (ow242 hw)) rfl (hb B.2 o363.1)) ?_
            exact zrL Y B hret hlk o364 e0 ⟨10000, rfl, N0, rfl, (by rw [(eq_on (b := 4) (by omega) (by decide)).mp hc4])⟩ rfl rfl
          · refine zCY Y B j29 (feq hc4).2 ?_
            refine zilN Y B o365 rfl <| zc5 Y B o366 ?_
            by_cases hc5 : (Int32.ofNat E) = (5 : Int32)
            · refine zCN Y B o367 (teq hc5).2 ?_
              refine Go.f3 (Y.ldc2Long B.1 hown (mvT hZ (ow241 hw)) rfl (hb B.2 o368.1)) ?_
              exact zrL Y B hret hlk o369 e0 ⟨100000, rfl, N0, rfl, (by rw [(eq_on (b := 5) (by omega) (by decide)).mp hc5])⟩ rfl rfl
            · refine zCY Y B j30 (feq hc5).2 ?_
              refine zilN Y B o370 rfl <| zbp Y B o371 (v := 6) rfl ?_
              by_cases hc6 : (Int32.ofNat E) = (6 : Int32)
              · refine zCN Y B o372 (teq hc6).2 ?_
                refine Go.f3 (Y.ldc2Long B.1 hown (mvT hZ (ow240 hw)) rfl (hb B.2 o373.1)) ?_
                exact zrL Y B hret hlk o374 e0 ⟨1000000, rfl, N0, rfl, (by rw [(eq_on (b := 6) (by omega) (by decide)).mp hc6])⟩ rfl rfl
              · refine zCY Y B j31 (feq hc6).2 ?_
                refine zilN Y B o375 rfl <| zbp Y B o376 (v := 7) rfl ?_
                by_cases hc7 : (Int32.ofNat E) = (7 : Int32)
                · refine zCN Y B o377 (teq hc7).2 ?_
                  refine Go.f3 (Y.ldc2Long B.1 hown (mvT hZ (ow239 hw)) rfl (hb B.2 o378.1)) ?_
                  exact zrL Y B hret hlk o379 e0 ⟨10000000, rfl, N0, rfl, (by rw [(eq_on (b := 7) (by omega) (by decide)).mp hc7])⟩ rfl rfl
                · refine zCY Y B j32 (feq hc7).2 ?_
                  refine zilN Y B o380 rfl <| zbp Y B o381 (v := 8) rfl ?_
                  by_cases hc8 : (Int32.ofNat E) = (8 : Int32)
                  · refine zCN Y B o382 (teq hc8).2 ?_
                    refine Go.f3 (Y.ldc2Long B.1 hown (mvT hZ (ow238 hw)) rfl (hb B.2 o383.1)) ?_
                    exact zrL Y B hret hlk o384 e0 ⟨100000000, rfl, N0, rfl, (by rw [(eq_on (b := 8) (by omega) (by decide)).mp hc8])⟩ rfl rfl
                  · refine zCY Y B j33 (feq hc8).2 ?_
                    refine Go.f3 (Y.ldc2Long B.1 hown (mvT hZ (ow237 hw)) rfl (hb B.2 o385.1)) ?_
                    exact zrL Y B hret hlk o386 e0 ⟨1000000000, rfl, N0, rfl, (by have q : E = 9 := (by have r0 : ¬ E = 0 := fun z => hc0 ((eq_on (b := 0) (by omega) (by decide)).mpr z); have r1 : ¬ E = 1 := fun z => hc1 ((eq_on (b := 1) (by omega) (by decide)).mpr z); have r2 : ¬ E = 2 := fun z => hc2 ((eq_on (b := 2) (by omega) (by decide)).mpr z); have r3 : ¬ E = 3 := fun z => hc3 ((eq_on (b := 3) (by omega) (by decide)).mpr z); have r4 : ¬ E = 4 := fun z => hc4 ((eq_on (b := 4) (by omega) (by decide)).mpr z); have r5 : ¬ E = 5 := fun z => hc5 ((eq_on (b := 5) (by omega) (by decide)).mpr z); have r6 : ¬ E = 6 := fun z => hc6 ((eq_on (b := 6) (by omega) (by decide)).mpr z); have r7 : ¬ E = 7 := fun z => hc7 ((eq_on (b := 7) (by omega) (by decide)).mpr z); have r8 : ¬ E = 8 := fun z => hc8 ((eq_on (b := 8) (by omega) (by decide)).mpr z); omega); rw [q])⟩ rfl rfl
def Q_getch1 (Z : State) (X : Nat) (a : Addr) (ka : ClassId) (on : Addr) (ko : ClassId) (te : Addr) (ke : ClassId) (h0 : Heap) (n0 : Nat) : QT := fun rv hE LE => rv = some (.int 0) ∧ Fr n0 LE ∧ Keep h0 hE [a] ∧ (Arv Z hE a ka .byte (1 : Int32) (B8 (D 1 X)) (.int 0))
theorem rm_getch1 (l : Launch) (Z : State) (a0 : Array Value) (hw : HW a0 Z) (ws : List Jvm.Cond) (X : Nat) (a : Addr) (ka : ClassId) (on : Addr) (ko : ClassId) (te : Addr) (ke : ClassId) (h0 : Heap) (n0 : Nat) (Z0 : n0 ≤ h0.size) (HX : X < 2 ^ 31) (HW : WD X 1) (g_a : n0 ≤ a) (VA : Arv Z h0 a ka .byte (1 : Int32) ([(.int 0)]) (.int 0)) (OS1 : Sta Z Z.heap ss4 ss8 "[B" (.ref on)) (OD1 : Arv Z Z.heap on ko .byte (100 : Int32) ONES (.int 0)) (OS2 : Sta Z Z.heap ss4 ss9 "[B" (.ref te)) (OD2 : Arv Z Z.heap te ke .byte (100 : Int32) TENS (.int 0)) (X00 : Old Z n0 h0) :
    MF l Z mn32 (Jvm.Cond.code mn32 cB32 7 (Option.some Jvm.ClassFile.FieldType.int)) ws Ro0 #[(.int (Int32.ofNat X)), (.int 1), (.ref a)] h0 (Q_getch1 Z X a ka on ko te ke h0 n0) := by
  refine MF.of ss4 rfl #[iv (Int32.ofNat X), iv 1, rv a, un, un, un, un] (plainFor_of_name opn_7) (fun _ => rfl) ?_
  intro p e s m below meth c _ hZ hh B hml hret hlk hown hnm Y e0
  have N0 := Fr.nil n0
  have K0 := Keep.refl h0 [a]
  obtain ⟨-, -, hu0, hl0⟩ := HW
  have hu : X < 10 := hu0
  refine zilN Y B o387 rfl <| zis Y B o388 (s5 rfl) <| zilN Y B o389 rfl ?_
  refine zY Y B j34 ((if0 _ _).trans (flt (show ¬ ((Int32.ofNat X) < (0 : Int32)) from (on_pos HX))).2.1) ?_
  refine zc0 Y B o390 <| zis Y B o391 (s6 rfl) <| zil Y B o392 rfl <| zN Y B o393 (by decide) ?_
  refine zilN Y B o394 rfl <| zineg Y B o395 rfl <| zisN Y B o396 (s0 rfl) <| zilN Y B o397 rfl <| zbp Y B o398 (v := (-100)) rfl ?_
  refine zCY Y B j35 (tlt (show (-100 : Int32) < (-(Int32.ofNat X)) from ((neg_lt_on (a := 100) (by decide) (by omega)).mpr (by omega)))).2.2.1 ?_
  refine zalN Y B o399 rfl <| zinc Y B o400 rfl (v := 0) rfl (s5 rfl) <| zil Y B o401 rfl ?_
  refine zgs Y B hZ hown (ow51 hw) e0 (OS1.ext X00.2) o402 fun _ Y e30 => ?_
  refine zilN Y B o403 rfl <| zineg Y B o404 rfl ?_
  rw [show (-(-(Int32.ofNat X))) = (Int32.ofNat X) from (neg_neg_on _)]
  refine zlb Y B hZ e30 (OD1.ext X00.2) (v := (.int (Int32.ofNat (48 + X % 10)))) ⟨on_pos (by omega), on_lt (b := 100) (by omega) (by decide)⟩ (ones_at (by omega)) o405 ?_
  obtain ⟨c32, A32, q32, S32, M32, G32, J32⟩ := id VA
  refine Go.b1 (stB Y B.1 hZ e30 A32 (j := (0 : Int32)) (inb_of S32 ⟨by decide, by decide⟩) rfl rfl (hb B.2 o406.1)) fun T32 h32 Y e32 W32 => ?_
  have N32 := Fr.snoc Y N0 g_a
  have K33 := K0.wr W32 (Or.inl (List.mem_of_getElem? (i := 0) rfl))
  have O33 := X00.wr W32 g_a
  have V32 : Arv Z h32 a ka .byte (1 : Int32) ([(.int (nar .byte (Int32.ofNat (48 + X % 10))))]) (.int 0) := Arv.set A32 q32 S32 M32 G32 J32 (fits_nar_byte _) W32 0 rfl (Nat.le_of_ble_eq_true rfl)
  rw [dig8 (a := X % 10) (b := X / 1 % 10) (by omega)] at V32
  refine zilN Y B o407 rfl <| zbp Y B o408 (v := (-9)) rfl ?_
  refine zCY Y B j36 (flt (show ¬ ((-(Int32.ofNat X)) < (-9 : Int32)) from (fun q => absurd ((neg_lt_on (b := 9) (by omega) (by decide)).mp q) (by omega)))).2.1 ?_
  refine zil Y B o409 rfl <| zY Y B j37 (by decide) ?_
  refine zil Y B o410 rfl ?_
  exact zrI Y B hret hlk o411 e32 ⟨rfl, N32, K33, V32⟩ rfl rfl
def Q_getch2 (Z : State) (X : Nat) (a : Addr) (ka : ClassId) (on : Addr) (ko : ClassId) (te : Addr) (ke : ClassId) (h0 : Heap) (n0 : Nat) : QT := fun rv hE LE => rv = some (.int 0) ∧ Fr n0 LE ∧ Keep h0 hE [a] ∧ (Arv Z hE a ka .byte (2 : Int32) (B8 (D 2 X)) (.int 0))
theorem rm_getch2 (l : Launch) (Z : State) (a0 : Array Value) (hw : HW a0 Z) (ws : List Jvm.Cond) (X : Nat) (a : Addr) (ka : ClassId) (on : Addr) (ko : ClassId) (te : Addr) (ke : ClassId) (h0 : Heap) (n0 : Nat) (Z0 : n0 ≤ h0.size) (HX : X < 2 ^ 31) (HW : WD X 2) (g_a : n0 ≤ a) (VA : Arv Z h0 a ka .byte (2 : Int32) ([(.int 0), (.int 0)]) (.int 0)) (OS1 : Sta Z Z.heap ss4 ss8 "[B" (.ref on)) (OD1 : Arv Z Z.heap on ko .byte (100 : Int32) ONES (.int 0)) (OS2 : Sta Z Z.heap ss4 ss9 "[B" (.ref te)) (OD2 : Arv Z Z.heap te ke .byte (100 : Int32) TENS (.int 0)) (X00 : Old Z n0 h0) :
    MF l Z mn32 (Jvm.Cond.code mn32 cB32 7 (Option.some Jvm.ClassFile.FieldType.int)) ws Ro0 #[(.int (Int32.ofNat X)), (.int 2), (.ref a)] h0 (Q_getch2 Z X a ka on ko te ke h0 n0) := by
  refine MF.of ss4 rfl #[iv (Int32.ofNat X), iv 2, rv a, un, un, un, un] (plainFor_of_name opn_7) (fun _ => rfl) ?_
  intro p e s m below meth c _ hZ hh B hml hret hlk hown hnm Y e0
  have N0 := Fr.nil n0
  have K0 := Keep.refl h0 [a]
  obtain ⟨-, -, hu0, hl0⟩ := HW
  have hu : X < 100 := hu0
  have hl : 10 ≤ X := hl0.resolve_left (by decide)
  refine zilN Y B o387 rfl <| zis Y B o388 (s5 rfl) <| zilN Y B o389 rfl ?_
  refine zY Y B j34 ((if0 _ _).trans (flt (show ¬ ((Int32.ofNat X) < (0 : Int32)) from (on_pos HX))).2.1) ?_
  refine zc0 Y B o390 <| zis Y B o391 (s6 rfl) <| zil Y B o392 rfl <| zN Y B o393 (by decide) ?_
  refine zilN Y B o394 rfl <| zineg Y B o395 rfl <| zisN Y B o396 (s0 rfl) <| zilN Y B o397 rfl <| zbp Y B o398 (v := (-100)) rfl ?_
  refine zCY Y B j35 (tlt (show (-100 : Int32) < (-(Int32.ofNat X)) from ((neg_lt_on (a := 100) (by decide) (by omega)).mpr (by omega)))).2.2.1 ?_
  refine zalN Y B o399 rfl <| zinc Y B o400 rfl (v := 1) rfl (s5 rfl) <| zil Y B o401 rfl ?_
  refine zgs Y B hZ hown (ow51 hw) e0 (OS1.ext X00.2) o402 fun _ Y e30 => ?_
  refine zilN Y B o403 rfl <| zineg Y B o404 rfl ?_
  rw [show (-(-(Int32.ofNat X))) = (Int32.ofNat X) from (neg_neg_on _)]
  refine zlb Y B hZ e30 (OD1.ext X00.2) (v := (.int (Int32.ofNat (48 + X % 10)))) ⟨on_pos (by omega), on_lt (b := 100) (by omega) (by decide)⟩ (ones_at (by omega)) o405 ?_
  obtain ⟨c32, A32, q32, S32, M32, G32, J32⟩ := id VA
  refine Go.b1 (stB Y B.1 hZ e30 A32 (j := (1 : Int32)) (inb_of S32 ⟨by decide, by decide⟩) rfl rfl (hb B.2 o406.1)) fun T32 h32 Y e32 W32 => ?_
  have N32 := Fr.snoc Y N0 g_a
  have K33 := K0.wr W32 (Or.inl (List.mem_of_getElem? (i := 0) rfl))
  have O33 := X00.wr W32 g_a
  have V32 : Arv Z h32 a ka .byte (2 : Int32) ([(.int 0), (.int (nar .byte (Int32.ofNat (48 + X % 10))))]) (.int 0) := Arv.set A32 q32 S32 M32 G32 J32 (fits_nar_byte _) W32 1 rfl (Nat.le_of_ble_eq_true rfl)
  rw [dig8 (a := X % 10) (b := X / 1 % 10) (by omega)] at V32
  refine zilN Y B o407 rfl <| zbp Y B o408 (v := (-9)) rfl ?_
  refine zCN Y B o412 (tlt (show (-(Int32.ofNat X)) < (-9 : Int32) from ((neg_lt_on (b := 9) (by omega) (by decide)).mpr (by omega)))).2.1 ?_
  refine zalN Y B o413 rfl <| zinc Y B o414 rfl (v := 0) rfl (s5 rfl) <| zil Y B o415 rfl ?_
  refine zgs Y B hZ hown (ow217 hw) e32 (OS2.ext O33.2) o416 fun _ Y e34 => ?_
  refine zilN Y B o417 rfl <| zineg Y B o418 rfl ?_
  rw [show (-(-(Int32.ofNat X))) = (Int32.ofNat X) from (neg_neg_on _)]
  refine zlb Y B hZ e34 (OD2.ext O33.2) (v := (.int (Int32.ofNat (48 + X / 10)))) ⟨on_pos (by omega), on_lt (b := 100) (by omega) (by decide)⟩ (tens_at (by omega)) o419 ?_
  obtain ⟨c36, A36, q36, S36, M36, G36, J36⟩ := id V32
  refine Go.b1 (stB Y B.1 hZ e34 A36 (j := (0 : Int32)) (inb_of S36 ⟨by decide, by decide⟩) rfl rfl (hb B.2 o420.1)) fun T36 h36 Y e36 W36 => ?_
  have N36 := Fr.snoc Y N32 g_a
  have K37 := K33.wr W36 (Or.inl (List.mem_of_getElem? (i := 0) rfl))
  have O37 := O33.wr W36 g_a
  have V36 : Arv Z h36 a ka .byte (2 : Int32) ([(.int (nar .byte (Int32.ofNat (48 + X / 10)))), (.int (Int32.ofNat (48 + X / 1 % 10)).toInt8.toInt32)]) (.int 0) := Arv.set A36 q36 S36 M36 G36 J36 (fits_nar_byte _) W36 0 rfl (Nat.le_of_ble_eq_true rfl)
  rw [dig8 (a := X / 10) (b := X / 10 % 10) (by omega)] at V36
  refine zil Y B o409 rfl <| zY Y B j37 (by decide) ?_
  refine zil Y B o410 rfl ?_
  exact zrI Y B hret hlk o411 e36 ⟨rfl, N36, K37, V36⟩ rfl rfl
def Q_getch3 (Z : State) (X : Nat) (a : Addr) (ka : ClassId) (on : Addr) (ko : ClassId) (te : Addr) (ke : ClassId) (h0 : Heap) (n0 : Nat) : QT := fun rv hE LE => rv = some (.int 0) ∧ Fr n0 LE ∧ Keep h0 hE [a] ∧ (Arv Z hE a ka .byte (3 : Int32) (B8 (D 3 X)) (.int 0))
theorem rm_getch3 (l : Launch) (Z : State) (a0 : Array Value) (hw : HW a0 Z) (ws : List Jvm.Cond) (X : Nat) (a : Addr) (ka : ClassId) (on : Addr) (ko : ClassId) (te : Addr) (ke : ClassId) (h0 : Heap) (n0 : Nat) (Z0 : n0 ≤ h0.size) (HX : X < 2 ^ 31) (HW : WD X 3) (g_a : n0 ≤ a) (VA : Arv Z h0 a ka .byte (3 : Int32) ([(.int 0), (.int 0), (.int 0)]) (.int 0)) (OS1 : Sta Z Z.heap ss4 ss8 "[B" (.ref on)) (OD1 : Arv Z Z.heap on ko .byte (100 : Int32) ONES (.int 0)) (OS2 : Sta Z Z.heap ss4 ss9 "[B" (.ref te)) (OD2 : Arv Z Z.heap te ke .byte (100 : Int32) TENS (.int 0)) (X00 : Old Z n0 h0) :
    MF l Z mn32 (Jvm.Cond.code mn32 cB32 7 (Option.some Jvm.ClassFile.FieldType.int)) ws Ro0 #[(.int (Int32.ofNat X)), (.int 3), (.ref a)] h0 (Q_getch3 Z X a ka on ko te ke h0 n0) := by
  refine MF.of ss4 rfl #[iv (Int32.ofNat X), iv 3, rv a, un, un, un, un] (plainFor_of_name opn_7) (fun _ => rfl) ?_
  intro p e s m below meth c _ hZ hh B hml hret hlk hown hnm Y e0
  have N0 := Fr.nil n0
  have K0 := Keep.refl h0 [a]
  obtain ⟨-, -, hu0, hl0⟩ := HW
  have hu : X < 1000 := hu0
  have hl : 100 ≤ X := hl0.resolve_left (by decide)
  refine zilN Y B o387 rfl <| zis Y B o388 (s5 rfl) <| zilN Y B o389 rfl ?_
  refine zY Y B j34 ((if0 _ _).trans (flt (show ¬ ((Int32.ofNat X) < (0 : Int32)) from (on_pos HX))).2.1) ?_
  refine zc0 Y B o390 <| zis Y B o391 (s6 rfl) <| zil Y B o392 rfl <| zN Y B o393 (by decide) ?_
  refine zilN Y B o394 rfl <| zineg Y B o395 rfl <| zisN Y B o396 (s0 rfl) <| zilN Y B o397 rfl <| zbp Y B o398 (v := (-100)) rfl ?_
  refine zCN Y B o421 (flt (show ¬ ((-100 : Int32) < (-(Int32.ofNat X))) from (fun q => absurd ((neg_lt_on (a := 100) (by decide) (by omega)).mp q) (by omega)))).2.2.1 ?_
  refine zilN Y B o422 rfl <| zbp Y B o423 (v := 100) rfl ?_
  refine Go.by (fun _ kq_ => XS.idiv Y.here B.1 rfl (hb B.2 o424.1) rfl (by decide) kq_) ?_
  show Go p e below _ _ (mkF m 32 #[iv (-(Int32.ofNat X)), iv 3, rv a, un, un, iv 3, iv 0] [(.int ((-(Int32.ofNat X)) / (100 : Int32)))])
  rw [show ((-(Int32.ofNat X)) / (100 : Int32)) = (-(Int32.ofNat (X / 100))) from ((g_div (by omega)).trans (congrArg (fun z => -(Int32.ofNat z)) (by omega)))]
  refine zisN Y B o425 (s3 rfl) <| zilN Y B o426 rfl <| zbp Y B o427 (v := 100) rfl <| zimul Y B o428 rfl <| zilN Y B o429 rfl <| zisub Y B o430 rfl ?_
  rw [show (((-(Int32.ofNat (X / 100))) * (100 : Int32)) - (-(Int32.ofNat X))) = (Int32.ofNat (X % 100)) from (by have q := g_rem (Y := X) (by omega); rw [show X / 100 = (X / 100) from by omega] at q; exact q)]
  refine zis Y B o431 (s4 rfl) <| zilN Y B o432 rfl <| zisN Y B o433 (s0 rfl) <| zalN Y B o434 rfl <| zinc Y B o435 rfl (v := 2) rfl (s5 rfl) <| zil Y B o436 rfl ?_
  refine zgs Y B hZ hown (ow51 hw) e0 (OS1.ext X00.2) o437 fun _ Y e30 => ?_
  refine zil Y B o438 rfl ?_
  refine zlb Y B hZ e30 (OD1.ext X00.2) (v := (.int (Int32.ofNat (48 + X % 100 % 10)))) ⟨on_pos (by omega), on_lt (b := 100) (by omega) (by decide)⟩ (ones_at (by omega)) o439 ?_
  obtain ⟨c32, A32, q32, S32, M32, G32, J32⟩ := id VA
  refine Go.b1 (stB Y B.1 hZ e30 A32 (j := (2 : Int32)) (inb_of S32 ⟨by decide, by decide⟩) rfl rfl (hb B.2 o440.1)) fun T32 h32 Y e32 W32 => ?_
  have N32 := Fr.snoc Y N0 g_a
  have K33 := K0.wr W32 (Or.inl (List.mem_of_getElem? (i := 0) rfl))
  have O33 := X00.wr W32 g_a
  have V32 : Arv Z h32 a ka .byte (3 : Int32) ([(.int 0), (.int 0), (.int (nar .byte (Int32.ofNat (48 + X % 100 % 10))))]) (.int 0) := Arv.set A32 q32 S32 M32 G32 J32 (fits_nar_byte _) W32 2 rfl (Nat.le_of_ble_eq_true rfl)
  rw [dig8 (a := X % 100 % 10) (b := X / 1 % 10) (by omega)] at V32
  refine zalN Y B o441 rfl <| zinc Y B o442 rfl (v := 1) rfl (s5 rfl) <| zil Y B o443 rfl ?_
  refine zgs Y B hZ hown (ow217 hw) e32 (OS2.ext O33.2) o444 fun _ Y e34 => ?_
  refine zil Y B o445 rfl ?_
  refine zlb Y B hZ e34 (OD2.ext O33.2) (v := (.int (Int32.ofNat (48 + X % 100 / 10)))) ⟨on_pos (by omega), on_lt (b := 100) (by omega) (by decide)⟩ (tens_at (by omega)) o446 ?_
  obtain ⟨c36, A36, q36, S36, M36, G36, J36⟩ := id V32
  refine Go.b1 (stB Y B.1 hZ e34 A36 (j := (1 : Int32)) (inb_of S36 ⟨by decide, by decide⟩) rfl rfl (hb B.2 o447.1)) fun T36 h36 Y e36 W36 => ?_
  have N36 := Fr.snoc Y N32 g_a
  have K37 := K33.wr W36 (Or.inl (List.mem_of_getElem? (i := 0) rfl))
  have O37 := O33.wr W36 g_a
  have V36 : Arv Z h36 a ka .byte (3 : Int32) ([(.int 0), (.int (nar .byte (Int32.ofNat (48 + X % 100 / 10)))), (.int (Int32.ofNat (48 + X / 1 % 10)).toInt8.toInt32)]) (.int 0) := Arv.set A36 q36 S36 M36 G36 J36 (fits_nar_byte _) W36 1 rfl (Nat.le_of_ble_eq_true rfl)
  rw [dig8 (a := X % 100 / 10) (b := X / 10 % 10) (by omega)] at V36
  refine zgo Y B j38 <| zilN Y B o397 rfl <| zbp Y B o398 (v := (-100)) rfl ?_
  refine zCY Y B j35 (tlt (show (-100 : Int32) < (-(Int32.ofNat (X / 100))) from ((neg_lt_on (a := 100) (by decide) (by omega)).mpr (by omega)))).2.2.1 ?_
  refine zalN Y B o399 rfl <| zinc Y B o400 rfl (v := 0) rfl (s5 rfl) <| zil Y B o401 rfl ?_
  refine zgs Y B hZ hown (ow51 hw) e36 (OS1.ext O37.2) o402 fun _ Y e38 => ?_
  refine zilN Y B o403 rfl <| zineg Y B o404 rfl ?_
  rw [show (-(-(Int32.ofNat (X / 100)))) = (Int32.ofNat (X / 100)) from (neg_neg_on _)]
  refine zlb Y B hZ e38 (OD1.ext O37.2) (v := (.int (Int32.ofNat (48 + (X / 100) % 10)))) ⟨on_pos (by omega), on_lt (b := 100) (by omega) (by decide)⟩ (ones_at (by omega)) o405 ?_
  obtain ⟨c40, A40, q40, S40, M40, G40, J40⟩ := id V36
  refine Go.b1 (stB Y B.1 hZ e38 A40 (j := (0 : Int32)) (inb_of S40 ⟨by decide, by decide⟩) rfl rfl (hb B.2 o406.1)) fun T40 h40 Y e40 W40 => ?_
  have N40 := Fr.snoc Y N36 g_a
  have K41 := K37.wr W40 (Or.inl (List.mem_of_getElem? (i := 0) rfl))
  have O41 := O37.wr W40 g_a
  have V40 : Arv Z h40 a ka .byte (3 : Int32) ([(.int (nar .byte (Int32.ofNat (48 + (X / 100) % 10)))), (.int (Int32.ofNat (48 + X / 10 % 10)).toInt8.toInt32), (.int (Int32.ofNat (48 + X / 1 % 10)).toInt8.toInt32)]) (.int 0) := Arv.set A40 q40 S40 M40 G40 J40 (fits_nar_byte _) W40 0 rfl (Nat.le_of_ble_eq_true rfl)
  rw [dig8 (a := (X / 100) % 10) (b := X / 100 % 10) (by omega)] at V40
  refine zilN Y B o407 rfl <| zbp Y B o408 (v := (-9)) rfl ?_
  refine zCY Y B j36 (flt (show ¬ ((-(Int32.ofNat (X / 100))) < (-9 : Int32)) from (fun q => absurd ((neg_lt_on (b := 9) (by omega) (by decide)).mp q) (by omega)))).2.1 ?_
  refine zil Y B o409 rfl <| zY Y B j37 (by decide) ?_
  refine zil Y B o410 rfl ?_
  exact zrI Y B hret hlk o411 e40 ⟨rfl, N40, K41, V40⟩ rfl rfl
def Q_getch4 (Z : State) (X : Nat) (a : Addr) (ka : ClassId) (on : Addr) (ko : ClassId) (te : Addr) (ke : ClassId) (h0 : Heap) (n0 : Nat) : QT := fun rv hE LE => rv = some (.int 0) ∧ Fr n0 LE ∧ Keep h0 hE [a] ∧ (Arv Z hE a ka .byte (4 : Int32) (B8 (D 4 X)) (.int 0))
theorem rm_getch4 (l : Launch) (Z : State) (a0 : Array Value) (hw : HW a0 Z) (ws : List Jvm.Cond) (X : Nat) (a : Addr) (ka : ClassId) (on : Addr) (ko : ClassId) (te : Addr) (ke : ClassId) (h0 : Heap) (n0 : Nat) (Z0 : n0 ≤ h0.size) (HX : X < 2 ^ 31) (HW : WD X 4) (g_a : n0 ≤ a) (VA : Arv Z h0 a ka .byte (4 : Int32) ([(.int 0), (.int 0), (.int 0), (.int 0)]) (.int 0)) (OS1 : Sta Z Z.heap ss4 ss8 "[B" (.ref on)) (OD1 : Arv Z Z.heap on ko .byte (100 : Int32) ONES (.int 0)) (OS2 : Sta Z Z.heap ss4 ss9 "[B" (.ref te)) (OD2 : Arv Z Z.heap te ke .byte (100 : Int32) TENS (.int 0)) (X00 : Old Z n0 h0) :
    MF l Z mn32 (Jvm.Cond.code mn32 cB32 7 (Option.some Jvm.ClassFile.FieldType.int)) ws Ro0 #[(.int (Int32.ofNat X)), (.int 4), (.ref a)] h0 (Q_getch4 Z X a ka on ko te ke h0 n0) := by
  refine MF.of ss4 rfl #[iv (Int32.ofNat X), iv 4, rv a, un, un, un, un] (plainFor_of_name opn_7) (fun _ => rfl) ?_
  intro p e s m below meth c _ hZ hh B hml hret hlk hown hnm Y e0
  have N0 := Fr.nil n0
  have K0 := Keep.refl h0 [a]
  obtain ⟨-, -, hu0, hl0⟩ := HW
  have hu : X < 10000 := hu0
  have hl : 1000 ≤ X := hl0.resolve_left (by decide)
  refine zilN Y B o387 rfl <| zis Y B o388 (s5 rfl) <| zilN Y B o389 rfl ?_
  refine zY Y B j34 ((if0 _ _).trans (flt (show ¬ ((Int32.ofNat X) < (0 : Int32)) from (on_pos HX))).2.1) ?_
  refine zc0 Y B o390 <| zis Y B o391 (s6 rfl) <| zil Y B o392 rfl <| zN Y B o393 (by decide) ?_
  refine zilN Y B o394 rfl <| zineg Y B o395 rfl <| zisN Y B o396 (s0 rfl) <| zilN Y B o397 rfl <| zbp Y B o398 (v := (-100)) rfl ?_
  refine zCN Y B o421 (flt (show ¬ ((-100 : Int32) < (-(Int32.ofNat X))) from (fun q => absurd ((neg_lt_on (a := 100) (by decide) (by omega)).mp q) (by omega)))).2.2.1 ?_
  refine zilN Y B o422 rfl <| zbp Y B o423 (v := 100) rfl ?_
  refine Go.by (fun _ kq_ => XS.idiv Y.here B.1 rfl (hb B.2 o424.1) rfl (by decide) kq_) ?_
  show Go p e below _ _ (mkF m 32 #[iv (-(Int32.ofNat X)), iv 4, rv a, un, un, iv 4, iv 0] [(.int ((-(Int32.ofNat X)) / (100 : Int32)))])
  rw [show ((-(Int32.ofNat X)) / (100 : Int32)) = (-(Int32.ofNat (X / 100))) from ((g_div (by omega)).trans (congrArg (fun z => -(Int32.ofNat z)) (by omega)))]
  refine zisN Y B o425 (s3 rfl) <| zilN Y B o426 rfl <| zbp Y B o427 (v := 100) rfl <| zimul Y B o428 rfl <| zilN Y B o429 rfl <| zisub Y B o430 rfl ?_
  rw [show (((-(Int32.ofNat (X / 100))) * (100 : Int32)) - (-(Int32.ofNat X))) = (Int32.ofNat (X % 100)) from (by have q := g_rem (Y := X) (by omega); rw [show X / 100 = (X / 100) from by omega] at q; exact q)]
  refine zis Y B o431 (s4 rfl) <| zilN Y B o432 rfl <| zisN Y B o433 (s0 rfl) <| zalN Y B o434 rfl <| zinc Y B o435 rfl (v := 3) rfl (s5 rfl) <| zil Y B o436 rfl ?_
  refine zgs Y B hZ hown (ow51 hw) e0 (OS1.ext X00.2) o437 fun _ Y e30 => ?_
  refine zil Y B o438 rfl ?_
  refine zlb Y B hZ e30 (OD1.ext X00.2) (v := (.int (Int32.ofNat (48 + X % 100 % 10)))) ⟨on_pos (by omega), on_lt (b := 100) (by omega) (by decide)⟩ (ones_at (by omega)) o439 ?_
  obtain ⟨c32, A32, q32, S32, M32, G32, J32⟩ := id VA
  refine Go.b1 (stB Y B.1 hZ e30 A32 (j := (3 : Int32)) (inb_of S32 ⟨by decide, by decide⟩) rfl rfl (hb B.2 o440.1)) fun T32 h32 Y e32 W32 => ?_
  have N32 := Fr.snoc Y N0 g_a
  have K33 := K0.wr W32 (Or.inl (List.mem_of_getElem? (i := 0) rfl))
  have O33 := X00.wr W32 g_a
  have V32 : Arv Z h32 a ka .byte (4 : Int32) ([(.int 0), (.int 0), (.int 0), (.int (nar .byte (Int32.ofNat (48 + X % 100 % 10))))]) (.int 0) := Arv.set A32 q32 S32 M32 G32 J32 (fits_nar_byte _) W32 3 rfl (Nat.le_of_ble_eq_true rfl)
  rw [dig8 (a := X % 100 % 10) (b := X / 1 % 10) (by omega)] at V32
  refine zalN Y B o441 rfl <| zinc Y B o442 rfl (v := 2) rfl (s5 rfl) <| zil Y B o443 rfl ?_
  refine zgs Y B hZ hown (ow217 hw) e32 (OS2.ext O33.2) o444 fun _ Y e34 => ?_
  refine zil Y B o445 rfl ?_
  refine zlb Y B hZ e34 (OD2.ext O33.2) (v := (.int (Int32.ofNat (48 + X % 100 / 10)))) ⟨on_pos (by omega), on_lt (b := 100) (by omega) (by decide)⟩ (tens_at (by omega)) o446 ?_
  obtain ⟨c36, A36, q36, S36, M36, G36, J36⟩ := id V32
  refine Go.b1 (stB Y B.1 hZ e34 A36 (j := (2 : Int32)) (inb_of S36 ⟨by decide, by decide⟩) rfl rfl (hb B.2 o447.1)) fun T36 h36 Y e36 W36 => ?_
  have N36 := Fr.snoc Y N32 g_a
  have K37 := K33.wr W36 (Or.inl (List.mem_of_getElem? (i := 0) rfl))
  have O37 := O33.wr W36 g_a
  have V36 : Arv Z h36 a ka .byte (4 : Int32) ([(.int 0), (.int 0), (.int (nar .byte (Int32.ofNat (48 + X % 100 / 10)))), (.int (Int32.ofNat (48 + X / 1 % 10)).toInt8.toInt32)]) (.int 0) := Arv.set A36 q36 S36 M36 G36 J36 (fits_nar_byte _) W36 2 rfl (Nat.le_of_ble_eq_true rfl)
  rw [dig8 (a := X % 100 / 10) (b := X / 10 % 10) (by omega)] at V36
  refine zgo Y B j38 <| zilN Y B o397 rfl <| zbp Y B o398 (v := (-100)) rfl ?_
  refine zCY Y B j35 (tlt (show (-100 : Int32) < (-(Int32.ofNat (X / 100))) from ((neg_lt_on (a := 100) (by decide) (by omega)).mpr (by omega)))).2.2.1 ?_
  refine zalN Y B o399 rfl <| zinc Y B o400 rfl (v := 1) rfl (s5 rfl) <| zil Y B o401 rfl ?_
  refine zgs Y B hZ hown (ow51 hw) e36 (OS1.ext O37.2) o402 fun _ Y e38 => ?_
  refine zilN Y B o403 rfl <| zineg Y B o404 rfl ?_
  rw [show (-(-(Int32.ofNat (X / 100)))) = (Int32.ofNat (X / 100)) from (neg_neg_on _)]
  refine zlb Y B hZ e38 (OD1.ext O37.2) (v := (.int (Int32.ofNat (48 + (X / 100) % 10)))) ⟨on_pos (by omega), on_lt (b := 100) (by omega) (by decide)⟩ (ones_at (by omega)) o405 ?_
  obtain ⟨c40, A40, q40, S40, M40, G40, J40⟩ := id V36
  refine Go.b1 (stB Y B.1 hZ e38 A40 (j := (1 : Int32)) (inb_of S40 ⟨by decide, by decide⟩) rfl rfl (hb B.2 o406.1)) fun T40 h40 Y e40 W40 => ?_
  have N40 := Fr.snoc Y N36 g_a
  have K41 := K37.wr W40 (Or.inl (List.mem_of_getElem? (i := 0) rfl))
  have O41 := O37.wr W40 g_a
  have V40 : Arv Z h40 a ka .byte (4 : Int32) ([(.int 0), (.int (nar .byte (Int32.ofNat (48 + (X / 100) % 10)))), (.int (Int32.ofNat (48 + X / 10 % 10)).toInt8.toInt32), (.int (Int32.ofNat (48 + X / 1 % 10)).toInt8.toInt32)]) (.int 0) := Arv.set A40 q40 S40 M40 G40 J40 (fits_nar_byte _) W40 1 rfl (Nat.le_of_ble_eq_true rfl)
  rw [dig8 (a := (X / 100) % 10) (b := X / 100 % 10) (by omega)] at V40
  refine zilN Y B o407 rfl <| zbp Y B o408 (v := (-9)) rfl ?_
  refine zCN Y B o412 (tlt (show (-(Int32.ofNat (X / 100))) < (-9 : Int32) from ((neg_lt_on (b := 9) (by omega) (by decide)).mpr (by omega)))).2.1 ?_
  refine zalN Y B o413 rfl <| zinc Y B o414 rfl (v := 0) rfl (s5 rfl) <| zil Y B o415 rfl ?_
  refine zgs Y B hZ hown (ow217 hw) e40 (OS2.ext O41.2) o416 fun _ Y e42 => ?_
  refine zilN Y B o417 rfl <| zineg Y B o418 rfl ?_
  rw [show (-(-(Int32.ofNat (X / 100)))) = (Int32.ofNat (X / 100)) from (neg_neg_on _)]
  refine zlb Y B hZ e42 (OD2.ext O41.2) (v := (.int (Int32.ofNat (48 + (X / 100) / 10)))) ⟨on_pos (by omega), on_lt (b := 100) (by omega) (by decide)⟩ (tens_at (by omega)) o419 ?_
  obtain ⟨c44, A44, q44, S44, M44, G44, J44⟩ := id V40
  refine Go.b1 (stB Y B.1 hZ e42 A44 (j := (0 : Int32)) (inb_of S44 ⟨by decide, by decide⟩) rfl rfl (hb B.2 o420.1)) fun T44 h44 Y e44 W44 => ?_
  have N44 := Fr.snoc Y N40 g_a
  have K45 := K41.wr W44 (Or.inl (List.mem_of_getElem? (i := 0) rfl))
  have O45 := O41.wr W44 g_a
  have V44 : Arv Z h44 a ka .byte (4 : Int32) ([(.int (nar .byte (Int32.ofNat (48 + (X / 100) / 10)))), (.int (Int32.ofNat (48 + X / 100 % 10)).toInt8.toInt32), (.int (Int32.ofNat (48 + X / 10 % 10)).toInt8.toInt32), (.int (Int32.ofNat (48 + X / 1 % 10)).toInt8.toInt32)]) (.int 0) := Arv.set A44 q44 S44 M44 G44 J44 (fits_nar_byte _) W44 0 rfl (Nat.le_of_ble_eq_true rfl)
  rw [dig8 (a := (X / 100) / 10) (b := X / 1000 % 10) (by omega)] at V44
  refine zil Y B o409 rfl <| zY Y B j37 (by decide) ?_
  refine zil Y B o410 rfl ?_
  exact zrI Y B hret hlk o411 e44 ⟨rfl, N44, K45, V44⟩ rfl rfl
def Q_getch5 (Z : State) (X : Nat) (a : Addr) (ka : ClassId) (on : Addr) (ko : ClassId) (te : Addr) (ke : ClassId) (h0 : Heap) (n0 : Nat) : QT := fun rv hE LE => rv = some (.int 0) ∧ Fr n0 LE ∧ Keep h0 hE [a] ∧ (Arv Z hE a ka .byte (5 : Int32) (B8 (D 5 X)) (.int 0))
theorem rm_getch5 (l : Launch) (Z : State) (a0 : Array Value) (hw : HW a0 Z) (ws : List Jvm.Cond) (X : Nat) (a : Addr) (ka : ClassId) (on : Addr) (ko : ClassId) (te : Addr) (ke : ClassId) (h0 : Heap) (n0 : Nat) (Z0 : n0 ≤ h0.size) (HX : X < 2 ^ 31) (HW : WD X 5) (g_a : n0 ≤ a) (VA : Arv Z h0 a ka .byte (5 : Int32) ([(.int 0), (.int 0), (.int 0), (.int 0), (.int 0)]) (.int 0)) (OS1 : Sta Z Z.heap ss4 ss8 "[B" (.ref on)) (OD1 : Arv Z Z.heap on ko .byte (100 : Int32) ONES (.int 0)) (OS2 : Sta Z Z.heap ss4 ss9 "[B" (.ref te)) (OD2 : Arv Z Z.heap te ke .byte (100 : Int32) TENS (.int 0)) (X00 : Old Z n0 h0) :
    MF l Z mn32 (Jvm.Cond.code mn32 cB32 7 (Option.some Jvm.ClassFile.FieldType.int)) ws Ro0 #[(.int (Int32.ofNat X)), (.int 5), (.ref a)] h0 (Q_getch5 Z X a ka on ko te ke h0 n0) := by
  refine MF.of ss4 rfl #[iv (Int32.ofNat X), iv 5, rv a, un, un, un, un] (plainFor_of_name opn_7) (fun _ => rfl) ?_
  intro p e s m below meth c _ hZ hh B hml hret hlk hown hnm Y e0
  have N0 := Fr.nil n0
  have K0 := Keep.refl h0 [a]
  obtain ⟨-, -, hu0, hl0⟩ := HW
  have hu : X < 100000 := hu0
  have hl : 10000 ≤ X := hl0.resolve_left (by decide)
  refine zilN Y B o387 rfl <| zis Y B o388 (s5 rfl) <| zilN Y B o389 rfl ?_
  refine zY Y B j34 ((if0 _ _).trans (flt (show ¬ ((Int32.ofNat X) < (0 : Int32)) from (on_pos HX))).2.1) ?_
  refine zc0 Y B o390 <| zis Y B o391 (s6 rfl) <| zil Y B o392 rfl <| zN Y B o393 (by decide) ?_
  refine zilN Y B o394 rfl <| zineg Y B o395 rfl <| zisN Y B o396 (s0 rfl) <| zilN Y B o397 rfl <| zbp Y B o398 (v := (-100)) rfl ?_
  refine zCN Y B o421 (flt (show ¬ ((-100 : Int32) < (-(Int32.ofNat X))) from (fun q => absurd ((neg_lt_on (a := 100) (by decide) (by omega)).mp q) (by omega)))).2.2.1 ?_
  refine zilN Y B o422 rfl <| zbp Y B o423 (v := 100) rfl ?_
  refine Go.by (fun _ kq_ => XS.idiv Y.here B.1 rfl (hb B.2 o424.1) rfl (by decide) kq_) ?_
  show Go p e below _ _ (mkF m 32 #[iv (-(Int32.ofNat X)), iv 5, rv a, un, un, iv 5, iv 0] [(.int ((-(Int32.ofNat X)) / (100 : Int32)))])
  rw [show ((-(Int32.ofNat X)) / (100 : Int32)) = (-(Int32.ofNat (X / 100))) from ((g_div (by omega)).trans (congrArg (fun z => -(Int32.ofNat z)) (by omega)))]
  refine zisN Y B o425 (s3 rfl) <| zilN Y B o426 rfl <| zbp Y B o427 (v := 100) rfl <| zimul Y B o428 rfl <| zilN Y B o429 rfl <| zisub Y B o430 rfl ?_
  rw [show (((-(Int32.ofNat (X / 100))) * (100 : Int32)) - (-(Int32.ofNat X))) = (Int32.ofNat (X % 100)) from (by have q := g_rem (Y := X) (by omega); rw [show X / 100 = (X / 100) from by omega] at q; exact q)]
  refine zis Y B o431 (s4 rfl) <| zilN Y B o432 rfl <| zisN Y B o433 (s0 rfl) <| zalN Y B o434 rfl <| zinc Y B o435 rfl (v := 4) rfl (s5 rfl) <| zil Y B o436 rfl ?_
  refine zgs Y B hZ hown (ow51 hw) e0 (OS1.ext X00.2) o437 fun _ Y e30 => ?_
  refine zil Y B o438 rfl ?_
  refine zlb Y B hZ e30 (OD1.ext X00.2) (v := (.int (Int32.ofNat (48 + X % 100 % 10)))) ⟨on_pos (by omega), on_lt (b := 100) (by omega) (by decide)⟩ (ones_at (by omega)) o439 ?_
  obtain ⟨c32, A32, q32, S32, M32, G32, J32⟩ := id VA
  refine Go.b1 (stB Y B.1 hZ e30 A32 (j := (4 : Int32)) (inb_of S32 ⟨by decide, by decide⟩) rfl rfl (hb B.2 o440.1)) fun T32 h32 Y e32 W32 => ?_
  have N32 := Fr.snoc Y N0 g_a
  have K33 := K0.wr W32 (Or.inl (List.mem_of_getElem? (i := 0) rfl))
  have O33 := X00.wr W32 g_a
  have V32 : Arv Z h32 a ka .byte (5 : Int32) ([(.int 0), (.int 0), (.int 0), (.int 0), (.int (nar .byte (Int32.ofNat (48 + X % 100 % 10))))]) (.int 0) := Arv.set A32 q32 S32 M32 G32 J32 (fits_nar_byte _) W32 4 rfl (Nat.le_of_ble_eq_true rfl)
  rw [dig8 (a := X % 100 % 10) (b := X / 1 % 10) (by omega)] at V32
  refine zalN Y B o441 rfl <| zinc Y B o442 rfl (v := 3) rfl (s5 rfl) <| zil Y B o443 rfl ?_
  refine zgs Y B hZ hown (ow217 hw) e32 (OS2.ext O33.2) o444 fun _ Y e34 => ?_
  refine zil Y B o445 rfl ?_
  refine zlb Y B hZ e34 (OD2.ext O33.2) (v := (.int (Int32.ofNat (48 + X % 100 / 10)))) ⟨on_pos (by omega), on_lt (b := 100) (by omega) (by decide)⟩ (tens_at (by omega)) o446 ?_
  obtain ⟨c36, A36, q36, S36, M36, G36, J36⟩ := id V32
  refine Go.b1 (stB Y B.1 hZ e34 A36 (j := (3 : Int32)) (inb_of S36 ⟨by decide, by decide⟩) rfl rfl (hb B.2 o447.1)) fun T36 h36 Y e36 W36 => ?_
  have N36 := Fr.snoc Y N32 g_a
  have K37 := K33.wr W36 (Or.inl (List.mem_of_getElem? (i := 0) rfl))
  have O37 := O33.wr W36 g_a
  have V36 : Arv Z h36 a ka .byte (5 : Int32) ([(.int 0), (.int 0), (.int 0), (.int (nar .byte (Int32.ofNat (48 + X % 100 / 10)))), (.int (Int32.ofNat (48 + X / 1 % 10)).toInt8.toInt32)]) (.int 0) := Arv.set A36 q36 S36 M36 G36 J36 (fits_nar_byte _) W36 3 rfl (Nat.le_of_ble_eq_true rfl)
  rw [dig8 (a := X % 100 / 10) (b := X / 10 % 10) (by omega)] at V36
  refine zgo Y B j38 <| zilN Y B o397 rfl <| zbp Y B o398 (v := (-100)) rfl ?_
  refine zCN Y B o421 (flt (show ¬ ((-100 : Int32) < (-(Int32.ofNat (X / 100)))) from (fun q => absurd ((neg_lt_on (a := 100) (by decide) (by omega)).mp q) (by omega)))).2.2.1 ?_
  refine zilN Y B o422 rfl <| zbp Y B o423 (v := 100) rfl ?_
  refine Go.by (fun _ kq_ => XS.idiv Y.here B.1 rfl (hb B.2 o424.1) rfl (by decide) kq_) ?_
  show Go p e below _ _ (mkF m 32 #[iv (-(Int32.ofNat (X / 100))), iv 5, rv a, iv (-(Int32.ofNat (X / 100))), iv (Int32.ofNat (X % 100)), iv 3, iv 0] [(.int ((-(Int32.ofNat (X / 100))) / (100 : Int32)))])
  rw [show ((-(Int32.ofNat (X / 100))) / (100 : Int32)) = (-(Int32.ofNat (X / 10000))) from ((g_div (by omega)).trans (congrArg (fun z => -(Int32.ofNat z)) (by omega)))]
  refine zisN Y B o425 (s3 rfl) <| zilN Y B o426 rfl <| zbp Y B o427 (v := 100) rfl <| zimul Y B o428 rfl <| zilN Y B o429 rfl <| zisub Y B o430 rfl ?_
  rw [show (((-(Int32.ofNat (X / 10000))) * (100 : Int32)) - (-(Int32.ofNat (X / 100)))) = (Int32.ofNat ((X / 100) % 100)) from (by have q := g_rem (Y := (X / 100)) (by omega); rw [show (X / 100) / 100 = (X / 10000) from by omega] at q; exact q)]
  refine zis Y B o431 (s4 rfl) <| zilN Y B o432 rfl <| zisN Y B o433 (s0 rfl) <| zalN Y B o434 rfl <| zinc Y B o435 rfl (v := 2) rfl (s5 rfl) <| zil Y B o436 rfl ?_
  refine zgs Y B hZ hown (ow51 hw) e36 (OS1.ext O37.2) o437 fun _ Y e38 => ?_
  refine zil Y B o438 rfl ?_
  refine zlb Y B hZ e38 (OD1.ext O37.2) (v := (.int (Int32.ofNat (48 + (X / 100) % 100 % 10)))) ⟨on_pos (by omega), on_lt (b := 100) (by omega) (by decide)⟩ (ones_at (by omega)) o439 ?_
  obtain ⟨c40, A40, q40, S40, M40, G40, J40⟩ := id V36
  refine Go.b1 (stB Y B.1 hZ e38 A40 (j := (2 : Int32)) (inb_of S40 ⟨by decide, by decide⟩) rfl rfl (hb B.2 o440.1)) fun T40 h40 Y e40 W40 => ?_
  have N40 := Fr.snoc Y N36 g_a
  have K41 := K37.wr W40 (Or.inl (List.mem_of_getElem? (i := 0) rfl))
  have O41 := O37.wr W40 g_a
  have V40 : Arv Z h40 a ka .byte (5 : Int32) ([(.int 0), (.int 0), (.int (nar .byte (Int32.ofNat (48 + (X / 100) % 100 % 10)))), (.int (Int32.ofNat (48 + X / 10 % 10)).toInt8.toInt32), (.int (Int32.ofNat (48 + X / 1 % 10)).toInt8.toInt32)]) (.int 0) := Arv.set A40 q40 S40 M40 G40 J40 (fits_nar_byte _) W40 2 rfl (Nat.le_of_ble_eq_true rfl)
  rw [dig8 (a := (X / 100) % 100 % 10) (b := X / 100 % 10) (by omega)] at V40
  refine zalN Y B o441 rfl <| zinc Y B o442 rfl (v := 1) rfl (s5 rfl) <| zil Y B o443 rfl ?_
  refine zgs Y B hZ hown (ow217 hw) e40 (OS2.ext O41.2) o444 fun _ Y e42 => ?_
  refine zil Y B o445 rfl ?_
  refine zlb Y B hZ e42 (OD2.ext O41.2) (v := (.int (Int32.ofNat (48 + (X / 100) % 100 / 10)))) ⟨on_pos (by omega), on_lt (b := 100) (by omega) (by decide)⟩ (tens_at (by omega)) o446 ?_
  obtain ⟨c44, A44, q44, S44, M44, G44, J44⟩ := id V40
  refine Go.b1 (stB Y B.1 hZ e42 A44 (j := (1 : Int32)) (inb_of S44 ⟨by decide, by decide⟩) rfl rfl (hb B.2 o447.1)) fun T44 h44 Y e44 W44 => ?_
  have N44 := Fr.snoc Y N40 g_a
  have K45 := K41.wr W44 (Or.inl (List.mem_of_getElem? (i := 0) rfl))
  have O45 := O41.wr W44 g_a
  have V44 : Arv Z h44 a ka .byte (5 : Int32) ([(.int 0), (.int (nar .byte (Int32.ofNat (48 + (X / 100) % 100 / 10)))), (.int (Int32.ofNat (48 + X / 100 % 10)).toInt8.toInt32), (.int (Int32.ofNat (48 + X / 10 % 10)).toInt8.toInt32), (.int (Int32.ofNat (48 + X / 1 % 10)).toInt8.toInt32)]) (.int 0) := Arv.set A44 q44 S44 M44 G44 J44 (fits_nar_byte _) W44 1 rfl (Nat.le_of_ble_eq_true rfl)
  rw [dig8 (a := (X / 100) % 100 / 10) (b := X / 1000 % 10) (by omega)] at V44
  refine zgo Y B j38 <| zilN Y B o397 rfl <| zbp Y B o398 (v := (-100)) rfl ?_
  refine zCY Y B j35 (tlt (show (-100 : Int32) < (-(Int32.ofNat (X / 10000))) from ((neg_lt_on (a := 100) (by decide) (by omega)).mpr (by omega)))).2.2.1 ?_
  refine zalN Y B o399 rfl <| zinc Y B o400 rfl (v := 0) rfl (s5 rfl) <| zil Y B o401 rfl ?_
  refine zgs Y B hZ hown (ow51 hw) e44 (OS1.ext O45.2) o402 fun _ Y e46 => ?_
  refine zilN Y B o403 rfl <| zineg Y B o404 rfl ?_
  rw [show (-(-(Int32.ofNat (X / 10000)))) = (Int32.ofNat (X / 10000)) from (neg_neg_on _)]
  refine zlb Y B hZ e46 (OD1.ext O45.2) (v := (.int (Int32.ofNat (48 + (X / 10000) % 10)))) ⟨on_pos (by omega), on_lt (b := 100) (by omega) (by decide)⟩ (ones_at (by omega)) o405 ?_
  obtain ⟨c48, A48, q48, S48, M48, G48, J48⟩ := id V44
  refine Go.b1 (stB Y B.1 hZ e46 A48 (j := (0 : Int32)) (inb_of S48 ⟨by decide, by decide⟩) rfl rfl (hb B.2 o406.1)) fun T48 h48 Y e48 W48 => ?_
  have N48 := Fr.snoc Y N44 g_a
  have K49 := K45.wr W48 (Or.inl (List.mem_of_getElem? (i := 0) rfl))
  have O49 := O45.wr W48 g_a
  have V48 : Arv Z h48 a ka .byte (5 : Int32) ([(.int (nar .byte (Int32.ofNat (48 + (X / 10000) % 10)))), (.int (Int32.ofNat (48 + X / 1000 % 10)).toInt8.toInt32), (.int (Int32.ofNat (48 + X / 100 % 10)).toInt8.toInt32), (.int (Int32.ofNat (48 + X / 10 % 10)).toInt8.toInt32), (.int (Int32.ofNat (48 + X / 1 % 10)).toInt8.toInt32)]) (.int 0) := Arv.set A48 q48 S48 M48 G48 J48 (fits_nar_byte _) W48 0 rfl (Nat.le_of_ble_eq_true rfl)
  rw [dig8 (a := (X / 10000) % 10) (b := X / 10000 % 10) (by omega)] at V48
  refine zilN Y B o407 rfl <| zbp Y B o408 (v := (-9)) rfl ?_
  refine zCY Y B j36 (flt (show ¬ ((-(Int32.ofNat (X / 10000))) < (-9 : Int32)) from (fun q => absurd ((neg_lt_on (b := 9) (by omega) (by decide)).mp q) (by omega)))).2.1 ?_
  refine zil Y B o409 rfl <| zY Y B j37 (by decide) ?_
  refine zil Y B o410 rfl ?_
  exact zrI Y B hret hlk o411 e48 ⟨rfl, N48, K49, V48⟩ rfl rfl
def Q_getch6 (Z : State) (X : Nat) (a : Addr) (ka : ClassId) (on : Addr) (ko : ClassId) (te : Addr) (ke : ClassId) (h0 : Heap) (n0 : Nat) : QT := fun rv hE LE => rv = some (.int 0) ∧ Fr n0 LE ∧ Keep h0 hE [a] ∧ (Arv Z hE a ka .byte (6 : Int32) (B8 (D 6 X)) (.int 0))
theorem rm_getch6 (l : Launch) (Z : State) (a0 : Array Value) (hw : HW a0 Z) (ws : List Jvm.Cond) (X : Nat) (a : Addr) (ka : ClassId) (on : Addr) (ko : ClassId) (te : Addr) (ke : ClassId) (h0 : Heap) (n0 : Nat) (Z0 : n0 ≤ h0.size) (HX : X < 2 ^ 31) (HW : WD X 6) (g_a : n0 ≤ a) (VA : Arv Z h0 a ka .byte (6 : Int32) ([(.int 0), (.int 0), (.int 0), (.int 0), (.int 0), (.int 0)]) (.int 0)) (OS1 : Sta Z Z.heap ss4 ss8 "[B" (.ref on)) (OD1 : Arv Z Z.heap on ko .byte (100 : Int32) ONES (.int 0)) (OS2 : Sta Z Z.heap ss4 ss9 "[B" (.ref te)) (OD2 : Arv Z Z.heap te ke .byte (100 : Int32) TENS (.int 0)) (X00 : Old Z n0 h0) :
    MF l Z mn32 (Jvm.Cond.code mn32 cB32 7 (Option.some Jvm.ClassFile.FieldType.int)) ws Ro0 #[(.int (Int32.ofNat X)), (.int 6), (.ref a)] h0 (Q_getch6 Z X a ka on ko te ke h0 n0) := by
  refine MF.of ss4 rfl #[iv (Int32.ofNat X), iv 6, rv a, un, un, un, un] (plainFor_of_name opn_7) (fun _ => rfl) ?_
  intro p e s m below meth c _ hZ hh B hml hret hlk hown hnm Y e0
  have N0 := Fr.nil n0
  have K0 := Keep.refl h0 [a]
  obtain ⟨-, -, hu0, hl0⟩ := HW
  have hu : X < 1000000 := hu0
  have hl : 100000 ≤ X := hl0.resolve_left (by decide)
  refine zilN Y B o387 rfl <| zis Y B o388 (s5 rfl) <| zilN Y B o389 rfl ?_
  refine zY Y B j34 ((if0 _ _).trans (flt (show ¬ ((Int32.ofNat X) < (0 : Int32)) from (on_pos HX))).2.1) ?_
  refine zc0 Y B o390 <| zis Y B o391 (s6 rfl) <| zil Y B o392 rfl <| zN Y B o393 (by decide) ?_
  refine zilN Y B o394 rfl <| zineg Y B o395 rfl <| zisN Y B o396 (s0 rfl) <| zilN Y B o397 rfl <| zbp Y B o398 (v := (-100)) rfl ?_
  refine zCN Y B o421 (flt (show ¬ ((-100 : Int32) < (-(Int32.ofNat X))) from (fun q => absurd ((neg_lt_on (a := 100) (by decide) (by omega)).mp q) (by omega)))).2.2.1 ?_
  refine zilN Y B o422 rfl <| zbp Y B o423 (v := 100) rfl ?_
  refine Go.by (fun _ kq_ => XS.idiv Y.here B.1 rfl (hb B.2 o424.1) rfl (by decide) kq_) ?_
  show Go p e below _ _ (mkF m 32 #[iv (-(Int32.ofNat X)), iv 6, rv a, un, un, iv 6, iv 0] [(.int ((-(Int32.ofNat X)) / (100 : Int32)))])
  rw [show ((-(Int32.ofNat X)) / (100 : Int32)) = (-(Int32.ofNat (X / 100))) from ((g_div (by omega)).trans (congrArg (fun z => -(Int32.ofNat z)) (by omega)))]
  refine zisN Y B o425 (s3 rfl) <| zilN Y B o426 rfl <| zbp Y B o427 (v := 100) rfl <| zimul Y B o428 rfl <| zilN Y B o429 rfl <| zisub Y B o430 rfl ?_
  rw [show (((-(Int32.ofNat (X / 100))) * (100 : Int32)) - (-(Int32.ofNat X))) = (Int32.ofNat (X % 100)) from (by have q := g_rem (Y := X) (by omega); rw [show X / 100 = (X / 100) from by omega] at q; exact q)]
  refine zis Y B o431 (s4 rfl) <| zilN Y B o432 rfl <| zisN Y B o433 (s0 rfl) <| zalN Y B o434 rfl <| zinc Y B o435 rfl (v := 5) rfl (s5 rfl) <| zil Y B o436 rfl ?_
  refine zgs Y B hZ hown (ow51 hw) e0 (OS1.ext X00.2) o437 fun _ Y e30 => ?_
  refine zil Y B o438 rfl ?_
  refine zlb Y B hZ e30 (OD1.ext X00.2) (v := (.int (Int32.ofNat (48 + X % 100 % 10)))) ⟨on_pos (by omega), on_lt (b := 100) (by omega) (by decide)⟩ (ones_at (by omega)) o439 ?_
  obtain ⟨c32, A32, q32, S32, M32, G32, J32⟩ := id VA
  refine Go.b1 (stB Y B.1 hZ e30 A32 (j := (5 : Int32)) (inb_of S32 ⟨by decide, by decide⟩) rfl rfl (hb B.2 o440.1)) fun T32 h32 Y e32 W32 => ?_
  have N32 := Fr.snoc Y N0 g_a
  have K33 := K0.wr W32 (Or.inl (List.mem_of_getElem? (i := 0) rfl))
  have O33 := X00.wr W32 g_a
  have V32 : Arv Z h32 a ka .byte (6 : Int32) ([(.int 0), (.int 0), (.int 0), (.int 0), (.int 0), (.int (nar .byte (Int32.ofNat (48 + X % 100 % 10))))]) (.int 0) := Arv.set A32 q32 S32 M32 G32 J32 (fits_nar_byte _) W32 5 rfl (Nat.le_of_ble_eq_true rfl)
  rw [dig8 (a := X % 100 % 10) (b := X / 1 % 10) (by omega)] at V32
  refine zalN Y B o441 rfl <| zinc Y B o442 rfl (v := 4) rfl (s5 rfl) <| zil Y B o443 rfl ?_
  refine zgs Y B hZ hown (ow217 hw) e32 (OS2.ext O33.2) o444 fun _ Y e34 => ?_
  refine zil Y B o445 rfl ?_
  refine zlb Y B hZ e34 (OD2.ext O33.2) (v := (.int (Int32.ofNat (48 + X % 100 / 10)))) ⟨on_pos (by omega), on_lt (b := 100) (by omega) (by decide)⟩ (tens_at (by omega)) o446 ?_
  obtain ⟨c36, A36, q36, S36, M36, G36, J36⟩ := id V32
  refine Go.b1 (stB Y B.1 hZ e34 A36 (j := (4 : Int32)) (inb_of S36 ⟨by decide, by decide⟩) rfl rfl (hb B.2 o447.1)) fun T36 h36 Y e36 W36 => ?_
  have N36 := Fr.snoc Y N32 g_a
  have K37 := K33.wr W36 (Or.inl (List.mem_of_getElem? (i := 0) rfl))
  have O37 := O33.wr W36 g_a
  have V36 : Arv Z h36 a ka .byte (6 : Int32) ([(.int 0), (.int 0), (.int 0), (.int 0), (.int (nar .byte (Int32.ofNat (48 + X % 100 / 10)))), (.int (Int32.ofNat (48 + X / 1 % 10)).toInt8.toInt32)]) (.int 0) := Arv.set A36 q36 S36 M36 G36 J36 (fits_nar_byte _) W36 4 rfl (Nat.le_of_ble_eq_true rfl)
  rw [dig8 (a := X % 100 / 10) (b := X / 10 % 10) (by omega)] at V36
  refine zgo Y B j38 <| zilN Y B o397 rfl <| zbp Y B o398 (v := (-100)) rfl ?_
  refine zCN Y B o421 (flt (show ¬ ((-100 : Int32) < (-(Int32.ofNat (X / 100)))) from (fun q => absurd ((neg_lt_on (a := 100) (by decide) (by omega)).mp q) (by omega)))).2.2.1 ?_
  refine zilN Y B o422 rfl <| zbp Y B o423 (v := 100) rfl ?_
  refine Go.by (fun _ kq_ => XS.idiv Y.here B.1 rfl (hb B.2 o424.1) rfl (by decide) kq_) ?_
  show Go p e below _ _ (mkF m 32 #[iv (-(Int32.ofNat (X / 100))), iv 6, rv a, iv (-(Int32.ofNat (X / 100))), iv (Int32.ofNat (X % 100)), iv 4, iv 0] [(.int ((-(Int32.ofNat (X / 100))) / (100 : Int32)))])
  rw [show ((-(Int32.ofNat (X / 100))) / (100 : Int32)) = (-(Int32.ofNat (X / 10000))) from ((g_div (by omega)).trans (congrArg (fun z => -(Int32.ofNat z)) (by omega)))]
  refine zisN Y B o425 (s3 rfl) <| zilN Y B o426 rfl <| zbp Y B o427 (v := 100) rfl <| zimul Y B o428 rfl <| zilN Y B o429 rfl <| zisub Y B o430 rfl ?_
  rw [show (((-(Int32.ofNat (X / 10000))) * (100 : Int32)) - (-(Int32.ofNat (X / 100)))) = (Int32.ofNat ((X / 100) % 100)) from (by have q := g_rem (Y := (X / 100)) (by omega); rw [show (X / 100) / 100 = (X / 10000) from by omega] at q; exact q)]
  refine zis Y B o431 (s4 rfl) <| zilN Y B o432 rfl <| zisN Y B o433 (s0 rfl) <| zalN Y B o434 rfl <| zinc Y B o435 rfl (v := 3) rfl (s5 rfl) <| zil Y B o436 rfl ?_
  refine zgs Y B hZ hown (ow51 hw) e36 (OS1.ext O37.2) o437 fun _ Y e38 => ?_
  refine zil Y B o438 rfl ?_
  refine zlb Y B hZ e38 (OD1.ext O37.2) (v := (.int (Int32.ofNat (48 + (X / 100) % 100 % 10)))) ⟨on_pos (by omega), on_lt (b := 100) (by omega) (by decide)⟩ (ones_at (by omega)) o439 ?_
  obtain ⟨c40, A40, q40, S40, M40, G40, J40⟩ := id V36
  refine Go.b1 (stB Y B.1 hZ e38 A40 (j := (3 : Int32)) (inb_of S40 ⟨by decide, by decide⟩) rfl rfl (hb B.2 o440.1)) fun T40 h40 Y e40 W40 => ?_
  have N40 := Fr.snoc Y N36 g_a
  have K41 := K37.wr W40 (Or.inl (List.mem_of_getElem? (i := 0) rfl))
  have O41 := O37.wr W40 g_a
  have V40 : Arv Z h40 a ka .byte (6 : Int32) ([(.int 0), (.int 0), (.int 0), (.int (nar .byte (Int32.ofNat (48 + (X / 100) % 100 % 10)))), (.int (Int32.ofNat (48 + X / 10 % 10)).toInt8.toInt32), (.int (Int32.ofNat (48 + X / 1 % 10)).toInt8.toInt32)]) (.int 0) := Arv.set A40 q40 S40 M40 G40 J40 (fits_nar_byte _) W40 3 rfl (Nat.le_of_ble_eq_true rfl)
  rw [dig8 (a := (X / 100) % 100 % 10) (b := X / 100 % 10) (by omega)] at V40
  refine zalN Y B o441 rfl <| zinc Y B o442 rfl (v := 2) rfl (s5 rfl) <| zil Y B o443 rfl ?_
  refine zgs Y B hZ hown (ow217 hw) e40 (OS2.ext O41.2) o444 fun _ Y e42 => ?_
  refine zil Y B o445 rfl ?_
  refine zlb Y B hZ e42 (OD2.ext O41.2) (v := (.int (Int32.ofNat (48 + (X / 100) % 100 / 10)))) ⟨on_pos (by omega), on_lt (b := 100) (by omega) (by decide)⟩ (tens_at (by omega)) o446 ?_
  obtain ⟨c44, A44, q44, S44, M44, G44, J44⟩ := id V40
  refine Go.b1 (stB Y B.1 hZ e42 A44 (j := (2 : Int32)) (inb_of S44 ⟨by decide, by decide⟩) rfl rfl (hb B.2 o447.1)) fun T44 h44 Y e44 W44 => ?_
  have N44 := Fr.snoc Y N40 g_a
  have K45 := K41.wr W44 (Or.inl (List.mem_of_getElem? (i := 0) rfl))
  have O45 := O41.wr W44 g_a
  have V44 : Arv Z h44 a ka .byte (6 : Int32) ([(.int 0), (.int 0), (.int (nar .byte (Int32.ofNat (48 + (X / 100) % 100 / 10)))), (.int (Int32.ofNat (48 + X / 100 % 10)).toInt8.toInt32), (.int (Int32.ofNat (48 + X / 10 % 10)).toInt8.toInt32), (.int (Int32.ofNat (48 + X / 1 % 10)).toInt8.toInt32)]) (.int 0) := Arv.set A44 q44 S44 M44 G44 J44 (fits_nar_byte _) W44 2 rfl (Nat.le_of_ble_eq_true rfl)
  rw [dig8 (a := (X / 100) % 100 / 10) (b := X / 1000 % 10) (by omega)] at V44
  refine zgo Y B j38 <| zilN Y B o397 rfl <| zbp Y B o398 (v := (-100)) rfl ?_
  refine zCY Y B j35 (tlt (show (-100 : Int32) < (-(Int32.ofNat (X / 10000))) from ((neg_lt_on (a := 100) (by decide) (by omega)).mpr (by omega)))).2.2.1 ?_
  refine zalN Y B o399 rfl <| zinc Y B o400 rfl (v := 1) rfl (s5 rfl) <| zil Y B o401 rfl ?_
  refine zgs Y B hZ hown (ow51 hw) e44 (OS1.ext O45.2) o402 fun _ Y e46 => ?_
  refine zilN Y B o403 rfl <| zineg Y B o404 rfl ?_
  rw [show (-(-(Int32.ofNat (X / 10000)))) = (Int32.ofNat (X / 10000)) from (neg_neg_on _)]
  refine zlb Y B hZ e46 (OD1.ext O45.2) (v := (.int (Int32.ofNat (48 + (X / 10000) % 10)))) ⟨on_pos (by omega), on_lt (b := 100) (by omega) (by decide)⟩ (ones_at (by omega)) o405 ?_
  obtain ⟨c48, A48, q48, S48, M48, G48, J48⟩ := id V44
  refine Go.b1 (stB Y B.1 hZ e46 A48 (j := (1 : Int32)) (inb_of S48 ⟨by decide, by decide⟩) rfl rfl (hb B.2 o406.1)) fun T48 h48 Y e48 W48 => ?_
  have N48 := Fr.snoc Y N44 g_a
  have K49 := K45.wr W48 (Or.inl (List.mem_of_getElem? (i := 0) rfl))
  have O49 := O45.wr W48 g_a
  have V48 : Arv Z h48 a ka .byte (6 : Int32) ([(.int 0), (.int (nar .byte (Int32.ofNat (48 + (X / 10000) % 10)))), (.int (Int32.ofNat (48 + X / 1000 % 10)).toInt8.toInt32), (.int (Int32.ofNat (48 + X / 100 % 10)).toInt8.toInt32), (.int (Int32.ofNat (48 + X / 10 % 10)).toInt8.toInt32), (.int (Int32.ofNat (48 + X / 1 % 10)).toInt8.toInt32)]) (.int 0) := Arv.set A48 q48 S48 M48 G48 J48 (fits_nar_byte _) W48 1 rfl (Nat.le_of_ble_eq_true rfl)
  rw [dig8 (a := (X / 10000) % 10) (b := X / 10000 % 10) (by omega)] at V48
  refine zilN Y B o407 rfl <| zbp Y B o408 (v := (-9)) rfl ?_
  refine zCN Y B o412 (tlt (show (-(Int32.ofNat (X / 10000))) < (-9 : Int32) from ((neg_lt_on (b := 9) (by omega) (by decide)).mpr (by omega)))).2.1 ?_
  refine zalN Y B o413 rfl <| zinc Y B o414 rfl (v := 0) rfl (s5 rfl) <| zil Y B o415 rfl ?_
  refine zgs Y B hZ hown (ow217 hw) e48 (OS2.ext O49.2) o416 fun _ Y e50 => ?_
  refine zilN Y B o417 rfl <| zineg Y B o418 rfl ?_
  rw [show (-(-(Int32.ofNat (X / 10000)))) = (Int32.ofNat (X / 10000)) from (neg_neg_on _)]
  refine zlb Y B hZ e50 (OD2.ext O49.2) (v := (.int (Int32.ofNat (48 + (X / 10000) / 10)))) ⟨on_pos (by omega), on_lt (b := 100) (by omega) (by decide)⟩ (tens_at (by omega)) o419 ?_
  obtain ⟨c52, A52, q52, S52, M52, G52, J52⟩ := id V48
  refine Go.b1 (stB Y B.1 hZ e50 A52 (j := (0 : Int32)) (inb_of S52 ⟨by decide, by decide⟩) rfl rfl (hb B.2 o420.1)) fun T52 h52 Y e52 W52 => ?_
  have N52 := Fr.snoc Y N48 g_a
  have K53 := K49.wr W52 (Or.inl (List.mem_of_getElem? (i := 0) rfl))
  have O53 := O49.wr W52 g_a
  have V52 : Arv Z h52 a ka .byte (6 : Int32) ([(.int (nar .byte (Int32.ofNat (48 + (X / 10000) / 10)))), (.int (Int32.ofNat (48 + X / 10000 % 10)).toInt8.toInt32), (.int (Int32.ofNat (48 + X / 1000 % 10)).toInt8.toInt32), (.int (Int32.ofNat (48 + X / 100 % 10)).toInt8.toInt32), (.int (Int32.ofNat (48 + X / 10 % 10)).toInt8.toInt32), (.int (Int32.ofNat (48 + X / 1 % 10)).toInt8.toInt32)]) (.int 0) := Arv.set A52 q52 S52 M52 G52 J52 (fits_nar_byte _) W52 0 rfl (Nat.le_of_ble_eq_true rfl)
  rw [dig8 (a := (X / 10000) / 10) (b := X / 100000 % 10) (by omega)] at V52
  refine zil Y B o409 rfl <| zY Y B j37 (by decide) ?_
  refine zil Y B o410 rfl ?_
  exact zrI Y B hret hlk o411 e52 ⟨rfl, N52, K53, V52⟩ rfl rfl
def Q_getch7 (Z : State) (X : Nat) (a : Addr) (ka : ClassId) (on : Addr) (ko : ClassId) (te : Addr) (ke : ClassId) (h0 : Heap) (n0 : Nat) : QT := fun rv hE LE => rv = some (.int 0) ∧ Fr n0 LE ∧ Keep h0 hE [a] ∧ (Arv Z hE a ka .byte (7 : Int32) (B8 (D 7 X)) (.int 0))
theorem rm_getch7 (l : Launch) (Z : State) (a0 : Array Value) (hw : HW a0 Z) (ws : List Jvm.Cond) (X : Nat) (a : Addr) (ka : ClassId) (on : Addr) (ko : ClassId) (te : Addr) (ke : ClassId) (h0 : Heap) (n0 : Nat) (Z0 : n0 ≤ h0.size) (HX : X < 2 ^ 31) (HW : WD X 7) (g_a : n0 ≤ a) (VA : Arv Z h0 a ka .byte (7 : Int32) ([(.int 0), (.int 0), (.int 0), (.int 0), (.int 0), (.int 0), (.int 0)]) (.int 0)) (OS1 : Sta Z Z.heap ss4 ss8 "[B" (.ref on)) (OD1 : Arv Z Z.heap on ko .byte (100 : Int32) ONES (.int 0)) (OS2 : Sta Z Z.heap ss4 ss9 "[B" (.ref te)) (OD2 : Arv Z Z.heap te ke .byte (100 : Int32) TENS (.int 0)) (X00 : Old Z n0 h0) :
    MF l Z mn32 (Jvm.Cond.code mn32 cB32 7 (Option.some Jvm.ClassFile.FieldType.int)) ws Ro0 #[(.int (Int32.ofNat X)), (.int 7), (.ref a)] h0 (Q_getch7 Z X a ka on ko te ke h0 n0) := by
  refine MF.of ss4 rfl #[iv (Int32.ofNat X), iv 7, rv a, un, un, un, un] (plainFor_of_name opn_7) (fun _ => rfl) ?_
  intro p e s m below meth c _ hZ hh B hml hret hlk hown hnm Y e0
  have N0 := Fr.nil n0
  have K0 := Keep.refl h0 [a]
  obtain ⟨-, -, hu0, hl0⟩ := HW
  have hu : X < 10000000 := hu0
  have hl : 1000000 ≤ X := hl0.resolve_left (by decide)
  refine zilN Y B o387 rfl <| zis Y B o388 (s5 rfl) <| zilN Y B o389 rfl ?_
  refine zY Y B j34 ((if0 _ _).trans (flt (show ¬ ((Int32.ofNat X) < (0 : Int32)) from (on_pos HX))).2.1) ?_
  refine zc0 Y B o390 <| zis Y B o391 (s6 rfl) <| zil Y B o392 rfl <| zN Y B o393 (by decide) ?_
  refine zilN Y B o394 rfl <| zineg Y B o395 rfl <| zisN Y B o396 (s0 rfl) <| zilN Y B o397 rfl <| zbp Y B o398 (v := (-100)) rfl ?_
  refine zCN Y B o421 (flt (show ¬ ((-100 : Int32) < (-(Int32.ofNat X))) from (fun q => absurd ((neg_lt_on (a := 100) (by decide) (by omega)).mp q) (by omega)))).2.2.1 ?_
  refine zilN Y B o422 rfl <| zbp Y B o423 (v := 100) rfl ?_
  refine Go.by (fun _ kq_ => XS.idiv Y.here B.1 rfl (hb B.2 o424.1) rfl (by decide) kq_) ?_
  show Go p e below _ _ (mkF m 32 #[iv (-(Int32.ofNat X)), iv 7, rv a, un, un, iv 7, iv 0] [(.int ((-(Int32.ofNat X)) / (100 : Int32)))])
  rw [show ((-(Int32.ofNat X)) / (100 : Int32)) = (-(Int32.ofNat (X / 100))) from ((g_div (by omega)).trans (congrArg (fun z => -(Int32.ofNat z)) (by omega)))]
  refine zisN Y B o425 (s3 rfl) <| zilN Y B o426 rfl <| zbp Y B o427 (v := 100) rfl <| zimul Y B o428 rfl <| zilN Y B o429 rfl <| zisub Y B o430 rfl ?_
  rw [show (((-(Int32.ofNat (X / 100))) * (100 : Int32)) - (-(Int32.ofNat X))) = (Int32.ofNat (X % 100)) from (by have q := g_rem (Y := X) (by omega); rw [show X / 100 = (X / 100) from by omega] at q; exact q)]
  refine zis Y B o431 (s4 rfl) <| zilN Y B o432 rfl <| zisN Y B o433 (s0 rfl) <| zalN Y B o434 rfl <| zinc Y B o435 rfl (v := 6) rfl (s5 rfl) <| zil Y B o436 rfl ?_
  refine zgs Y B hZ hown (ow51 hw) e0 (OS1.ext X00.2) o437 fun _ Y e30 => ?_
  refine zil Y B o438 rfl ?_
  refine zlb Y B hZ e30 (OD1.ext X00.2) (v := (.int (Int32.ofNat (48 + X % 100 % 10)))) ⟨on_pos (by omega), on_lt (b := 100) (by omega) (by decide)⟩ (ones_at (by omega)) o439 ?_
  obtain ⟨c32, A32, q32, S32, M32, G32, J32⟩ := id VA
  refine Go.b1 (stB Y B.1 hZ e30 A32 (j := (6 : Int32)) (inb_of S32 ⟨by decide, by decide⟩) rfl rfl (hb B.2 o440.1)) fun T32 h32 Y e32 W32 => ?_
  have N32 := Fr.snoc Y N0 g_a
  have K33 := K0.wr W32 (Or.inl (List.mem_of_getElem? (i := 0) rfl))
  have O33 := X00.wr W32 g_a
  have V32 : Arv Z h32 a ka .byte (7 : Int32) ([(.int 0), (.int 0), (.int 0), (.int 0), (.int 0), (.int 0), (.int (nar .byte (Int32.ofNat (48 + X % 100 % 10))))]) (.int 0) := Arv.set A32 q32 S32 M32 G32 J32 (fits_nar_byte _) W32 6 rfl (Nat.le_of_ble_eq_true rfl)
  rw [dig8 (a := X % 100 % 10) (b := X / 1 % 10) (by omega)] at V32
  refine zalN Y B o441 rfl <| zinc Y B o442 rfl (v := 5) rfl (s5 rfl) <| zil Y B o443 rfl ?_
  refine zgs Y B hZ hown (ow217 hw) e32 (OS2.ext O33.2) o444 fun _ Y e34 => ?_
  refine zil Y B o445 rfl ?_
  refine zlb Y B hZ e34 (OD2.ext O33.2) (v := (.int (Int32.ofNat (48 + X % 100 / 10)))) ⟨on_pos (by omega), on_lt (b := 100) (by omega) (by decide)⟩ (tens_at (by omega)) o446 ?_
  obtain ⟨c36, A36, q36, S36, M36, G36, J36⟩ := id V32
  refine Go.b1 (stB Y B.1 hZ e34 A36 (j := (5 : Int32)) (inb_of S36 ⟨by decide, by decide⟩) rfl rfl (hb B.2 o447.1)) fun T36 h36 Y e36 W36 => ?_
  have N36 := Fr.snoc Y N32 g_a
  have K37 := K33.wr W36 (Or.inl (List.mem_of_getElem? (i := 0) rfl))
  have O37 := O33.wr W36 g_a
  have V36 : Arv Z h36 a ka .byte (7 : Int32) ([(.int 0), (.int 0), (.int 0), (.int 0), (.int 0), (.int (nar .byte (Int32.ofNat (48 + X % 100 / 10)))), (.int (Int32.ofNat (48 + X / 1 % 10)).toInt8.toInt32)]) (.int 0) := Arv.set A36 q36 S36 M36 G36 J36 (fits_nar_byte _) W36 5 rfl (Nat.le_of_ble_eq_true rfl)
  rw [dig8 (a := X % 100 / 10) (b := X / 10 % 10) (by omega)] at V36
  refine zgo Y B j38 <| zilN Y B o397 rfl <| zbp Y B o398 (v := (-100)) rfl ?_
  refine zCN Y B o421 (flt (show ¬ ((-100 : Int32) < (-(Int32.ofNat (X / 100)))) from (fun q => absurd ((neg_lt_on (a := 100) (by decide) (by omega)).mp q) (by omega)))).2.2.1 ?_
  refine zilN Y B o422 rfl <| zbp Y B o423 (v := 100) rfl ?_
  refine Go.by (fun _ kq_ => XS.idiv Y.here B.1 rfl (hb B.2 o424.1) rfl (by decide) kq_) ?_
  show Go p e below _ _ (mkF m 32 #[iv (-(Int32.ofNat (X / 100))), iv 7, rv a, iv (-(Int32.ofNat (X / 100))), iv (Int32.ofNat (X % 100)), iv 5, iv 0] [(.int ((-(Int32.ofNat (X / 100))) / (100 : Int32)))])
  rw [show ((-(Int32.ofNat (X / 100))) / (100 : Int32)) = (-(Int32.ofNat (X / 10000))) from ((g_div (by omega)).trans (congrArg (fun z => -(Int32.ofNat z)) (by omega)))]
  refine zisN Y B o425 (s3 rfl) <| zilN Y B o426 rfl <| zbp Y B o427 (v := 100) rfl <| zimul Y B o428 rfl <| zilN Y B o429 rfl <| zisub Y B o430 rfl ?_
  rw [show (((-(Int32.ofNat (X / 10000))) * (100 : Int32)) - (-(Int32.ofNat (X / 100)))) = (Int32.ofNat ((X / 100) % 100)) from (by have q := g_rem (Y := (X / 100)) (by omega); rw [show (X / 100) / 100 = (X / 10000) from by omega] at q; exact q)]
  refine zis Y B o431 (s4 rfl) <| zilN Y B o432 rfl <| zisN Y B o433 (s0 rfl) <| zalN Y B o434 rfl <| zinc Y B o435 rfl (v := 4) rfl (s5 rfl) <| zil Y B o436 rfl ?_
  refine zgs Y B hZ hown (ow51 hw) e36 (OS1.ext O37.2) o437 fun _ Y e38 => ?_
  refine zil Y B o438 rfl ?_
  refine zlb Y B hZ e38 (OD1.ext O37.2) (v := (.int (Int32.ofNat (48 + (X / 100) % 100 % 10)))) ⟨on_pos (by omega), on_lt (b := 100) (by omega) (by decide)⟩ (ones_at (by omega)) o439 ?_
  obtain ⟨c40, A40, q40, S40, M40, G40, J40⟩ := id V36
  refine Go.b1 (stB Y B.1 hZ e38 A40 (j := (4 : Int32)) (inb_of S40 ⟨by decide, by decide⟩) rfl rfl (hb B.2 o440.1)) fun T40 h40 Y e40 W40 => ?_
  have N40 := Fr.snoc Y N36 g_a
  have K41 := K37.wr W40 (Or.inl (List.mem_of_getElem? (i := 0) rfl))
  have O41 := O37.wr W40 g_a
  have V40 : Arv Z h40 a ka .byte (7 : Int32) ([(.int 0), (.int 0), (.int 0), (.int 0), (.int (nar .byte (Int32.ofNat (48 + (X / 100) % 100 % 10)))), (.int (Int32.ofNat (48 + X / 10 % 10)).toInt8.toInt32), (.int (Int32.ofNat (48 + X / 1 % 10)).toInt8.toInt32)]) (.int 0) := Arv.set A40 q40 S40 M40 G40 J40 (fits_nar_byte _) W40 4 rfl (Nat.le_of_ble_eq_true rfl)
  rw [dig8 (a := (X / 100) % 100 % 10) (b := X / 100 % 10) (by omega)] at V40
  refine zalN Y B o441 rfl <| zinc Y B o442 rfl (v := 3) rfl (s5 rfl) <| zil Y B o443 rfl ?_
  refine zgs Y B hZ hown (ow217 hw) e40 (OS2.ext O41.2) o444 fun _ Y e42 => ?_
  refine zil Y B o445 rfl ?_
  refine zlb Y B hZ e42 (OD2.ext O41.2) (v := (.int (Int32.ofNat (48 + (X / 100) % 100 / 10)))) ⟨on_pos (by omega), on_lt (b := 100) (by omega) (by decide)⟩ (tens_at (by omega)) o446 ?_
  obtain ⟨c44, A44, q44, S44, M44, G44, J44⟩ := id V40
  refine Go.b1 (stB Y B.1 hZ e42 A44 (j := (3 : Int32)) (inb_of S44 ⟨by decide, by decide⟩) rfl rfl (hb B.2 o447.1)) fun T44 h44 Y e44 W44 => ?_
  have N44 := Fr.snoc Y N40 g_a
  have K45 := K41.wr W44 (Or.inl (List.mem_of_getElem? (i := 0) rfl))
  have O45 := O41.wr W44 g_a
  have V44 : Arv Z h44 a ka .byte (7 : Int32) ([(.int 0), (.int 0), (.int 0), (.int (nar .byte (Int32.ofNat (48 + (X / 100) % 100 / 10)))), (.int (Int32.ofNat (48 + X / 100 % 10)).toInt8.toInt32), (.int (Int32.ofNat (48 + X / 10 % 10)).toInt8.toInt32), (.int (Int32.ofNat (48 + X / 1 % 10)).toInt8.toInt32)]) (.int 0) := Arv.set A44 q44 S44 M44 G44 J44 (fits_nar_byte _) W44 3 rfl (Nat.le_of_ble_eq_true rfl)
  rw [dig8 (a := (X / 100) % 100 / 10) (b := X / 1000 % 10) (by omega)] at V44
  refine zgo Y B j38 <| zilN Y B o397 rfl <| zbp Y B o398 (v := (-100)) rfl ?_
  refine zCN Y B o421 (flt (show ¬ ((-100 : Int32) < (-(Int32.ofNat (X / 10000)))) from (fun q => absurd ((neg_lt_on (a := 100) (by decide) (by omega)).mp q) (by omega)))).2.2.1 ?_
  refine zilN Y B o422 rfl <| zbp Y B o423 (v := 100) rfl ?_
  refine Go.by (fun _ kq_ => XS.idiv Y.here B.1 rfl (hb B.2 o424.1) rfl (by decide) kq_) ?_
  show Go p e below _ _ (mkF m 32 #[iv (-(Int32.ofNat (X / 10000))), iv 7, rv a, iv (-(Int32.ofNat (X / 10000))), iv (Int32.ofNat ((X / 100) % 100)), iv 3, iv 0] [(.int ((-(Int32.ofNat (X / 10000))) / (100 : Int32)))])
  rw [show ((-(Int32.ofNat (X / 10000))) / (100 : Int32)) = (-(Int32.ofNat (X / 1000000))) from ((g_div (by omega)).trans (congrArg (fun z => -(Int32.ofNat z)) (by omega)))]
  refine zisN Y B o425 (s3 rfl) <| zilN Y B o426 rfl <| zbp Y B o427 (v := 100) rfl <| zimul Y B o428 rfl <| zilN Y B o429 rfl <| zisub Y B o430 rfl ?_
  rw [show (((-(Int32.ofNat (X / 1000000))) * (100 : Int32)) - (-(Int32.ofNat (X / 10000)))) = (Int32.ofNat ((X / 10000) % 100)) from (by have q := g_rem (Y := (X / 10000)) (by omega); rw [show (X / 10000) / 100 = (X / 1000000) from by omega] at q; exact q)]
  refine zis Y B o431 (s4 rfl) <| zilN Y B o432 rfl <| zisN Y B o433 (s0 rfl) <| zalN Y B o434 rfl <| zinc Y B o435 rfl (v := 2) rfl (s5 rfl) <| zil Y B o436 rfl ?_
  refine zgs Y B hZ hown (ow51 hw) e44 (OS1.ext O45.2) o437 fun _ Y e46 => ?_
  refine zil Y B o438 rfl ?_
  refine zlb Y B hZ e46 (OD1.ext O45.2) (v := (.int (Int32.ofNat (48 + (X / 10000) % 100 % 10)))) ⟨on_pos (by omega), on_lt (b := 100) (by omega) (by decide)⟩ (ones_at (by omega)) o439 ?_
  obtain ⟨c48, A48, q48, S48, M48, G48, J48⟩ := id V44
  refine Go.b1 (stB Y B.1 hZ e46 A48 (j := (2 : Int32)) (inb_of S48 ⟨by decide, by decide⟩) rfl rfl (hb B.2 o440.1)) fun T48 h48 Y e48 W48 => ?_
  have N48 := Fr.snoc Y N44 g_a
  have K49 := K45.wr W48 (Or.inl (List.mem_of_getElem? (i := 0) rfl))
  have O49 := O45.wr W48 g_a
  have V48 : Arv Z h48 a ka .byte (7 : Int32) ([(.int 0), (.int 0), (.int (nar .byte (Int32.ofNat (48 + (X / 10000) % 100 % 10)))), (.int (Int32.ofNat (48 + X / 1000 % 10)).toInt8.toInt32), (.int (Int32.ofNat (48 + X / 100 % 10)).toInt8.toInt32), (.int (Int32.ofNat (48 + X / 10 % 10)).toInt8.toInt32), (.int (Int32.ofNat (48 + X / 1 % 10)).toInt8.toInt32)]) (.int 0) := Arv.set A48 q48 S48 M48 G48 J48 (fits_nar_byte _) W48 2 rfl (Nat.le_of_ble_eq_true rfl)
  rw [dig8 (a := (X / 10000) % 100 % 10) (b := X / 10000 % 10) (by omega)] at V48
  refine zalN Y B o441 rfl <| zinc Y B o442 rfl (v := 1) rfl (s5 rfl) <| zil Y B o443 rfl ?_
  refine zgs Y B hZ hown (ow217 hw) e48 (OS2.ext O49.2) o444 fun _ Y e50 => ?_
  refine zil Y B o445 rfl ?_
  refine zlb Y B hZ e50 (OD2.ext O49.2) (v := (.int (Int32.ofNat (48 + (X / 10000) % 100 / 10)))) ⟨on_pos (by omega), on_lt (b := 100) (by omega) (by decide)⟩ (tens_at (by omega)) o446 ?_
  obtain ⟨c52, A52, q52, S52, M52, G52, J52⟩ := id V48
  refine Go.b1 (stB Y B.1 hZ e50 A52 (j := (1 : Int32)) (inb_of S52 ⟨by decide, by decide⟩) rfl rfl (hb B.2 o447.1)) fun T52 h52 Y e52 W52 => ?_
  have N52 := Fr.snoc Y N48 g_a
  have K53 := K49.wr W52 (Or.inl (List.mem_of_getElem? (i := 0) rfl))
  have O53 := O49.wr W52 g_a
  have V52 : Arv Z h52 a ka .byte (7 : Int32) ([(.int 0), (.int (nar .byte (Int32.ofNat (48 + (X / 10000) % 100 / 10)))), (.int (Int32.ofNat (48 + X / 10000 % 10)).toInt8.toInt32), (.int (Int32.ofNat (48 + X / 1000 % 10)).toInt8.toInt32), (.int (Int32.ofNat (48 + X / 100 % 10)).toInt8.toInt32), (.int (Int32.ofNat (48 + X / 10 % 10)).toInt8.toInt32), (.int (Int32.ofNat (48 + X / 1 % 10)).toInt8.toInt32)]) (.int 0) := Arv.set A52 q52 S52 M52 G52 J52 (fits_nar_byte _) W52 1 rfl (Nat.le_of_ble_eq_true rfl)
  rw [dig8 (a := (X / 10000) % 100 / 10) (b := X / 100000 % 10) (by omega)] at V52
  refine zgo Y B j38 <| zilN Y B o397 rfl <| zbp Y B o398 (v := (-100)) rfl ?_
  refine zCY Y B j35 (tlt (show (-100 : Int32) < (-(Int32.ofNat (X / 1000000))) from ((neg_lt_on (a := 100) (by decide) (by omega)).mpr (by omega)))).2.2.1 ?_
  refine zalN Y B o399 rfl <| zinc Y B o400 rfl (v := 0) rfl (s5 rfl) <| zil Y B o401 rfl ?_
  refine zgs Y B hZ hown (ow51 hw) e52 (OS1.ext O53.2) o402 fun _ Y e54 => ?_
  refine zilN Y B o403 rfl <| zineg Y B o404 rfl ?_
  rw [show (-(-(Int32.ofNat (X / 1000000)))) = (Int32.ofNat (X / 1000000)) from (neg_neg_on _)]
  refine zlb Y B hZ e54 (OD1.ext O53.2) (v := (.int (Int32.ofNat (48 + (X / 1000000) % 10)))) ⟨on_pos (by omega), on_lt (b := 100) (by omega) (by decide)⟩ (ones_at (by omega)) o405 ?_
  obtain ⟨c56, A56, q56, S56, M56, G56, J56⟩ := id V52
  refine Go.b1 (stB Y B.1 hZ e54 A56 (j := (0 : Int32)) (inb_of S56 ⟨by decide, by decide⟩) rfl rfl (hb B.2 o406.1)) fun T56 h56 Y e56 W56 => ?_
  have N56 := Fr.snoc Y N52 g_a
  have K57 := K53.wr W56 (Or.inl (List.mem_of_getElem? (i := 0) rfl))
  have O57 := O53.wr W56 g_a
  have V56 : Arv Z h56 a ka .byte (7 : Int32) ([(.int (nar .byte (Int32.ofNat (48 + (X / 1000000) % 10)))), (.int (Int32.ofNat (48 + X / 100000 % 10)).toInt8.toInt32), (.int (Int32.ofNat (48 + X / 10000 % 10)).toInt8.toInt32), (.int (Int32.ofNat (48 + X / 1000 % 10)).toInt8.toInt32), (.int (Int32.ofNat (48 + X / 100 % 10)).toInt8.toInt32), (.int (Int32.ofNat (48 + X / 10 % 10)).toInt8.toInt32), (.int (Int32.ofNat (48 + X / 1 % 10)).toInt8.toInt32)]) (.int 0) := Arv.set A56 q56 S56 M56 G56 J56 (fits_nar_byte _) W56 0 rfl (Nat.le_of_ble_eq_true rfl)
  rw [dig8 (a := (X / 1000000) % 10) (b := X / 1000000 % 10) (by omega)] at V56
  refine zilN Y B o407 rfl <| zbp Y B o408 (v := (-9)) rfl ?_
  refine zCY Y B j36 (flt (show ¬ ((-(Int32.ofNat (X / 1000000))) < (-9 : Int32)) from (fun q => absurd ((neg_lt_on (b := 9) (by omega) (by decide)).mp q) (by omega)))).2.1 ?_
  refine zil Y B o409 rfl <| zY Y B j37 (by decide) ?_
  refine zil Y B o410 rfl ?_
  exact zrI Y B hret hlk o411 e56 ⟨rfl, N56, K57, V56⟩ rfl rfl
def Q_getch8 (Z : State) (X : Nat) (a : Addr) (ka : ClassId) (on : Addr) (ko : ClassId) (te : Addr) (ke : ClassId) (h0 : Heap) (n0 : Nat) : QT := fun rv hE LE => rv = some (.int 0) ∧ Fr n0 LE ∧ Keep h0 hE [a] ∧ (Arv Z hE a ka .byte (8 : Int32) (B8 (D 8 X)) (.int 0))
theorem rm_getch8 (l : Launch) (Z : State) (a0 : Array Value) (hw : HW a0 Z) (ws : List Jvm.Cond) (X : Nat) (a : Addr) (ka : ClassId) (on : Addr) (ko : ClassId) (te : Addr) (ke : ClassId) (h0 : Heap) (n0 : Nat) (Z0 : n0 ≤ h0.size) (HX : X < 2 ^ 31) (HW : WD X 8) (g_a : n0 ≤ a) (VA : Arv Z h0 a ka .byte (8 : Int32) ([(.int 0), (.int 0), (.int 0), (.int 0), (.int 0), (.int 0), (.int 0), (.int 0)]) (.int 0)) (OS1 : Sta Z Z.heap ss4 ss8 "[B" (.ref on)) (OD1 : Arv Z Z.heap on ko .byte (100 : Int32) ONES (.int 0)) (OS2 : Sta Z Z.heap ss4 ss9 "[B" (.ref te)) (OD2 : Arv Z Z.heap te ke .byte (100 : Int32) TENS (.int 0)) (X00 : Old Z n0 h0) :
    MF l Z mn32 (Jvm.Cond.code mn32 cB32 7 (Option.some Jvm.ClassFile.FieldType.int)) ws Ro0 #[(.int (Int32.ofNat X)), (.int 8), (.ref a)] h0 (Q_getch8 Z X a ka on ko te ke h0 n0) := by
  refine MF.of ss4 rfl #[iv (Int32.ofNat X), iv 8, rv a, un, un, un, un] (plainFor_of_name opn_7) (fun _ => rfl) ?_
  intro p e s m below meth c _ hZ hh B hml hret hlk hown hnm Y e0
  have N0 := Fr.nil n0
  have K0 := Keep.refl h0 [a]
  obtain ⟨-, -, hu0, hl0⟩ := HW
  have hu : X < 100000000 := hu0
  have hl : 10000000 ≤ X := hl0.resolve_left (by decide)
  refine zilN Y B o387 rfl <| zis Y B o388 (s5 rfl) <| zilN Y B o389 rfl ?_
  refine zY Y B j34 ((if0 _ _).trans (flt (show ¬ ((Int32.ofNat X) < (0 : Int32)) from (on_pos HX))).2.1) ?_
  refine zc0 Y B o390 <| zis Y B o391 (s6 rfl) <| zil Y B o392 rfl <| zN Y B o393 (by decide) ?_
  refine zilN Y B o394 rfl <| zineg Y B o395 rfl <| zisN Y B o396 (s0 rfl) <| zilN Y B o397 rfl <| zbp Y B o398 (v := (-100)) rfl ?_
  refine zCN Y B o421 (flt (show ¬ ((-100 : Int32) < (-(Int32.ofNat X))) from (fun q => absurd ((neg_lt_on (a := 100) (by decide) (by omega)).mp q) (by omega)))).2.2.1 ?_
  refine zilN Y B o422 rfl <| zbp Y B o423 (v := 100) rfl ?_
  refine Go.by (fun _ kq_ => XS.idiv Y.here B.1 rfl (hb B.2 o424.1) rfl (by decide) kq_) ?_
  show Go p e below _ _ (mkF m 32 #[iv (-(Int32.ofNat X)), iv 8, rv a, un, un, iv 8, iv 0] [(.int ((-(Int32.ofNat X)) / (100 : Int32)))])
  rw [show ((-(Int32.ofNat X)) / (100 : Int32)) = (-(Int32.ofNat (X / 100))) from ((g_div (by omega)).trans (congrArg (fun z => -(Int32.ofNat z)) (by omega)))]
  refine zisN Y B o425 (s3 rfl) <| zilN Y B o426 rfl <| zbp Y B o427 (v := 100) rfl <| zimul Y B o428 rfl <| zilN Y B o429 rfl <| zisub Y B o430 rfl ?_
  rw [show (((-(Int32.ofNat (X / 100))) * (100 : Int32)) - (-(Int32.ofNat X))) = (Int32.ofNat (X % 100)) from (by have q := g_rem (Y := X) (by omega); rw [show X / 100 = (X / 100) from by omega] at q; exact q)]
  refine zis Y B o431 (s4 rfl) <| zilN Y B o432 rfl <| zisN Y B o433 (s0 rfl) <| zalN Y B o434 rfl <| zinc Y B o435 rfl (v := 7) rfl (s5 rfl) <| zil Y B o436 rfl ?_
  refine zgs Y B hZ hown (ow51 hw) e0 (OS1.ext X00.2) o437 fun _ Y e30 => ?_
  refine zil Y B o438 rfl ?_
  refine zlb Y B hZ e30 (OD1.ext X00.2) (v := (.int (Int32.ofNat (48 + X % 100 % 10)))) ⟨on_pos (by omega), on_lt (b := 100) (by omega) (by decide)⟩ (ones_at (by omega)) o439 ?_
  obtain ⟨c32, A32, q32, S32, M32, G32, J32⟩ := id VA
  refine Go.b1 (stB Y B.1 hZ e30 A32 (j := (7 : Int32)) (inb_of S32 ⟨by decide, by decide⟩) rfl rfl (hb B.2 o440.1)) fun T32 h32 Y e32 W32 => ?_
  have N32 := Fr.snoc Y N0 g_a
  have K33 := K0.wr W32 (Or.inl (List.mem_of_getElem? (i := 0) rfl))
  have O33 := X00.wr W32 g_a
  have V32 : Arv Z h32 a ka .byte (8 : Int32) ([(.int 0), (.int 0), (.int 0), (.int 0), (.int 0), (.int 0), (.int 0), (.int (nar .byte (Int32.ofNat (48 + X % 100 % 10))))]) (.int 0) := Arv.set A32 q32 S32 M32 G32 J32 (fits_nar_byte _) W32 7 rfl (Nat.le_of_ble_eq_true rfl)
  rw [dig8 (a := X % 100 % 10) (b := X / 1 % 10) (by omega)] at V32
  refine zalN Y B o441 rfl <| zinc Y B o442 rfl (v := 6) rfl (s5 rfl) <| zil Y B o443 rfl ?_
  refine zgs Y B hZ hown (ow217 hw) e32 (OS2.ext O33.2) o444 fun _ Y e34 => ?_
  refine zil Y B o445 rfl ?_
  refine zlb Y B hZ e34 (OD2.ext O33.2) (v := (.int (Int32.ofNat (48 + X % 100 / 10)))) ⟨on_pos (by omega), on_lt (b := 100) (by omega) (by decide)⟩ (tens_at (by omega)) o446 ?_
  obtain ⟨c36, A36, q36, S36, M36, G36, J36⟩ := id V32
  refine Go.b1 (stB Y B.1 hZ e34 A36 (j := (6 : Int32)) (inb_of S36 ⟨by decide, by decide⟩) rfl rfl (hb B.2 o447.1)) fun T36 h36 Y e36 W36 => ?_
  have N36 := Fr.snoc Y N32 g_a
  have K37 := K33.wr W36 (Or.inl (List.mem_of_getElem? (i := 0) rfl))
  have O37 := O33.wr W36 g_a
  have V36 : Arv Z h36 a ka .byte (8 : Int32) ([(.int 0), (.int 0), (.int 0), (.int 0), (.int 0), (.int 0), (.int (nar .byte (Int32.ofNat (48 + X % 100 / 10)))), (.int (Int32.ofNat (48 + X / 1 % 10)).toInt8.toInt32)]) (.int 0) := Arv.set A36 q36 S36 M36 G36 J36 (fits_nar_byte _) W36 6 rfl (Nat.le_of_ble_eq_true rfl)
  rw [dig8 (a := X % 100 / 10) (b := X / 10 % 10) (by omega)] at V36
  refine zgo Y B j38 <| zilN Y B o397 rfl <| zbp Y B o398 (v := (-100)) rfl ?_
  refine zCN Y B o421 (flt (show ¬ ((-100 : Int32) < (-(Int32.ofNat (X / 100)))) from (fun q => absurd ((neg_lt_on (a := 100) (by decide) (by omega)).mp q) (by omega)))).2.2.1 ?_
  refine zilN Y B o422 rfl <| zbp Y B o423 (v := 100) rfl ?_
  refine Go.by (fun _ kq_ => XS.idiv Y.here B.1 rfl (hb B.2 o424.1) rfl (by decide) kq_) ?_
  show Go p e below _ _ (mkF m 32 #[iv (-(Int32.ofNat (X / 100))), iv 8, rv a, iv (-(Int32.ofNat (X / 100))), iv (Int32.ofNat (X % 100)), iv 6, iv 0] [(.int ((-(Int32.ofNat (X / 100))) / (100 : Int32)))])
  rw [show ((-(Int32.ofNat (X / 100))) / (100 : Int32)) = (-(Int32.ofNat (X / 10000))) from ((g_div (by omega)).trans (congrArg (fun z => -(Int32.ofNat z)) (by omega)))]
  refine zisN Y B o425 (s3 rfl) <| zilN Y B o426 rfl <| zbp Y B o427 (v := 100) rfl <| zimul Y B o428 rfl <| zilN Y B o429 rfl <| zisub Y B o430 rfl ?_
  rw [show (((-(Int32.ofNat (X / 10000))) * (100 : Int32)) - (-(Int32.ofNat (X / 100)))) = (Int32.ofNat ((X / 100) % 100)) from (by have q := g_rem (Y := (X / 100)) (by omega); rw [show (X / 100) / 100 = (X / 10000) from by omega] at q; exact q)]
  refine zis Y B o431 (s4 rfl) <| zilN Y B o432 rfl <| zisN Y B o433 (s0 rfl) <| zalN Y B o434 rfl <| zinc Y B o435 rfl (v := 5) rfl (s5 rfl) <| zil Y B o436 rfl ?_
  refine zgs Y B hZ hown (ow51 hw) e36 (OS1.ext O37.2) o437 fun _ Y e38 => ?_
  refine zil Y B o438 rfl ?_
  refine zlb Y B hZ e38 (OD1.ext O37.2) (v := (.int (Int32.ofNat (48 + (X / 100) % 100 % 10)))) ⟨on_pos (by omega), on_lt (b := 100) (by omega) (by decide)⟩ (ones_at (by omega)) o439 ?_
  obtain ⟨c40, A40, q40, S40, M40, G40, J40⟩ := id V36
  refine Go.b1 (stB Y B.1 hZ e38 A40 (j := (5 : Int32)) (inb_of S40 ⟨by decide, by decide⟩) rfl rfl (hb B.2 o440.1)) fun T40 h40 Y e40 W40 => ?_
  have N40 := Fr.snoc Y N36 g_a
  have K41 := K37.wr W40 (Or.inl (List.mem_of_getElem? (i := 0) rfl))
  have O41 := O37.wr W40 g_a
  have V40 : Arv Z h40 a ka .byte (8 : Int32) ([(.int 0), (.int 0), (.int 0), (.int 0), (.int 0), (.int (nar .byte (Int32.ofNat (48 + (X / 100) % 100 % 10)))), (.int (Int32.ofNat (48 + X / 10 % 10)).toInt8.toInt32), (.int (Int32.ofNat (48 + X / 1 % 10)).toInt8.toInt32)]) (.int 0) := Arv.set A40 q40 S40 M40 G40 J40 (fits_nar_byte _) W40 5 rfl (Nat.le_of_ble_eq_true rfl)
  rw [dig8 (a := (X / 100) % 100 % 10) (b := X / 100 % 10) (by omega)] at V40
  refine zalN Y B o441 rfl <| zinc Y B o442 rfl (v := 4) rfl (s5 rfl) <| zil Y B o443 rfl ?_
  refine zgs Y B hZ hown (ow217 hw) e40 (OS2.ext O41.2) o444 fun _ Y e42 => ?_
  refine zil Y B o445 rfl ?_
  refine zlb Y B hZ e42 (OD2.ext O41.2) (v := (.int (Int32.ofNat (48 + (X / 100) % 100 / 10)))) ⟨on_pos (by omega), on_lt (b := 100) (by omega) (by decide)⟩ (tens_at (by omega)) o446 ?_
  obtain ⟨c44, A44, q44, S44, M44, G44, J44⟩ := id V40
  refine Go.b1 (stB Y B.1 hZ e42 A44 (j := (4 : Int32)) (inb_of S44 ⟨by decide, by decide⟩) rfl rfl (hb B.2 o447.1)) fun T44 h44 Y e44 W44 => ?_
  have N44 := Fr.snoc Y N40 g_a
  have K45 := K41.wr W44 (Or.inl (List.mem_of_getElem? (i := 0) rfl))
  have O45 := O41.wr W44 g_a
  have V44 : Arv Z h44 a ka .byte (8 : Int32) ([(.int 0), (.int 0), (.int 0), (.int 0), (.int (nar .byte (Int32.ofNat (48 + (X / 100) % 100 / 10)))), (.int (Int32.ofNat (48 + X / 100 % 10)).toInt8.toInt32), (.int (Int32.ofNat (48 + X / 10 % 10)).toInt8.toInt32), (.int (Int32.ofNat (48 + X / 1 % 10)).toInt8.toInt32)]) (.int 0) := Arv.set A44 q44 S44 M44 G44 J44 (fits_nar_byte _) W44 4 rfl (Nat.le_of_ble_eq_true rfl)
  rw [dig8 (a := (X / 100) % 100 / 10) (b := X / 1000 % 10) (by omega)] at V44
  refine zgo Y B j38 <| zilN Y B o397 rfl <| zbp Y B o398 (v := (-100)) rfl ?_
  refine zCN Y B o421 (flt (show ¬ ((-100 : Int32) < (-(Int32.ofNat (X / 10000)))) from (fun q => absurd ((neg_lt_on (a := 100) (by decide) (by omega)).mp q) (by omega)))).2.2.1 ?_
  refine zilN Y B o422 rfl <| zbp Y B o423 (v := 100) rfl ?_
  refine Go.by (fun _ kq_ => XS.idiv Y.here B.1 rfl (hb B.2 o424.1) rfl (by decide) kq_) ?_
  show Go p e below _ _ (mkF m 32 #[iv (-(Int32.ofNat (X / 10000))), iv 8, rv a, iv (-(Int32.ofNat (X / 10000))), iv (Int32.ofNat ((X / 100) % 100)), iv 4, iv 0] [(.int ((-(Int32.ofNat (X / 10000))) / (100 : Int32)))])
  rw [show ((-(Int32.ofNat (X / 10000))) / (100 : Int32)) = (-(Int32.ofNat (X / 1000000))) from ((g_div (by omega)).trans (congrArg (fun z => -(Int32.ofNat z)) (by omega)))]
  refine zisN Y B o425 (s3 rfl) <| zilN Y B o426 rfl <| zbp Y B o427 (v := 100) rfl <| zimul Y B o428 rfl <| zilN Y B o429 rfl <| zisub Y B o430 rfl ?_
  rw [show (((-(Int32.ofNat (X / 1000000))) * (100 : Int32)) - (-(Int32.ofNat (X / 10000)))) = (Int32.ofNat ((X / 10000) % 100)) from (by have q := g_rem (Y := (X / 10000)) (by omega); rw [show (X / 10000) / 100 = (X / 1000000) from by omega] at q; exact q)]
  refine zis Y B o431 (s4 rfl) <| zilN Y B o432 rfl <| zisN Y B o433 (s0 rfl) <| zalN Y B o434 rfl <| zinc Y B o435 rfl (v := 3) rfl (s5 rfl) <| zil Y B o436 rfl ?_
  refine zgs Y B hZ hown (ow51 hw) e44 (OS1.ext O45.2) o437 fun _ Y e46 => ?_
  refine zil Y B o438 rfl ?_
  refine zlb Y B hZ e46 (OD1.ext O45.2) (v := (.int (Int32.ofNat (48 + (X / 10000) % 100 % 10)))) ⟨on_pos (by omega), on_lt (b := 100) (by omega) (by decide)⟩ (ones_at (by omega)) o439 ?_
  obtain ⟨c48, A48, q48, S48, M48, G48, J48⟩ := id V44
  refine Go.b1 (stB Y B.1 hZ e46 A48 (j := (3 : Int32)) (inb_of S48 ⟨by decide, by decide⟩) rfl rfl (hb B.2 o440.1)) fun T48 h48 Y e48 W48 => ?_
  have N48 := Fr.snoc Y N44 g_a
  have K49 := K45.wr W48 (Or.inl (List.mem_of_getElem? (i := 0) rfl))
  have O49 := O45.wr W48 g_a
  have V48 : Arv Z h48 a ka .byte (8 : Int32) ([(.int 0), (.int 0), (.int 0), (.int (nar .byte (Int32.ofNat (48 + (X / 10000) % 100 % 10)))), (.int (Int32.ofNat (48 + X / 1000 % 10)).toInt8.toInt32), (.int (Int32.ofNat (48 + X / 100 % 10)).toInt8.toInt32), (.int (Int32.ofNat (48 + X / 10 % 10)).toInt8.toInt32), (.int (Int32.ofNat (48 + X / 1 % 10)).toInt8.toInt32)]) (.int 0) := Arv.set A48 q48 S48 M48 G48 J48 (fits_nar_byte _) W48 3 rfl (Nat.le_of_ble_eq_true rfl)
  rw [dig8 (a := (X / 10000) % 100 % 10) (b := X / 10000 % 10) (by omega)] at V48
  refine zalN Y B o441 rfl <| zinc Y B o442 rfl (v := 2) rfl (s5 rfl) <| zil Y B o443 rfl ?_
  refine zgs Y B hZ hown (ow217 hw) e48 (OS2.ext O49.2) o444 fun _ Y e50 => ?_
  refine zil Y B o445 rfl ?_
  refine zlb Y B hZ e50 (OD2.ext O49.2) (v := (.int (Int32.ofNat (48 + (X / 10000) % 100 / 10)))) ⟨on_pos (by omega), on_lt (b := 100) (by omega) (by decide)⟩ (tens_at (by omega)) o446 ?_
  obtain ⟨c52, A52, q52, S52, M52, G52, J52⟩ := id V48
  refine Go.b1 (stB Y B.1 hZ e50 A52 (j := (2 : Int32)) (inb_of S52 ⟨by decide, by decide⟩) rfl rfl (hb B.2 o447.1)) fun T52 h52 Y e52 W52 => ?_
  have N52 := Fr.snoc Y N48 g_a
  have K53 := K49.wr W52 (Or.inl (List.mem_of_getElem? (i := 0) rfl))
  have O53 := O49.wr W52 g_a
  have V52 : Arv Z h52 a ka .byte (8 : Int32) ([(.int 0), (.int 0), (.int (nar .byte (Int32.ofNat (48 + (X / 10000) % 100 / 10)))), (.int (Int32.ofNat (48 + X / 10000 % 10)).toInt8.toInt32), (.int (Int32.ofNat (48 + X / 1000 % 10)).toInt8.toInt32), (.int (Int32.ofNat (48 + X / 100 % 10)).toInt8.toInt32), (.int (Int32.ofNat (48 + X / 10 % 10)).toInt8.toInt32), (.int (Int32.ofNat (48 + X / 1 % 10)).toInt8.toInt32)]) (.int 0) := Arv.set A52 q52 S52 M52 G52 J52 (fits_nar_byte _) W52 2 rfl (Nat.le_of_ble_eq_true rfl)
  rw [dig8 (a := (X / 10000) % 100 / 10) (b := X / 100000 % 10) (by omega)] at V52
  refine zgo Y B j38 <| zilN Y B o397 rfl <| zbp Y B o398 (v := (-100)) rfl ?_
  refine zCY Y B j35 (tlt (show (-100 : Int32) < (-(Int32.ofNat (X / 1000000))) from ((neg_lt_on (a := 100) (by decide) (by omega)).mpr (by omega)))).2.2.1 ?_
  refine zalN Y B o399 rfl <| zinc Y B o400 rfl (v := 1) rfl (s5 rfl) <| zil Y B o401 rfl ?_
  refine zgs Y B hZ hown (ow51 hw) e52 (OS1.ext O53.2) o402 fun _ Y e54 => ?_
  refine zilN Y B o403 rfl <| zineg Y B o404 rfl ?_
  rw [show (-(-(Int32.ofNat (X / 1000000)))) = (Int32.ofNat (X / 1000000)) from (neg_neg_on _)]
  refine zlb Y B hZ e54 (OD1.ext O53.2) (v := (.int (Int32.ofNat (48 + (X / 1000000) % 10)))) ⟨on_pos (by omega), on_lt (b := 100) (by omega) (by decide)⟩ (ones_at (by omega)) o405 ?_
  obtain ⟨c56, A56, q56, S56, M56, G56, J56⟩ := id V52
  refine Go.b1 (stB Y B.1 hZ e54 A56 (j := (1 : Int32)) (inb_of S56 ⟨by decide, by decide⟩) rfl rfl (hb B.2 o406.1)) fun T56 h56 Y e56 W56 => ?_
  have N56 := Fr.snoc Y N52 g_a
  have K57 := K53.wr W56 (Or.inl (List.mem_of_getElem? (i := 0) rfl))
  have O57 := O53.wr W56 g_a
  have V56 : Arv Z h56 a ka .byte (8 : Int32) ([(.int 0), (.int (nar .byte (Int32.ofNat (48 + (X / 1000000) % 10)))), (.int (Int32.ofNat (48 + X / 100000 % 10)).toInt8.toInt32), (.int (Int32.ofNat (48 + X / 10000 % 10)).toInt8.toInt32), (.int (Int32.ofNat (48 + X / 1000 % 10)).toInt8.toInt32), (.int (Int32.ofNat (48 + X / 100 % 10)).toInt8.toInt32), (.int (Int32.ofNat (48 + X / 10 % 10)).toInt8.toInt32), (.int (Int32.ofNat (48 + X / 1 % 10)).toInt8.toInt32)]) (.int 0) := Arv.set A56 q56 S56 M56 G56 J56 (fits_nar_byte _) W56 1 rfl (Nat.le_of_ble_eq_true rfl)
  rw [dig8 (a := (X / 1000000) % 10) (b := X / 1000000 % 10) (by omega)] at V56
  refine zilN Y B o407 rfl <| zbp Y B o408 (v := (-9)) rfl ?_
  refine zCN Y B o412 (tlt (show (-(Int32.ofNat (X / 1000000))) < (-9 : Int32) from ((neg_lt_on (b := 9) (by omega) (by decide)).mpr (by omega)))).2.1 ?_
  refine zalN Y B o413 rfl <| zinc Y B o414 rfl (v := 0) rfl (s5 rfl) <| zil Y B o415 rfl ?_
  refine zgs Y B hZ hown (ow217 hw) e56 (OS2.ext O57.2) o416 fun _ Y e58 => ?_
  refine zilN Y B o417 rfl <| zineg Y B o418 rfl ?_
  rw [show (-(-(Int32.ofNat (X / 1000000)))) = (Int32.ofNat (X / 1000000)) from (neg_neg_on _)]
  refine zlb Y B hZ e58 (OD2.ext O57.2) (v := (.int (Int32.ofNat (48 + (X / 1000000) / 10)))) ⟨on_pos (by omega), on_lt (b := 100) (by omega) (by decide)⟩ (tens_at (by omega)) o419 ?_
  obtain ⟨c60, A60, q60, S60, M60, G60, J60⟩ := id V56
  refine Go.b1 (stB Y B.1 hZ e58 A60 (j := (0 : Int32)) (inb_of S60 ⟨by decide, by decide⟩) rfl rfl (hb B.2 o420.1)) fun T60 h60 Y e60 W60 => ?_
  have N60 := Fr.snoc Y N56 g_a
  have K61 := K57.wr W60 (Or.inl (List.mem_of_getElem? (i := 0) rfl))
  have O61 := O57.wr W60 g_a
  have V60 : Arv Z h60 a ka .byte (8 : Int32) ([(.int (nar .byte (Int32.ofNat (48 + (X / 1000000) / 10)))), (.int (Int32.ofNat (48 + X / 1000000 % 10)).toInt8.toInt32), (.int (Int32.ofNat (48 + X / 100000 % 10)).toInt8.toInt32), (.int (Int32.ofNat (48 + X / 10000 % 10)).toInt8.toInt32), (.int (Int32.ofNat (48 + X / 1000 % 10)).toInt8.toInt32), (.int (Int32.ofNat (48 + X / 100 % 10)).toInt8.toInt32), (.int (Int32.ofNat (48 + X / 10 % 10)).toInt8.toInt32), (.int (Int32.ofNat (48 + X / 1 % 10)).toInt8.toInt32)]) (.int 0) := Arv.set A60 q60 S60 M60 G60 J60 (fits_nar_byte _) W60 0 rfl (Nat.le_of_ble_eq_true rfl)
  rw [dig8 (a := (X / 1000000) / 10) (b := X / 10000000 % 10) (by omega)] at V60
  refine zil Y B o409 rfl <| zY Y B j37 (by decide) ?_
  refine zil Y B o410 rfl ?_
  exact zrI Y B hret hlk o411 e60 ⟨rfl, N60, K61, V60⟩ rfl rfl
def Q_getch9 (Z : State) (X : Nat) (a : Addr) (ka : ClassId) (on : Addr) (ko : ClassId) (te : Addr) (ke : ClassId) (h0 : Heap) (n0 : Nat) : QT := fun rv hE LE => rv = some (.int 0) ∧ Fr n0 LE ∧ Keep h0 hE [a] ∧ (Arv Z hE a ka .byte (9 : Int32) (B8 (D 9 X)) (.int 0))
theorem rm_getch9 (l : Launch) (Z : State) (a0 : Array Value) (hw : HW a0 Z) (ws : List Jvm.Cond) (X : Nat) (a : Addr) (ka : ClassId) (on : Addr) (ko : ClassId) (te : Addr) (ke : ClassId) (h0 : Heap) (n0 : Nat) (Z0 : n0 ≤ h0.size) (HX : X < 2 ^ 31) (HW : WD X 9) (g_a : n0 ≤ a) (VA : Arv Z h0 a ka .byte (9 : Int32) ([(.int 0), (.int 0), (.int 0), (.int 0), (.int 0), (.int 0), (.int 0), (.int 0), (.int 0)]) (.int 0)) (OS1 : Sta Z Z.heap ss4 ss8 "[B" (.ref on)) (OD1 : Arv Z Z.heap on ko .byte (100 : Int32) ONES (.int 0)) (OS2 : Sta Z Z.heap ss4 ss9 "[B" (.ref te)) (OD2 : Arv Z Z.heap te ke .byte (100 : Int32) TENS (.int 0)) (X00 : Old Z n0 h0) :
    MF l Z mn32 (Jvm.Cond.code mn32 cB32 7 (Option.some Jvm.ClassFile.FieldType.int)) ws Ro0 #[(.int (Int32.ofNat X)), (.int 9), (.ref a)] h0 (Q_getch9 Z X a ka on ko te ke h0 n0) := by
  refine MF.of ss4 rfl #[iv (Int32.ofNat X), iv 9, rv a, un, un, un, un] (plainFor_of_name opn_7) (fun _ => rfl) ?_
  intro p e s m below meth c _ hZ hh B hml hret hlk hown hnm Y e0
  have N0 := Fr.nil n0
  have K0 := Keep.refl h0 [a]
  obtain ⟨-, -, hu0, hl0⟩ := HW
  have hu : X < 1000000000 := hu0
  have hl : 100000000 ≤ X := hl0.resolve_left (by decide)
  refine zilN Y B o387 rfl <| zis Y B o388 (s5 rfl) <| zilN Y B o389 rfl ?_
  refine zY Y B j34 ((if0 _ _).trans (flt (show ¬ ((Int32.ofNat X) < (0 : Int32)) from (on_pos HX))).2.1) ?_
  refine zc0 Y B o390 <| zis Y B o391 (s6 rfl) <| zil Y B o392 rfl <| zN Y B o393 (by decide) ?_
  refine zilN Y B o394 rfl <| zineg Y B o395 rfl <| zisN Y B o396 (s0 rfl) <| zilN Y B o397 rfl <| zbp Y B o398 (v := (-100)) rfl ?_
  refine zCN Y B o421 (flt (show ¬ ((-100 : Int32) < (-(Int32.ofNat X))) from (fun q => absurd ((neg_lt_on (a := 100) (by decide) (by omega)).mp q) (by omega)))).2.2.1 ?_
  refine zilN Y B o422 rfl <| zbp Y B o423 (v := 100) rfl ?_
  refine Go.by (fun _ kq_ => XS.idiv Y.here B.1 rfl (hb B.2 o424.1) rfl (by decide) kq_) ?_
  show Go p e below _ _ (mkF m 32 #[iv (-(Int32.ofNat X)), iv 9, rv a, un, un, iv 9, iv 0] [(.int ((-(Int32.ofNat X)) / (100 : Int32)))])
  rw [show ((-(Int32.ofNat X)) / (100 : Int32)) = (-(Int32.ofNat (X / 100))) from ((g_div (by omega)).trans (congrArg (fun z => -(Int32.ofNat z)) (by omega)))]
  refine zisN Y B o425 (s3 rfl) <| zilN Y B o426 rfl <| zbp Y B o427 (v := 100) rfl <| zimul Y B o428 rfl <| zilN Y B o429 rfl <| zisub Y B o430 rfl ?_
  rw [show (((-(Int32.ofNat (X / 100))) * (100 : Int32)) - (-(Int32.ofNat X))) = (Int32.ofNat (X % 100)) from (by have q := g_rem (Y := X) (by omega); rw [show X / 100 = (X / 100) from by omega] at q; exact q)]
  refine zis Y B o431 (s4 rfl) <| zilN Y B o432 rfl <| zisN Y B o433 (s0 rfl) <| zalN Y B o434 rfl <| zinc Y B o435 rfl (v := 8) rfl (s5 rfl) <| zil Y B o436 rfl ?_
  refine zgs Y B hZ hown (ow51 hw) e0 (OS1.ext X00.2) o437 fun _ Y e30 => ?_
  refine zil Y B o438 rfl ?_
  refine zlb Y B hZ e30 (OD1.ext X00.2) (v := (.int (Int32.ofNat (48 + X % 100 % 10)))) ⟨on_pos (by omega), on_lt (b := 100) (by omega) (by decide)⟩ (ones_at (by omega)) o439 ?_
  obtain ⟨c32, A32, q32, S32, M32, G32, J32⟩ := id VA
  refine Go.b1 (stB Y B.1 hZ e30 A32 (j := (8 : Int32)) (inb_of S32 ⟨by decide, by decide⟩) rfl rfl (hb B.2 o440.1)) fun T32 h32 Y e32 W32 => ?_
  have N32 := Fr.snoc Y N0 g_a
  have K33 := K0.wr W32 (Or.inl (List.mem_of_getElem? (i := 0) rfl))
  have O33 := X00.wr W32 g_a
  have V32 : Arv Z h32 a ka .byte (9 : Int32) ([(.int 0), (.int 0), (.int 0), (.int 0), (.int 0), (.int 0), (.int 0), (.int 0), (.int (nar .byte (Int32.ofNat (48 + X % 100 % 10))))]) (.int 0) := Arv.set A32 q32 S32 M32 G32 J32 (fits_nar_byte _) W32 8 rfl (Nat.le_of_ble_eq_true rfl)
  rw [dig8 (a := X % 100 % 10) (b := X / 1 % 10) (by omega)] at V32
  refine zalN Y B o441 rfl <| zinc Y B o442 rfl (v := 7) rfl (s5 rfl) <| zil Y B o443 rfl ?_
  refine zgs Y B hZ hown (ow217 hw) e32 (OS2.ext O33.2) o444 fun _ Y e34 => ?_
  refine zil Y B o445 rfl ?_
  refine zlb Y B hZ e34 (OD2.ext O33.2) (v := (.int (Int32.ofNat (48 + X % 100 / 10)))) ⟨on_pos (by omega), on_lt (b := 100) (by omega) (by decide)⟩ (tens_at (by omega)) o446 ?_
  obtain ⟨c36, A36, q36, S36, M36, G36, J36⟩ := id V32
  refine Go.b1 (stB Y B.1 hZ e34 A36 (j := (7 : Int32)) (inb_of S36 ⟨by decide, by decide⟩) rfl rfl (hb B.2 o447.1)) fun T36 h36 Y e36 W36 => ?_
  have N36 := Fr.snoc Y N32 g_a
  have K37 := K33.wr W36 (Or.inl (List.mem_of_getElem? (i := 0) rfl))
  have O37 := O33.wr W36 g_a
  have V36 : Arv Z h36 a ka .byte (9 : Int32) ([(.int 0), (.int 0), (.int 0), (.int 0), (.int 0), (.int 0), (.int 0), (.int (nar .byte (Int32.ofNat (48 + X % 100 / 10)))), (.int (Int32.ofNat (48 + X / 1 % 10)).toInt8.toInt32)]) (.int 0) := Arv.set A36 q36 S36 M36 G36 J36 (fits_nar_byte _) W36 7 rfl (Nat.le_of_ble_eq_true rfl)
  rw [dig8 (a := X % 100 / 10) (b := X / 10 % 10) (by omega)] at V36
  refine zgo Y B j38 <| zilN Y B o397 rfl <| zbp Y B o398 (v := (-100)) rfl ?_
  refine zCN Y B o421 (flt (show ¬ ((-100 : Int32) < (-(Int32.ofNat (X / 100)))) from (fun q => absurd ((neg_lt_on (a := 100) (by decide) (by omega)).mp q) (by omega)))).2.2.1 ?_
  refine zilN Y B o422 rfl <| zbp Y B o423 (v := 100) rfl ?_
  refine Go.by (fun _ kq_ => XS.idiv Y.here B.1 rfl (hb B.2 o424.1) rfl (by decide) kq_) ?_
  show Go p e below _ _ (mkF m 32 #[iv (-(Int32.ofNat (X / 100))), iv 9, rv a, iv (-(Int32.ofNat (X / 100))), iv (Int32.ofNat (X % 100)), iv 7, iv 0] [(.int ((-(Int32.ofNat (X / 100))) / (100 : Int32)))])
  rw [show ((-(Int32.ofNat (X / 100))) / (100 : Int32)) = (-(Int32.ofNat (X / 10000))) from ((g_div (by omega)).trans (congrArg (fun z => -(Int32.ofNat z)) (by omega)))]
  refine zisN Y B o425 (s3 rfl) <| zilN Y B o426 rfl <| zbp Y B o427 (v := 100) rfl <| zimul Y B o428 rfl <| zilN Y B o429 rfl <| zisub Y B o430 rfl ?_
  rw [show (((-(Int32.ofNat (X / 10000))) * (100 : Int32)) - (-(Int32.ofNat (X / 100)))) = (Int32.ofNat ((X / 100) % 100)) from (by have q := g_rem (Y := (X / 100)) (by omega); rw [show (X / 100) / 100 = (X / 10000) from by omega] at q; exact q)]
  refine zis Y B o431 (s4 rfl) <| zilN Y B o432 rfl <| zisN Y B o433 (s0 rfl) <| zalN Y B o434 rfl <| zinc Y B o435 rfl (v := 6) rfl (s5 rfl) <| zil Y B o436 rfl ?_
  refine zgs Y B hZ hown (ow51 hw) e36 (OS1.ext O37.2) o437 fun _ Y e38 => ?_
  refine zil Y B o438 rfl ?_
  refine zlb Y B hZ e38 (OD1.ext O37.2) (v := (.int (Int32.ofNat (48 + (X / 100) % 100 % 10)))) ⟨on_pos (by omega), on_lt (b := 100) (by omega) (by decide)⟩ (ones_at (by omega)) o439 ?_
  obtain ⟨c40, A40, q40, S40, M40, G40, J40⟩ := id V36
  refine Go.b1 (stB Y B.1 hZ e38 A40 (j := (6 : Int32)) (inb_of S40 ⟨by decide, by decide⟩) rfl rfl (hb B.2 o440.1)) fun T40 h40 Y e40 W40 => ?_
  have N40 := Fr.snoc Y N36 g_a
  have K41 := K37.wr W40 (Or.inl (List.mem_of_getElem? (i := 0) rfl))
  have O41 := O37.wr W40 g_a
  have V40 : Arv Z h40 a ka .byte (9 : Int32) ([(.int 0), (.int 0), (.int 0), (.int 0), (.int 0), (.int 0), (.int (nar .byte (Int32.ofNat (48 + (X / 100) % 100 % 10)))), (.int (Int32.ofNat (48 + X / 10 % 10)).toInt8.toInt32), (.int (Int32.ofNat (48 + X / 1 % 10)).toInt8.toInt32)]) (.int 0) := Arv.set A40 q40 S40 M40 G40 J40 (fits_nar_byte _) W40 6 rfl (Nat.le_of_ble_eq_true rfl)
  rw [dig8 (a := (X / 100) % 100 % 10) (b := X / 100 % 10) (by omega)] at V40
  refine zalN Y B o441 rfl <| zinc Y B o442 rfl (v := 5) rfl (s5 rfl) <| zil Y B o443 rfl ?_
  refine zgs Y B hZ hown (ow217 hw) e40 (OS2.ext O41.2) o444 fun _ Y e42 => ?_
  refine zil Y B o445 rfl ?_
  refine zlb Y B hZ e42 (OD2.ext O41.2) (v := (.int (Int32.ofNat (48 + (X / 100) % 100 / 10)))) ⟨on_pos (by omega), on_lt (b := 100) (by omega) (by decide)⟩ (tens_at (by omega)) o446 ?_
  obtain ⟨c44, A44, q44, S44, M44, G44, J44⟩ := id V40
  refine Go.b1 (stB Y B.1 hZ e42 A44 (j := (5 : Int32)) (inb_of S44 ⟨by decide, by decide⟩) rfl rfl (hb B.2 o447.1)) fun T44 h44 Y e44 W44 => ?_
  have N44 := Fr.snoc Y N40 g_a
  have K45 := K41.wr W44 (Or.inl (List.mem_of_getElem? (i := 0) rfl))
  have O45 := O41.wr W44 g_a
  have V44 : Arv Z h44 a ka .byte (9 : Int32) ([(.int 0), (.int 0), (.int 0), (.int 0), (.int 0), (.int (nar .byte (Int32.ofNat (48 + (X / 100) % 100 / 10)))), (.int (Int32.ofNat (48 + X / 100 % 10)).toInt8.toInt32), (.int (Int32.ofNat (48 + X / 10 % 10)).toInt8.toInt32), (.int (Int32.ofNat (48 + X / 1 % 10)).toInt8.toInt32)]) (.int 0) := Arv.set A44 q44 S44 M44 G44 J44 (fits_nar_byte _) W44 5 rfl (Nat.le_of_ble_eq_true rfl)
  rw [dig8 (a := (X / 100) % 100 / 10) (b := X / 1000 % 10) (by omega)] at V44
  refine zgo Y B j38 <| zilN Y B o397 rfl <| zbp Y B o398 (v := (-100)) rfl ?_
  refine zCN Y B o421 (flt (show ¬ ((-100 : Int32) < (-(Int32.ofNat (X / 10000)))) from (fun q => absurd ((neg_lt_on (a := 100) (by decide) (by omega)).mp q) (by omega)))).2.2.1 ?_
  refine zilN Y B o422 rfl <| zbp Y B o423 (v := 100) rfl ?_
  refine Go.by (fun _ kq_ => XS.idiv Y.here B.1 rfl (hb B.2 o424.1) rfl (by decide) kq_) ?_
  show Go p e below _ _ (mkF m 32 #[iv (-(Int32.ofNat (X / 10000))), iv 9, rv a, iv (-(Int32.ofNat (X / 10000))), iv (Int32.ofNat ((X / 100) % 100)), iv 5, iv 0] [(.int ((-(Int32.ofNat (X / 10000))) / (100 : Int32)))])
  rw [show ((-(Int32.ofNat (X / 10000))) / (100 : Int32)) = (-(Int32.ofNat (X / 1000000))) from ((g_div (by omega)).trans (congrArg (fun z => -(Int32.ofNat z)) (by omega)))]
  refine zisN Y B o425 (s3 rfl) <| zilN Y B o426 rfl <| zbp Y B o427 (v := 100) rfl <| zimul Y B o428 rfl <| zilN Y B o429 rfl <| zisub Y B o430 rfl ?_
  rw [show (((-(Int32.ofNat (X / 1000000))) * (100 : Int32)) - (-(Int32.ofNat (X / 10000)))) = (Int32.ofNat ((X / 10000) % 100)) from (by have q := g_rem (Y := (X / 10000)) (by omega); rw [show (X / 10000) / 100 = (X / 1000000) from by omega] at q; exact q)]
  refine zis Y B o431 (s4 rfl) <| zilN Y B o432 rfl <| zisN Y B o433 (s0 rfl) <| zalN Y B o434 rfl <| zinc Y B o435 rfl (v := 4) rfl (s5 rfl) <| zil Y B o436 rfl ?_
  refine zgs Y B hZ hown (ow51 hw) e44 (OS1.ext O45.2) o437 fun _ Y e46 => ?_
  refine zil Y B o438 rfl ?_
  refine zlb Y B hZ e46 (OD1.ext O45.2) (v := (.int (Int32.ofNat (48 + (X / 10000) % 100 % 10)))) ⟨on_pos (by omega), on_lt (b := 100) (by omega) (by decide)⟩ (ones_at (by omega)) o439 ?_
  obtain ⟨c48, A48, q48, S48, M48, G48, J48⟩ := id V44
  refine Go.b1 (stB Y B.1 hZ e46 A48 (j := (4 : Int32)) (inb_of S48 ⟨by decide, by decide⟩) rfl rfl (hb B.2 o440.1)) fun T48 h48 Y e48 W48 => ?_
  have N48 := Fr.snoc Y N44 g_a
  have K49 := K45.wr W48 (Or.inl (List.mem_of_getElem? (i := 0) rfl))
  have O49 := O45.wr W48 g_a
  have V48 : Arv Z h48 a ka .byte (9 : Int32) ([(.int 0), (.int 0), (.int 0), (.int 0), (.int (nar .byte (Int32.ofNat (48 + (X / 10000) % 100 % 10)))), (.int (Int32.ofNat (48 + X / 1000 % 10)).toInt8.toInt32), (.int (Int32.ofNat (48 + X / 100 % 10)).toInt8.toInt32), (.int (Int32.ofNat (48 + X / 10 % 10)).toInt8.toInt32), (.int (Int32.ofNat (48 + X / 1 % 10)).toInt8.toInt32)]) (.int 0) := Arv.set A48 q48 S48 M48 G48 J48 (fits_nar_byte _) W48 4 rfl (Nat.le_of_ble_eq_true rfl)
  rw [dig8 (a := (X / 10000) % 100 % 10) (b := X / 10000 % 10) (by omega)] at V48
  refine zalN Y B o441 rfl <| zinc Y B o442 rfl (v := 3) rfl (s5 rfl) <| zil Y B o443 rfl ?_
  refine zgs Y B hZ hown (ow217 hw) e48 (OS2.ext O49.2) o444 fun _ Y e50 => ?_
  refine zil Y B o445 rfl ?_
  refine zlb Y B hZ e50 (OD2.ext O49.2) (v := (.int (Int32.ofNat (48 + (X / 10000) % 100 / 10)))) ⟨on_pos (by omega), on_lt (b := 100) (by omega) (by decide)⟩ (tens_at (by omega)) o446 ?_
  obtain ⟨c52, A52, q52, S52, M52, G52, J52⟩ := id V48
  refine Go.b1 (stB Y B.1 hZ e50 A52 (j := (3 : Int32)) (inb_of S52 ⟨by decide, by decide⟩) rfl rfl (hb B.2 o447.1)) fun T52 h52 Y e52 W52 => ?_
  have N52 := Fr.snoc Y N48 g_a
  have K53 := K49.wr W52 (Or.inl (List.mem_of_getElem? (i := 0) rfl))
  have O53 := O49.wr W52 g_a
  have V52 : Arv Z h52 a ka .byte (9 : Int32) ([(.int 0), (.int 0), (.int 0), (.int (nar .byte (Int32.ofNat (48 + (X / 10000) % 100 / 10)))), (.int (Int32.ofNat (48 + X / 10000 % 10)).toInt8.toInt32), (.int (Int32.ofNat (48 + X / 1000 % 10)).toInt8.toInt32), (.int (Int32.ofNat (48 + X / 100 % 10)).toInt8.toInt32), (.int (Int32.ofNat (48 + X / 10 % 10)).toInt8.toInt32), (.int (Int32.ofNat (48 + X / 1 % 10)).toInt8.toInt32)]) (.int 0) := Arv.set A52 q52 S52 M52 G52 J52 (fits_nar_byte _) W52 3 rfl (Nat.le_of_ble_eq_true rfl)
  rw [dig8 (a := (X / 10000) % 100 / 10) (b := X / 100000 % 10) (by omega)] at V52
  refine zgo Y B j38 <| zilN Y B o397 rfl <| zbp Y B o398 (v := (-100)) rfl ?_
  refine zCN Y B o421 (flt (show ¬ ((-100 : Int32) < (-(Int32.ofNat (X / 1000000)))) from (fun q => absurd ((neg_lt_on (a := 100) (by decide) (by omega)).mp q) (by omega)))).2.2.1 ?_
  refine zilN Y B o422 rfl <| zbp Y B o423 (v := 100) rfl ?_
  refine Go.by (fun _ kq_ => XS.idiv Y.here B.1 rfl (hb B.2 o424.1) rfl (by decide) kq_) ?_
  show Go p e below _ _ (mkF m 32 #[iv (-(Int32.ofNat (X / 1000000))), iv 9, rv a, iv (-(Int32.ofNat (X / 1000000))), iv (Int32.ofNat ((X / 10000) % 100)), iv 3, iv 0] [(.int ((-(Int32.ofNat (X / 1000000))) / (100 : Int32)))])
  rw [show ((-(Int32.ofNat (X / 1000000))) / (100 : Int32)) = (-(Int32.ofNat (X / 100000000))) from ((g_div (by omega)).trans (congrArg (fun z => -(Int32.ofNat z)) (by omega)))]
  refine zisN Y B o425 (s3 rfl) <| zilN Y B o426 rfl <| zbp Y B o427 (v := 100) rfl <| zimul Y B o428 rfl <| zilN Y B o429 rfl <| zisub Y B o430 rfl ?_
  rw [show (((-(Int32.ofNat (X / 100000000))) * (100 : Int32)) - (-(Int32.ofNat (X / 1000000)))) = (Int32.ofNat ((X / 1000000) % 100)) from (by have q := g_rem (Y := (X / 1000000)) (by omega); rw [show (X / 1000000) / 100 = (X / 100000000) from by omega] at q; exact q)]
  refine zis Y B o431 (s4 rfl) <| zilN Y B o432 rfl <| zisN Y B o433 (s0 rfl) <| zalN Y B o434 rfl <| zinc Y B o435 rfl (v := 2) rfl (s5 rfl) <| zil Y B o436 rfl ?_
  refine zgs Y B hZ hown (ow51 hw) e52 (OS1.ext O53.2) o437 fun _ Y e54 => ?_
  refine zil Y B o438 rfl ?_
  refine zlb Y B hZ e54 (OD1.ext O53.2) (v := (.int (Int32.ofNat (48 + (X / 1000000) % 100 % 10)))) ⟨on_pos (by omega), on_lt (b := 100) (by omega) (by decide)⟩ (ones_at (by omega)) o439 ?_
  obtain ⟨c56, A56, q56, S56, M56, G56, J56⟩ := id V52
  refine Go.b1 (stB Y B.1 hZ e54 A56 (j := (2 : Int32)) (inb_of S56 ⟨by decide, by decide⟩) rfl rfl (hb B.2 o440.1)) fun T56 h56 Y e56 W56 => ?_
  have N56 := Fr.snoc Y N52 g_a
  have K57 := K53.wr W56 (Or.inl (List.mem_of_getElem? (i := 0) rfl))
  have O57 := O53.wr W56 g_a
  have V56 : Arv Z h56 a ka .byte (9 : Int32) ([(.int 0), (.int 0), (.int (nar .byte (Int32.ofNat (48 + (X / 1000000) % 100 % 10)))), (.int (Int32.ofNat (48 + X / 100000 % 10)).toInt8.toInt32), (.int (Int32.ofNat (48 + X / 10000 % 10)).toInt8.toInt32), (.int (Int32.ofNat (48 + X / 1000 % 10)).toInt8.toInt32), (.int (Int32.ofNat (48 + X / 100 % 10)).toInt8.toInt32), (.int (Int32.ofNat (48 + X / 10 % 10)).toInt8.toInt32), (.int (Int32.ofNat (48 + X / 1 % 10)).toInt8.toInt32)]) (.int 0) := Arv.set A56 q56 S56 M56 G56 J56 (fits_nar_byte _) W56 2 rfl (Nat.le_of_ble_eq_true rfl)
  rw [dig8 (a := (X / 1000000) % 100 % 10) (b := X / 1000000 % 10) (by omega)] at V56
  refine zalN Y B o441 rfl <| zinc Y B o442 rfl (v := 1) rfl (s5 rfl) <| zil Y B o443 rfl ?_
  refine zgs Y B hZ hown (ow217 hw) e56 (OS2.ext O57.2) o444 fun _ Y e58 => ?_
  refine zil Y B o445 rfl ?_
  refine zlb Y B hZ e58 (OD2.ext O57.2) (v := (.int (Int32.ofNat (48 + (X / 1000000) % 100 / 10)))) ⟨on_pos (by omega), on_lt (b := 100) (by omega) (by decide)⟩ (tens_at (by omega)) o446 ?_
  obtain ⟨c60, A60, q60, S60, M60, G60, J60⟩ := id V56
  refine Go.b1 (stB Y B.1 hZ e58 A60 (j := (1 : Int32)) (inb_of S60 ⟨by decide, by decide⟩) rfl rfl (hb B.2 o447.1)) fun T60 h60 Y e60 W60 => ?_
  have N60 := Fr.snoc Y N56 g_a
  have K61 := K57.wr W60 (Or.inl (List.mem_of_getElem? (i := 0) rfl))
  have O61 := O57.wr W60 g_a
  have V60 : Arv Z h60 a ka .byte (9 : Int32) ([(.int 0), (.int (nar .byte (Int32.ofNat (48 + (X / 1000000) % 100 / 10)))), (.int (Int32.ofNat (48 + X / 1000000 % 10)).toInt8.toInt32), (.int (Int32.ofNat (48 + X / 100000 % 10)).toInt8.toInt32), (.int (Int32.ofNat (48 + X / 10000 % 10)).toInt8.toInt32), (.int (Int32.ofNat (48 + X / 1000 % 10)).toInt8.toInt32), (.int (Int32.ofNat (48 + X / 100 % 10)).toInt8.toInt32), (.int (Int32.ofNat (48 + X / 10 % 10)).toInt8.toInt32), (.int (Int32.ofNat (48 + X / 1 % 10)).toInt8.toInt32)]) (.int 0) := Arv.set A60 q60 S60 M60 G60 J60 (fits_nar_byte _) W60 1 rfl (Nat.le_of_ble_eq_true rfl)
  rw [dig8 (a := (X / 1000000) % 100 / 10) (b := X / 10000000 % 10) (by omega)] at V60
  refine zgo Y B j38 <| zilN Y B o397 rfl <| zbp Y B o398 (v := (-100)) rfl ?_
  refine zCY Y B j35 (tlt (show (-100 : Int32) < (-(Int32.ofNat (X / 100000000))) from ((neg_lt_on (a := 100) (by decide) (by omega)).mpr (by omega)))).2.2.1 ?_
  refine zalN Y B o399 rfl <| zinc Y B o400 rfl (v := 0) rfl (s5 rfl) <| zil Y B o401 rfl ?_
  refine zgs Y B hZ hown (ow51 hw) e60 (OS1.ext O61.2) o402 fun _ Y e62 => ?_
  refine zilN Y B o403 rfl <| zineg Y B o404 rfl ?_
  rw [show (-(-(Int32.ofNat (X / 100000000)))) = (Int32.ofNat (X / 100000000)) from (neg_neg_on _)]
  refine zlb Y B hZ e62 (OD1.ext O61.2) (v := (.int (Int32.ofNat (48 + (X / 100000000) % 10)))) ⟨on_pos (by omega), on_lt (b := 100) (by omega) (by decide)⟩ (ones_at (by omega)) o405 ?_
  obtain ⟨c64, A64, q64, S64, M64, G64, J64⟩ := id V60
  refine Go.b1 (stB Y B.1 hZ e62 A64 (j := (0 : Int32)) (inb_of S64 ⟨by decide, by decide⟩) rfl rfl (hb B.2 o406.1)) fun T64 h64 Y e64 W64 => ?_
  have N64 := Fr.snoc Y N60 g_a
  have K65 := K61.wr W64 (Or.inl (List.mem_of_getElem? (i := 0) rfl))
  have O65 := O61.wr W64 g_a
  have V64 : Arv Z h64 a ka .byte (9 : Int32) ([(.int (nar .byte (Int32.ofNat (48 + (X / 100000000) % 10)))), (.int (Int32.ofNat (48 + X / 10000000 % 10)).toInt8.toInt32), (.int (Int32.ofNat (48 + X / 1000000 % 10)).toInt8.toInt32), (.int (Int32.ofNat (48 + X / 100000 % 10)).toInt8.toInt32), (.int (Int32.ofNat (48 + X / 10000 % 10)).toInt8.toInt32), (.int (Int32.ofNat (48 + X / 1000 % 10)).toInt8.toInt32), (.int (Int32.ofNat (48 + X / 100 % 10)).toInt8.toInt32), (.int (Int32.ofNat (48 + X / 10 % 10)).toInt8.toInt32), (.int (Int32.ofNat (48 + X / 1 % 10)).toInt8.toInt32)]) (.int 0) := Arv.set A64 q64 S64 M64 G64 J64 (fits_nar_byte _) W64 0 rfl (Nat.le_of_ble_eq_true rfl)
  rw [dig8 (a := (X / 100000000) % 10) (b := X / 100000000 % 10) (by omega)] at V64
  refine zilN Y B o407 rfl <| zbp Y B o408 (v := (-9)) rfl ?_
  refine zCY Y B j36 (flt (show ¬ ((-(Int32.ofNat (X / 100000000))) < (-9 : Int32)) from (fun q => absurd ((neg_lt_on (b := 9) (by omega) (by decide)).mp q) (by omega)))).2.1 ?_
  refine zil Y B o409 rfl <| zY Y B j37 (by decide) ?_
  refine zil Y B o410 rfl ?_
  exact zrI Y B hret hlk o411 e64 ⟨rfl, N64, K65, V64⟩ rfl rfl
def Q_getch10 (Z : State) (X : Nat) (a : Addr) (ka : ClassId) (on : Addr) (ko : ClassId) (te : Addr) (ke : ClassId) (h0 : Heap) (n0 : Nat) : QT := fun rv hE LE => rv = some (.int 0) ∧ Fr n0 LE ∧ Keep h0 hE [a] ∧ (Arv Z hE a ka .byte (10 : Int32) (B8 (D 10 X)) (.int 0))
theorem rm_getch10 (l : Launch) (Z : State) (a0 : Array Value) (hw : HW a0 Z) (ws : List Jvm.Cond) (X : Nat) (a : Addr) (ka : ClassId) (on : Addr) (ko : ClassId) (te : Addr) (ke : ClassId) (h0 : Heap) (n0 : Nat) (Z0 : n0 ≤ h0.size) (HX : X < 2 ^ 31) (HW : WD X 10) (g_a : n0 ≤ a) (VA : Arv Z h0 a ka .byte (10 : Int32) ([(.int 0), (.int 0), (.int 0), (.int 0), (.int 0), (.int 0), (.int 0), (.int 0), (.int 0), (.int 0)]) (.int 0)) (OS1 : Sta Z Z.heap ss4 ss8 "[B" (.ref on)) (OD1 : Arv Z Z.heap on ko .byte (100 : Int32) ONES (.int 0)) (OS2 : Sta Z Z.heap ss4 ss9 "[B" (.ref te)) (OD2 : Arv Z Z.heap te ke .byte (100 : Int32) TENS (.int 0)) (X00 : Old Z n0 h0) :
    MF l Z mn32 (Jvm.Cond.code mn32 cB32 7 (Option.some Jvm.ClassFile.FieldType.int)) ws Ro0 #[(.int (Int32.ofNat X)), (.int 10), (.ref a)] h0 (Q_getch10 Z X a ka on ko te ke h0 n0) := by
  refine MF.of ss4 rfl #[iv (Int32.ofNat X), iv 10, rv a, un, un, un, un] (plainFor_of_name opn_7) (fun _ => rfl) ?_
  intro p e s m below meth c _ hZ hh B hml hret hlk hown hnm Y e0
  have N0 := Fr.nil n0
  have K0 := Keep.refl h0 [a]
  obtain ⟨-, -, hu0, hl0⟩ := HW
  have hu : X < 10000000000 := hu0
  have hl : 1000000000 ≤ X := hl0.resolve_left (by decide)
  refine zilN Y B o387 rfl <| zis Y B o388 (s5 rfl) <| zilN Y B o389 rfl ?_
  refine zY Y B j34 ((if0 _ _).trans (flt (show ¬ ((Int32.ofNat X) < (0 : Int32)) from (on_pos HX))).2.1) ?_
  refine zc0 Y B o390 <| zis Y B o391 (s6 rfl) <| zil Y B o392 rfl <| zN Y B o393 (by decide) ?_
  refine zilN Y B o394 rfl <| zineg Y B o395 rfl <| zisN Y B o396 (s0 rfl) <| zilN Y B o397 rfl <| zbp Y B o398 (v := (-100)) rfl ?_
  refine zCN Y B o421 (flt (show ¬ ((-100 : Int32) < (-(Int32.ofNat X))) from (fun q => absurd ((neg_lt_on (a := 100) (by decide) (by omega)).mp q) (by omega)))).2.2.1 ?_
  refine zilN Y B o422 rfl <| zbp Y B o423 (v := 100) rfl ?_
  refine Go.by (fun _ kq_ => XS.idiv Y.here B.1 rfl (hb B.2 o424.1) rfl (by decide) kq_) ?_
  show Go p e below _ _ (mkF m 32 #[iv (-(Int32.ofNat X)), iv 10, rv a, un, un, iv 10, iv 0] [(.int ((-(Int32.ofNat X)) / (100 : Int32)))])
  rw [show ((-(Int32.ofNat X)) / (100 : Int32)) = (-(Int32.ofNat (X / 100))) from ((g_div (by omega)).trans (congrArg (fun z => -(Int32.ofNat z)) (by omega)))]
  refine zisN Y B o425 (s3 rfl) <| zilN Y B o426 rfl <| zbp Y B o427 (v := 100) rfl <| zimul Y B o428 rfl <| zilN Y B o429 rfl <| zisub Y B o430 rfl ?_
  rw [show (((-(Int32.ofNat (X / 100))) * (100 : Int32)) - (-(Int32.ofNat X))) = (Int32.ofNat (X % 100)) from (by have q := g_rem (Y := X) (by omega); rw [show X / 100 = (X / 100) from by omega] at q; exact q)]
  refine zis Y B o431 (s4 rfl) <| zilN Y B o432 rfl <| zisN Y B o433 (s0 rfl) <| zalN Y B o434 rfl <| zinc Y B o435 rfl (v := 9) rfl (s5 rfl) <| zil Y B o436 rfl ?_
  refine zgs Y B hZ hown (ow51 hw) e0 (OS1.ext X00.2) o437 fun _ Y e30 => ?_
  refine zil Y B o438 rfl ?_
  refine zlb Y B hZ e30 (OD1.ext X00.2) (v := (.int (Int32.ofNat (48 + X % 100 % 10)))) ⟨on_pos (by omega), on_lt (b := 100) (by omega) (by decide)⟩ (ones_at (by omega)) o439 ?_
  obtain ⟨c32, A32, q32, S32, M32, G32, J32⟩ := id VA
  refine Go.b1 (stB Y B.1 hZ e30 A32 (j := (9 : Int32)) (inb_of S32 ⟨by decide, by decide⟩) rfl rfl (hb B.2 o440.1)) fun T32 h32 Y e32 W32 => ?_
  have N32 := Fr.snoc Y N0 g_a
  have K33 := K0.wr W32 (Or.inl (List.mem_of_getElem? (i := 0) rfl))
  have O33 := X00.wr W32 g_a
  have V32 : Arv Z h32 a ka .byte (10 : Int32) ([(.int 0), (.int 0), (.int 0), (.int 0), (.int 0), (.int 0), (.int 0), (.int 0), (.int 0), (.int (nar .byte (Int32.ofNat (48 + X % 100 % 10))))]) (.int 0) := Arv.set A32 q32 S32 M32 G32 J32 (fits_nar_byte _) W32 9 rfl (Nat.le_of_ble_eq_true rfl)
  rw [dig8 (a := X % 100 % 10) (b := X / 1 % 10) (by omega)] at V32
  refine zalN Y B o441 rfl <| zinc Y B o442 rfl (v := 8) rfl (s5 rfl) <| zil Y B o443 rfl ?_
  refine zgs Y B hZ hown (ow217 hw) e32 (OS2.ext O33.2) o444 fun _ Y e34 => ?_
  refine zil Y B o445 rfl ?_
  refine zlb Y B hZ e34 (OD2.ext O33.2) (v := (.int (Int32.ofNat (48 + X % 100 / 10)))) ⟨on_pos (by omega), on_lt (b := 100) (by omega) (by decide)⟩ (tens_at (by omega)) o446 ?_
  obtain ⟨c36, A36, q36, S36, M36, G36, J36⟩ := id V32
  refine Go.b1 (stB Y B.1 hZ e34 A36 (j := (8 : Int32)) (inb_of S36 ⟨by decide, by decide⟩) rfl rfl (hb B.2 o447.1)) fun T36 h36 Y e36 W36 => ?_
  have N36 := Fr.snoc Y N32 g_a
  have K37 := K33.wr W36 (Or.inl (List.mem_of_getElem? (i := 0) rfl))
  have O37 := O33.wr W36 g_a
  have V36 : Arv Z h36 a ka .byte (10 : Int32) ([(.int 0), (.int 0), (.int 0), (.int 0), (.int 0), (.int 0), (.int 0), (.int 0), (.int (nar .byte (Int32.ofNat (48 + X % 100 / 10)))), (.int (Int32.ofNat (48 + X / 1 % 10)).toInt8.toInt32)]) (.int 0) := Arv.set A36 q36 S36 M36 G36 J36 (fits_nar_byte _) W36 8 rfl (Nat.le_of_ble_eq_true rfl)
  rw [dig8 (a := X % 100 / 10) (b := X / 10 % 10) (by omega)] at V36
  refine zgo Y B j38 <| zilN Y B o397 rfl <| zbp Y B o398 (v := (-100)) rfl ?_
  refine zCN Y B o421 (flt (show ¬ ((-100 : Int32) < (-(Int32.ofNat (X / 100)))) from (fun q => absurd ((neg_lt_on (a := 100) (by decide) (by omega)).mp q) (by omega)))).2.2.1 ?_
  refine zilN Y B o422 rfl <| zbp Y B o423 (v := 100) rfl ?_
  refine Go.by (fun _ kq_ => XS.idiv Y.here B.1 rfl (hb B.2 o424.1) rfl (by decide) kq_) ?_
  show Go p e below _ _ (mkF m 32 #[iv (-(Int32.ofNat (X / 100))), iv 10, rv a, iv (-(Int32.ofNat (X / 100))), iv (Int32.ofNat (X % 100)), iv 8, iv 0] [(.int ((-(Int32.ofNat (X / 100))) / (100 : Int32)))])
  rw [show ((-(Int32.ofNat (X / 100))) / (100 : Int32)) = (-(Int32.ofNat (X / 10000))) from ((g_div (by omega)).trans (congrArg (fun z => -(Int32.ofNat z)) (by omega)))]
  refine zisN Y B o425 (s3 rfl) <| zilN Y B o426 rfl <| zbp Y B o427 (v := 100) rfl <| zimul Y B o428 rfl <| zilN Y B o429 rfl <| zisub Y B o430 rfl ?_
  rw [show (((-(Int32.ofNat (X / 10000))) * (100 : Int32)) - (-(Int32.ofNat (X / 100)))) = (Int32.ofNat ((X / 100) % 100)) from (by have q := g_rem (Y := (X / 100)) (by omega); rw [show (X / 100) / 100 = (X / 10000) from by omega] at q; exact q)]
  refine zis Y B o431 (s4 rfl) <| zilN Y B o432 rfl <| zisN Y B o433 (s0 rfl) <| zalN Y B o434 rfl <| zinc Y B o435 rfl (v := 7) rfl (s5 rfl) <| zil Y B o436 rfl ?_
  refine zgs Y B hZ hown (ow51 hw) e36 (OS1.ext O37.2) o437 fun _ Y e38 => ?_
  refine zil Y B o438 rfl ?_
  refine zlb Y B hZ e38 (OD1.ext O37.2) (v := (.int (Int32.ofNat (48 + (X / 100) % 100 % 10)))) ⟨on_pos (by omega), on_lt (b := 100) (by omega) (by decide)⟩ (ones_at (by omega)) o439 ?_
  obtain ⟨c40, A40, q40, S40, M40, G40, J40⟩ := id V36
  refine Go.b1 (stB Y B.1 hZ e38 A40 (j := (7 : Int32)) (inb_of S40 ⟨by decide, by decide⟩) rfl rfl (hb B.2 o440.1)) fun T40 h40 Y e40 W40 => ?_
  have N40 := Fr.snoc Y N36 g_a
  have K41 := K37.wr W40 (Or.inl (List.mem_of_getElem? (i := 0) rfl))
  have O41 := O37.wr W40 g_a
  have V40 : Arv Z h40 a ka .byte (10 : Int32) ([(.int 0), (.int 0), (.int 0), (.int 0), (.int 0), (.int 0), (.int 0), (.int (nar .byte (Int32.ofNat (48 + (X / 100) % 100 % 10)))), (.int (Int32.ofNat (48 + X / 10 % 10)).toInt8.toInt32), (.int (Int32.ofNat (48 + X / 1 % 10)).toInt8.toInt32)]) (.int 0) := Arv.set A40 q40 S40 M40 G40 J40 (fits_nar_byte _) W40 7 rfl (Nat.le_of_ble_eq_true rfl)
  rw [dig8 (a := (X / 100) % 100 % 10) (b := X / 100 % 10) (by omega)] at V40
  refine zalN Y B o441 rfl <| zinc Y B o442 rfl (v := 6) rfl (s5 rfl) <| zil Y B o443 rfl ?_
  refine zgs Y B hZ hown (ow217 hw) e40 (OS2.ext O41.2) o444 fun _ Y e42 => ?_
  refine zil Y B o445 rfl ?_
  refine zlb Y B hZ e42 (OD2.ext O41.2) (v := (.int (Int32.ofNat (48 + (X / 100) % 100 / 10)))) ⟨on_pos (by omega), on_lt (b := 100) (by omega) (by decide)⟩ (tens_at (by omega)) o446 ?_
  obtain ⟨c44, A44, q44, S44, M44, G44, J44⟩ := id V40
  refine Go.b1 (stB Y B.1 hZ e42 A44 (j := (6 : Int32)) (inb_of S44 ⟨by decide, by decide⟩) rfl rfl (hb B.2 o447.1)) fun T44 h44 Y e44 W44 => ?_
  have N44 := Fr.snoc Y N40 g_a
  have K45 := K41.wr W44 (Or.inl (List.mem_of_getElem? (i := 0) rfl))
  have O45 := O41.wr W44 g_a
  have V44 : Arv Z h44 a ka .byte (10 : Int32) ([(.int 0), (.int 0), (.int 0), (.int 0), (.int 0), (.int 0), (.int (nar .byte (Int32.ofNat (48 + (X / 100) % 100 / 10)))), (.int (Int32.ofNat (48 + X / 100 % 10)).toInt8.toInt32), (.int (Int32.ofNat (48 + X / 10 % 10)).toInt8.toInt32), (.int (Int32.ofNat (48 + X / 1 % 10)).toInt8.toInt32)]) (.int 0) := Arv.set A44 q44 S44 M44 G44 J44 (fits_nar_byte _) W44 6 rfl (Nat.le_of_ble_eq_true rfl)
  rw [dig8 (a := (X / 100) % 100 / 10) (b := X / 1000 % 10) (by omega)] at V44
  refine zgo Y B j38 <| zilN Y B o397 rfl <| zbp Y B o398 (v := (-100)) rfl ?_
  refine zCN Y B o421 (flt (show ¬ ((-100 : Int32) < (-(Int32.ofNat (X / 10000)))) from (fun q => absurd ((neg_lt_on (a := 100) (by decide) (by omega)).mp q) (by omega)))).2.2.1 ?_
  refine zilN Y B o422 rfl <| zbp Y B o423 (v := 100) rfl ?_
  refine Go.by (fun _ kq_ => XS.idiv Y.here B.1 rfl (hb B.2 o424.1) rfl (by decide) kq_) ?_
  show Go p e below _ _ (mkF m 32 #[iv (-(Int32.ofNat (X / 10000))), iv 10, rv a, iv (-(Int32.ofNat (X / 10000))), iv (Int32.ofNat ((X / 100) % 100)), iv 6, iv 0] [(.int ((-(Int32.ofNat (X / 10000))) / (100 : Int32)))])
  rw [show ((-(Int32.ofNat (X / 10000))) / (100 : Int32)) = (-(Int32.ofNat (X / 1000000))) from ((g_div (by omega)).trans (congrArg (fun z => -(Int32.ofNat z)) (by omega)))]
  refine zisN Y B o425 (s3 rfl) <| zilN Y B o426 rfl <| zbp Y B o427 (v := 100) rfl <| zimul Y B o428 rfl <| zilN Y B o429 rfl <| zisub Y B o430 rfl ?_
  rw [show (((-(Int32.ofNat (X / 1000000))) * (100 : Int32)) - (-(Int32.ofNat (X / 10000)))) = (Int32.ofNat ((X / 10000) % 100)) from (by have q := g_rem (Y := (X / 10000)) (by omega); rw [show (X / 10000) / 100 = (X / 1000000) from by omega] at q; exact q)]
  refine zis Y B o431 (s4 rfl) <| zilN Y B o432 rfl <| zisN Y B o433 (s0 rfl) <| zalN Y B o434 rfl <| zinc Y B o435 rfl (v := 5) rfl (s5 rfl) <| zil Y B o436 rfl ?_
  refine zgs Y B hZ hown (ow51 hw) e44 (OS1.ext O45.2) o437 fun _ Y e46 => ?_
  refine zil Y B o438 rfl ?_
  refine zlb Y B hZ e46 (OD1.ext O45.2) (v := (.int (Int32.ofNat (48 + (X / 10000) % 100 % 10)))) ⟨on_pos (by omega), on_lt (b := 100) (by omega) (by decide)⟩ (ones_at (by omega)) o439 ?_
  obtain ⟨c48, A48, q48, S48, M48, G48, J48⟩ := id V44
  refine Go.b1 (stB Y B.1 hZ e46 A48 (j := (5 : Int32)) (inb_of S48 ⟨by decide, by decide⟩) rfl rfl (hb B.2 o440.1)) fun T48 h48 Y e48 W48 => ?_
  have N48 := Fr.snoc Y N44 g_a
  have K49 := K45.wr W48 (Or.inl (List.mem_of_getElem? (i := 0) rfl))
  have O49 := O45.wr W48 g_a
  have V48 : Arv Z h48 a ka .byte (10 : Int32) ([(.int 0), (.int 0), (.int 0), (.int 0), (.int 0), (.int (nar .byte (Int32.ofNat (48 + (X / 10000) % 100 % 10)))), (.int (Int32.ofNat (48 + X / 1000 % 10)).toInt8.toInt32), (.int (Int32.ofNat (48 + X / 100 % 10)).toInt8.toInt32), (.int (Int32.ofNat (48 + X / 10 % 10)).toInt8.toInt32), (.int (Int32.ofNat (48 + X / 1 % 10)).toInt8.toInt32)]) (.int 0) := Arv.set A48 q48 S48 M48 G48 J48 (fits_nar_byte _) W48 5 rfl (Nat.le_of_ble_eq_true rfl)
  rw [dig8 (a := (X / 10000) % 100 % 10) (b := X / 10000 % 10) (by omega)] at V48
  refine zalN Y B o441 rfl <| zinc Y B o442 rfl (v := 4) rfl (s5 rfl) <| zil Y B o443 rfl ?_
  refine zgs Y B hZ hown (ow217 hw) e48 (OS2.ext O49.2) o444 fun _ Y e50 => ?_
  refine zil Y B o445 rfl ?_
  refine zlb Y B hZ e50 (OD2.ext O49.2) (v := (.int (Int32.ofNat (48 + (X / 10000) % 100 / 10)))) ⟨on_pos (by omega), on_lt (b := 100) (by omega) (by decide)⟩ (tens_at (by omega)) o446 ?_
  obtain ⟨c52, A52, q52, S52, M52, G52, J52⟩ := id V48
  refine Go.b1 (stB Y B.1 hZ e50 A52 (j := (4 : Int32)) (inb_of S52 ⟨by decide, by decide⟩) rfl rfl (hb B.2 o447.1)) fun T52 h52 Y e52 W52 => ?_
  have N52 := Fr.snoc Y N48 g_a
  have K53 := K49.wr W52 (Or.inl (List.mem_of_getElem? (i := 0) rfl))
  have O53 := O49.wr W52 g_a
  have V52 : Arv Z h52 a ka .byte (10 : Int32) ([(.int 0), (.int 0), (.int 0), (.int 0), (.int (nar .byte (Int32.ofNat (48 + (X / 10000) % 100 / 10)))), (.int (Int32.ofNat (48 + X / 10000 % 10)).toInt8.toInt32), (.int (Int32.ofNat (48 + X / 1000 % 10)).toInt8.toInt32), (.int (Int32.ofNat (48 + X / 100 % 10)).toInt8.toInt32), (.int (Int32.ofNat (48 + X / 10 % 10)).toInt8.toInt32), (.int (Int32.ofNat (48 + X / 1 % 10)).toInt8.toInt32)]) (.int 0) := Arv.set A52 q52 S52 M52 G52 J52 (fits_nar_byte _) W52 4 rfl (Nat.le_of_ble_eq_true rfl)
  rw [dig8 (a := (X / 10000) % 100 / 10) (b := X / 100000 % 10) (by omega)] at V52
  refine zgo Y B j38 <| zilN Y B o397 rfl <| zbp Y B o398 (v := (-100)) rfl ?_
  refine zCN Y B o421 (flt (show ¬ ((-100 : Int32) < (-(Int32.ofNat (X / 1000000)))) from (fun q => absurd ((neg_lt_on (a := 100) (by decide) (by omega)).mp q) (by omega)))).2.2.1 ?_
  refine zilN Y B o422 rfl <| zbp Y B o423 (v := 100) rfl ?_
  refine Go.by (fun _ kq_ => XS.idiv Y.here B.1 rfl (hb B.2 o424.1) rfl (by decide) kq_) ?_
  show Go p e below _ _ (mkF m 32 #[iv (-(Int32.ofNat (X / 1000000))), iv 10, rv a, iv (-(Int32.ofNat (X / 1000000))), iv (Int32.ofNat ((X / 10000) % 100)), iv 4, iv 0] [(.int ((-(Int32.ofNat (X / 1000000))) / (100 : Int32)))])
  rw [show ((-(Int32.ofNat (X / 1000000))) / (100 : Int32)) = (-(Int32.ofNat (X / 100000000))) from ((g_div (by omega)).trans (congrArg (fun z => -(Int32.ofNat z)) (by omega)))]
  refine zisN Y B o425 (s3 rfl) <| zilN Y B o426 rfl <| zbp Y B o427 (v := 100) rfl <| zimul Y B o428 rfl <| zilN Y B o429 rfl <| zisub Y B o430 rfl ?_
  rw [show (((-(Int32.ofNat (X / 100000000))) * (100 : Int32)) - (-(Int32.ofNat (X / 1000000)))) = (Int32.ofNat ((X / 1000000) % 100)) from (by have q := g_rem (Y := (X / 1000000)) (by omega); rw [show (X / 1000000) / 100 = (X / 100000000) from by omega] at q; exact q)]
  refine zis Y B o431 (s4 rfl) <| zilN Y B o432 rfl <| zisN Y B o433 (s0 rfl) <| zalN Y B o434 rfl <| zinc Y B o435 rfl (v := 3) rfl (s5 rfl) <| zil Y B o436 rfl ?_
  refine zgs Y B hZ hown (ow51 hw) e52 (OS1.ext O53.2) o437 fun _ Y e54 => ?_
  refine zil Y B o438 rfl ?_
  refine zlb Y B hZ e54 (OD1.ext O53.2) (v := (.int (Int32.ofNat (48 + (X / 1000000) % 100 % 10)))) ⟨on_pos (by omega), on_lt (b := 100) (by omega) (by decide)⟩ (ones_at (by omega)) o439 ?_
  obtain ⟨c56, A56, q56, S56, M56, G56, J56⟩ := id V52
  refine Go.b1 (stB Y B.1 hZ e54 A56 (j := (3 : Int32)) (inb_of S56 ⟨by decide, by decide⟩) rfl rfl (hb B.2 o440.1)) fun T56 h56 Y e56 W56 => ?_
  have N56 := Fr.snoc Y N52 g_a
  have K57 := K53.wr W56 (Or.inl (List.mem_of_getElem? (i := 0) rfl))
  have O57 := O53.wr W56 g_a
  have V56 : Arv Z h56 a ka .byte (10 : Int32) ([(.int 0), (.int 0), (.int 0), (.int (nar .byte (Int32.ofNat (48 + (X / 1000000) % 100 % 10)))), (.int (Int32.ofNat (48 + X / 100000 % 10)).toInt8.toInt32), (.int (Int32.ofNat (48 + X / 10000 % 10)).toInt8.toInt32), (.int (Int32.ofNat (48 + X / 1000 % 10)).toInt8.toInt32), (.int (Int32.ofNat (48 + X / 100 % 10)).toInt8.toInt32), (.int (Int32.ofNat (48 + X / 10 % 10)).toInt8.toInt32), (.int (Int32.ofNat (48 + X / 1 % 10)).toInt8.toInt32)]) (.int 0) := Arv.set A56 q56 S56 M56 G56 J56 (fits_nar_byte _) W56 3 rfl (Nat.le_of_ble_eq_true rfl)
  rw [dig8 (a := (X / 1000000) % 100 % 10) (b := X / 1000000 % 10) (by omega)] at V56
  refine zalN Y B o441 rfl <| zinc Y B o442 rfl (v := 2) rfl (s5 rfl) <| zil Y B o443 rfl ?_
  refine zgs Y B hZ hown (ow217 hw) e56 (OS2.ext O57.2) o444 fun _ Y e58 => ?_
  refine zil Y B o445 rfl ?_
  refine zlb Y B hZ e58 (OD2.ext O57.2) (v := (.int (Int32.ofNat (48 + (X / 1000000) % 100 / 10)))) ⟨on_pos (by omega), on_lt (b := 100) (by omega) (by decide)⟩ (tens_at (by omega)) o446 ?_
  obtain ⟨c60, A60, q60, S60, M60, G60, J60⟩ := id V56
  refine Go.b1 (stB Y B.1 hZ e58 A60 (j := (2 : Int32)) (inb_of S60 ⟨by decide, by decide⟩) rfl rfl (hb B.2 o447.1)) fun T60 h60 Y e60 W60 => ?_
  have N60 := Fr.snoc Y N56 g_a
  have K61 := K57.wr W60 (Or.inl (List.mem_of_getElem? (i := 0) rfl))
  have O61 := O57.wr W60 g_a
  have V60 : Arv Z h60 a ka .byte (10 : Int32) ([(.int 0), (.int 0), (.int (nar .byte (Int32.ofNat (48 + (X / 1000000) % 100 / 10)))), (.int (Int32.ofNat (48 + X / 1000000 % 10)).toInt8.toInt32), (.int (Int32.ofNat (48 + X / 100000 % 10)).toInt8.toInt32), (.int (Int32.ofNat (48 + X / 10000 % 10)).toInt8.toInt32), (.int (Int32.ofNat (48 + X / 1000 % 10)).toInt8.toInt32), (.int (Int32.ofNat (48 + X / 100 % 10)).toInt8.toInt32), (.int (Int32.ofNat (48 + X / 10 % 10)).toInt8.toInt32), (.int (Int32.ofNat (48 + X / 1 % 10)).toInt8.toInt32)]) (.int 0) := Arv.set A60 q60 S60 M60 G60 J60 (fits_nar_byte _) W60 2 rfl (Nat.le_of_ble_eq_true rfl)
  rw [dig8 (a := (X / 1000000) % 100 / 10) (b := X / 10000000 % 10) (by omega)] at V60
  refine zgo Y B j38 <| zilN Y B o397 rfl <| zbp Y B o398 (v := (-100)) rfl ?_
  refine zCY Y B j35 (tlt (show (-100 : Int32) < (-(Int32.ofNat (X / 100000000))) from ((neg_lt_on (a := 100) (by decide) (by omega)).mpr (by omega)))).2.2.1 ?_
  refine zalN Y B o399 rfl <| zinc Y B o400 rfl (v := 1) rfl (s5 rfl) <| zil Y B o401 rfl ?_
  refine zgs Y B hZ hown (ow51 hw) e60 (OS1.ext O61.2) o402 fun _ Y e62 => ?_
  refine zilN Y B o403 rfl <| zineg Y B o404 rfl ?_
  rw [show (-(-(Int32.ofNat (X / 100000000)))) = (Int32.ofNat (X / 100000000)) from (neg_neg_on _)]
  refine zlb Y B hZ e62 (OD1.ext O61.2) (v := (.int (Int32.ofNat (48 + (X / 100000000) % 10)))) ⟨on_pos (by omega), on_lt (b := 100) (by omega) (by decide)⟩ (ones_at (by omega)) o405 ?_
  obtain ⟨c64, A64, q64, S64, M64, G64, J64⟩ := id V60
  refine Go.b1 (stB Y B.1 hZ e62 A64 (j := (1 : Int32)) (inb_of S64 ⟨by decide, by decide⟩) rfl rfl (hb B.2 o406.1)) fun T64 h64 Y e64 W64 => ?_
  have N64 := Fr.snoc Y N60 g_a
  have K65 := K61.wr W64 (Or.inl (List.mem_of_getElem? (i := 0) rfl))
  have O65 := O61.wr W64 g_a
  have V64 : Arv Z h64 a ka .byte (10 : Int32) ([(.int 0), (.int (nar .byte (Int32.ofNat (48 + (X / 100000000) % 10)))), (.int (Int32.ofNat (48 + X / 10000000 % 10)).toInt8.toInt32), (.int (Int32.ofNat (48 + X / 1000000 % 10)).toInt8.toInt32), (.int (Int32.ofNat (48 + X / 100000 % 10)).toInt8.toInt32), (.int (Int32.ofNat (48 + X / 10000 % 10)).toInt8.toInt32), (.int (Int32.ofNat (48 + X / 1000 % 10)).toInt8.toInt32), (.int (Int32.ofNat (48 + X / 100 % 10)).toInt8.toInt32), (.int (Int32.ofNat (48 + X / 10 % 10)).toInt8.toInt32), (.int (Int32.ofNat (48 + X / 1 % 10)).toInt8.toInt32)]) (.int 0) := Arv.set A64 q64 S64 M64 G64 J64 (fits_nar_byte _) W64 1 rfl (Nat.le_of_ble_eq_true rfl)
  rw [dig8 (a := (X / 100000000) % 10) (b := X / 100000000 % 10) (by omega)] at V64
  refine zilN Y B o407 rfl <| zbp Y B o408 (v := (-9)) rfl ?_
  refine zCN Y B o412 (tlt (show (-(Int32.ofNat (X / 100000000))) < (-9 : Int32) from ((neg_lt_on (b := 9) (by omega) (by decide)).mpr (by omega)))).2.1 ?_
  refine zalN Y B o413 rfl <| zinc Y B o414 rfl (v := 0) rfl (s5 rfl) <| zil Y B o415 rfl ?_
  refine zgs Y B hZ hown (ow217 hw) e64 (OS2.ext O65.2) o416 fun _ Y e66 => ?_
  refine zilN Y B o417 rfl <| zineg Y B o418 rfl ?_
  rw [show (-(-(Int32.ofNat (X / 100000000)))) = (Int32.ofNat (X / 100000000)) from (neg_neg_on _)]
  refine zlb Y B hZ e66 (OD2.ext O65.2) (v := (.int (Int32.ofNat (48 + (X / 100000000) / 10)))) ⟨on_pos (by omega), on_lt (b := 100) (by omega) (by decide)⟩ (tens_at (by omega)) o419 ?_
  obtain ⟨c68, A68, q68, S68, M68, G68, J68⟩ := id V64
  refine Go.b1 (stB Y B.1 hZ e66 A68 (j := (0 : Int32)) (inb_of S68 ⟨by decide, by decide⟩) rfl rfl (hb B.2 o420.1)) fun T68 h68 Y e68 W68 => ?_
  have N68 := Fr.snoc Y N64 g_a
  have K69 := K65.wr W68 (Or.inl (List.mem_of_getElem? (i := 0) rfl))
  have O69 := O65.wr W68 g_a
  have V68 : Arv Z h68 a ka .byte (10 : Int32) ([(.int (nar .byte (Int32.ofNat (48 + (X / 100000000) / 10)))), (.int (Int32.ofNat (48 + X / 100000000 % 10)).toInt8.toInt32), (.int (Int32.ofNat (48 + X / 10000000 % 10)).toInt8.toInt32), (.int (Int32.ofNat (48 + X / 1000000 % 10)).toInt8.toInt32), (.int (Int32.ofNat (48 + X / 100000 % 10)).toInt8.toInt32), (.int (Int32.ofNat (48 + X / 10000 % 10)).toInt8.toInt32), (.int (Int32.ofNat (48 + X / 1000 % 10)).toInt8.toInt32), (.int (Int32.ofNat (48 + X / 100 % 10)).toInt8.toInt32), (.int (Int32.ofNat (48 + X / 10 % 10)).toInt8.toInt32), (.int (Int32.ofNat (48 + X / 1 % 10)).toInt8.toInt32)]) (.int 0) := Arv.set A68 q68 S68 M68 G68 J68 (fits_nar_byte _) W68 0 rfl (Nat.le_of_ble_eq_true rfl)
  rw [dig8 (a := (X / 100000000) / 10) (b := X / 1000000000 % 10) (by omega)] at V68
  refine zil Y B o409 rfl <| zY Y B j37 (by decide) ?_
  refine zil Y B o410 rfl ?_
  exact zrI Y B hret hlk o411 e68 ⟨rfl, N68, K69, V68⟩ rfl rfl
def Q_itostr (Z : State) (X : Nat) (on : Addr) (ko : ClassId) (te : Addr) (ke : ClassId) (G1 : Int32) (h0 : Heap) (n0 : Nat) : QT := fun rv hE LE => ∃ k : Nat, ∃ x : Addr, ∃ t : Addr, ∃ kt : ClassId, rv = some (.ref x) ∧ Fr n0 LE ∧ Keep h0 hE [] ∧ (h0.size ≤ x) ∧ (h0.size ≤ t) ∧ (WD X k) ∧ (Exa Z hE x ss0) ∧ (Fld Z hE x ss0 ss2 "B" (.int 0)) ∧ (Fld Z hE x ss0 ss3 "[B" (.ref t)) ∧ (Arv Z hE t kt .byte (Int32.ofNat (D k X).length) (B8 (D k X)) (.int 0))
theorem rm_itostr (l : Launch) (Z : State) (a0 : Array Value) (hw : HW a0 Z) (ws : List Jvm.Cond) (X : Nat) (on : Addr) (ko : ClassId) (te : Addr) (ke : ClassId) (G1 : Int32) (h0 : Heap) (n0 : Nat) (Z0 : n0 ≤ h0.size) (HX : X < 2 ^ 31) (OS1 : Sta Z Z.heap ss4 ss8 "[B" (.ref on)) (OD1 : Arv Z Z.heap on ko .byte (100 : Int32) ONES (.int 0)) (OS2 : Sta Z Z.heap ss4 ss9 "[B" (.ref te)) (OD2 : Arv Z Z.heap te ke .byte (100 : Int32) TENS (.int 0)) (O2 : Sta Z Z.heap ss0 ss6 "Z" (.int G1)) (P5 : ¬ (G1 = (0 : Int32))) (X00 : Old Z n0 h0) :
    MF l Z mn33 (Jvm.Cond.code mn33 cB33 3 (Option.some (Jvm.ClassFile.FieldType.object ss0))) ws Ro18 #[(.int (Int32.ofNat X))] h0 (Q_itostr Z X on ko te ke G1 h0 n0) := by
  refine MF.of ss4 rfl #[iv (Int32.ofNat X), un, un] (plainFor_of_name opn_7) (fun _ => rfl) ?_
  intro p e s m below meth c _ hZ hh B hml hret hlk hown hnm Y e0
  have N0 := Fr.nil n0
  have K0 := Keep.refl h0 []
  refine zilN Y B o448 rfl ?_
  refine zcs Y B hZ hown (ow44 hw) (ow45 hw) (ow42 hw) (ow46 hw) (by decide) (rm_ssize l Z a0 hw [] X h0 n0 (Nat.le_trans Z0 (Nat.le_refl _)) HX) e0 hml opd_19 rfl o449 rfl rfl rfl rfl rfl fun _ T30 _ Y hQ => ?_
  obtain ⟨k_30, rfl, N30q, e30, P30_0⟩ := hQ
  have N30 := Fr.app N0 N30q
  refine zisN Y B o450 (s1 rfl) ?_
  refine zgs Y B hZ hown (ow47 hw) e30 (O2.ext X00.2) o451 fun _ Y e31 => ?_
  refine zN Y B o452 ((if0 _ _).trans (feq P5).1) ?_
  have hk : k_30 = 1 ∨ k_30 = 2 ∨ k_30 = 3 ∨ k_30 = 4 ∨ k_30 = 5 ∨ k_30 = 6 ∨ k_30 = 7 ∨ k_30 = 8 ∨ k_30 = 9 ∨ k_30 = 10 := by have q := P30_0; omega
  rcases hk with rfl | rfl | rfl | rfl | rfl | rfl | rfl | rfl | rfl | rfl
  · show Go p e below _ _ (mkF m 11 #[iv (Int32.ofNat X), iv 1, un] [])
    refine zilN Y B o453 rfl ?_
    refine znq Y B hZ (aty := .byte) (ow15 hw) e31 o454 (by decide) (cap := 1) (by decide) rfl rfl rfl (ad := "[B") (by decide +kernel) fun T32 h32 k32 b32 g32 Y e32 E32 A32 B32 => ?_
    have K33 := K0.ext E32
    have O33 := X00.ext E32
    have V32 : Arv Z h32 b32 k32 .byte (1 : Int32) [(.int 0)] (.int 0) := (Arv.new A32 (by decide)).pad (pad_rep [] (.int 0) 1)
    refine zasN Y B o455 (s2 rfl) rfl <| zilN Y B o456 rfl <| zilN Y B o457 rfl <| zalN Y B o458 rfl ?_
    refine zcs Y B hZ hown (ow48 hw) (ow49 hw) (ow42 hw) (ow50 hw) (by decide) (rm_getch1 l Z a0 hw [] X b32 k32 on ko te ke h32 n0 (Nat.le_trans Z0 K33.1) HX (P30_0) ((Nat.le_trans (Nat.le_trans Z0 (Nat.le_refl _)) (Nat.le_of_eq g32.symm))) V32 OS1 OD1 OS2 OD2 O33) e32 hml opd_20 rfl o459 rfl rfl rfl rfl rfl fun _ T34 _ Y hQ => ?_
    obtain ⟨rfl, N34q, K34q, P34_0⟩ := hQ
    have N34 := Fr.app N30 N34q
    have K35 := K33.trans K34q (allS (Or.inr (Nat.le_trans (Nat.le_refl _) (Nat.le_of_eq g32.symm))) all0)
    have O35 := O33.keep K34q (allS (Nat.le_trans (Nat.le_trans Z0 (Nat.le_refl _)) (Nat.le_of_eq g32.symm)) all0)
    refine zpop Y B o460 rfl ?_
    refine zno Y B hZ hown (ow52 hw) (ow11 hw) (ow3 hw) rfl o461 rfl rfl fun T36 h36 b36 g36 Y e36 E36 A36 D36 U36 => ?_
    have K37 := K35.ext E36
    have O37 := O35.ext E36
    refine zdup Y B o462 rfl <| zalN Y B o463 rfl <| zc0 Y B o464 ?_
    refine zci Y B hZ rfl hown (ow53 hw) (ow17 hw) (ow3 hw) (ow19 hw) (by decide) (rm_siniBB l Z a0 hw [] b36 b32 h36 n0 (Nat.le_trans Z0 K37.1) A36 ((Nat.le_trans (Nat.le_trans Z0 K35.1) (Nat.le_of_eq g36.symm))) (D36 (Or.inr (ow24 hw)) (ty := (.array .byte)) (by decide)) (D36 (Or.inr (ow26 hw)) (ty := .byte) (by decide))) e36 hml opd_7 rfl o465 rfl rfl rfl rfl rfl fun _ T38 _ Y hQ => ?_
    obtain ⟨rfl, N38q, K38q, P38_0, P38_1, P38_2⟩ := hQ
    have N38 := Fr.app N34 N38q
    have K39 := K37.trans K38q (allS (Or.inr (Nat.le_trans K35.1 (Nat.le_of_eq g36.symm))) all0)
    have O39 := O37.keep K38q (allS (Nat.le_trans (Nat.le_trans Z0 K35.1) (Nat.le_of_eq g36.symm)) all0)
    have F40 := ((P34_0.ext E36).keep K38q (ninS (Nat.ne_of_lt (Nat.lt_of_lt_of_le (B32.keep K34q).lt (Nat.le_of_eq g36.symm))) nin0))
    exact zrR Y B hret rfl rfl rfl hlk o466 rfl ⟨1, b36, b32, k32, rfl, N38, K39, (Nat.le_trans K35.1 (Nat.le_of_eq g36.symm)), (Nat.le_trans (Nat.le_refl _) (Nat.le_of_eq g32.symm)), (P30_0), P38_0, P38_1, P38_2, F40⟩ rfl rfl
  · show Go p e below _ _ (mkF m 11 #[iv (Int32.ofNat X), iv 2, un] [])
    refine zilN Y B o453 rfl ?_
    refine znq Y B hZ (aty := .byte) (ow15 hw) e31 o454 (by decide) (cap := 2) (by decide) rfl rfl rfl (ad := "[B") (by decide +kernel) fun T41 h41 k41 b41 g41 Y e41 E41 A41 B41 => ?_
    have K42 := K0.ext E41
    have O42 := X00.ext E41
    have V41 : Arv Z h41 b41 k41 .byte (2 : Int32) [(.int 0), (.int 0)] (.int 0) := (Arv.new A41 (by decide)).pad (pad_rep [] (.int 0) 2)
    refine zasN Y B o455 (s2 rfl) rfl <| zilN Y B o456 rfl <| zilN Y B o457 rfl <| zalN Y B o458 rfl ?_
    refine zcs Y B hZ hown (ow48 hw) (ow49 hw) (ow42 hw) (ow50 hw) (by decide) (rm_getch2 l Z a0 hw [] X b41 k41 on ko te ke h41 n0 (Nat.le_trans Z0 K42.1) HX (P30_0) ((Nat.le_trans (Nat.le_trans Z0 (Nat.le_refl _)) (Nat.le_of_eq g41.symm))) V41 OS1 OD1 OS2 OD2 O42) e41 hml opd_20 rfl o459 rfl rfl rfl rfl rfl fun _ T43 _ Y hQ => ?_
    obtain ⟨rfl, N43q, K43q, P43_0⟩ := hQ
    have N43 := Fr.app N30 N43q
    have K44 := K42.trans K43q (allS (Or.inr (Nat.le_trans (Nat.le_refl _) (Nat.le_of_eq g41.symm))) all0)
    have O44 := O42.keep K43q (allS (Nat.le_trans (Nat.le_trans Z0 (Nat.le_refl _)) (Nat.le_of_eq g41.symm)) all0)
    refine zpop Y B o460 rfl ?_
    refine zno Y B hZ hown (ow52 hw) (ow11 hw) (ow3 hw) rfl o461 rfl rfl fun T45 h45 b45 g45 Y e45 E45 A45 D45 U45 => ?_
    have K46 := K44.ext E45
    have O46 := O44.ext E45
    refine zdup Y B o462 rfl <| zalN Y B o463 rfl <| zc0 Y B o464 ?_
    refine zci Y B hZ rfl hown (ow53 hw) (ow17 hw) (ow3 hw) (ow19 hw) (by decide) (rm_siniBB l Z a0 hw [] b45 b41 h45 n0 (Nat.le_trans Z0 K46.1) A45 ((Nat.le_trans (Nat.le_trans Z0 K44.1) (Nat.le_of_eq g45.symm))) (D45 (Or.inr (ow24 hw)) (ty := (.array .byte)) (by decide)) (D45 (Or.inr (ow26 hw)) (ty := .byte) (by decide))) e45 hml opd_7 rfl o465 rfl rfl rfl rfl rfl fun _ T47 _ Y hQ => ?_
    obtain ⟨rfl, N47q, K47q, P47_0, P47_1, P47_2⟩ := hQ
    have N47 := Fr.app N43 N47q
    have K48 := K46.trans K47q (allS (Or.inr (Nat.le_trans K44.1 (Nat.le_of_eq g45.symm))) all0)
    have O48 := O46.keep K47q (allS (Nat.le_trans (Nat.le_trans Z0 K44.1) (Nat.le_of_eq g45.symm)) all0)
    have F49 := ((P43_0.ext E45).keep K47q (ninS (Nat.ne_of_lt (Nat.lt_of_lt_of_le (B41.keep K43q).lt (Nat.le_of_eq g45.symm))) nin0))
    exact zrR Y B hret rfl rfl rfl hlk o466 rfl ⟨2, b45, b41, k41, rfl, N47, K48, (Nat.le_trans K44.1 (Nat.le_of_eq g45.symm)), (Nat.le_trans (Nat.le_refl _) (Nat.le_of_eq g41.symm)), (P30_0), P47_0, P47_1, P47_2, F49⟩ rfl rfl
  · show Go p e below _ _ (mkF m 11 #[iv (Int32.ofNat X), iv 3, un] [])
    refine zilN Y B o453 rfl ?_
    refine znq Y B hZ (aty := .byte) (ow15 hw) e31 o454 (by decide) (cap := 3) (by decide) rfl rfl rfl (ad := "[B") (by decide +kernel) fun T50 h50 k50 b50 g50 Y e50 E50 A50 B50 => ?_
    have K51 := K0.ext E50
    have O51 := X00.ext E50
    have V50 : Arv Z h50 b50 k50 .byte (3 : Int32) [(.int 0), (.int 0), (.int 0)] (.int 0) := (Arv.new A50 (by decide)).pad (pad_rep [] (.int 0) 3)
    refine zasN Y B o455 (s2 rfl) rfl <| zilN Y B o456 rfl <| zilN Y B o457 rfl <| zalN Y B o458 rfl ?_
    refine zcs Y B hZ hown (ow48 hw) (ow49 hw) (ow42 hw) (ow50 hw) (by decide) (rm_getch3 l Z a0 hw [] X b50 k50 on ko te ke h50 n0 (Nat.le_trans Z0 K51.1) HX (P30_0) ((Nat.le_trans (Nat.le_trans Z0 (Nat.le_refl _)) (Nat.le_of_eq g50.symm))) V50 OS1 OD1 OS2 OD2 O51) e50 hml opd_20 rfl o459 rfl rfl rfl rfl rfl fun _ T52 _ Y hQ => ?_
    obtain ⟨rfl, N52q, K52q, P52_0⟩ := hQ
    have N52 := Fr.app N30 N52q
    have K53 := K51.trans K52q (allS (Or.inr (Nat.le_trans (Nat.le_refl _) (Nat.le_of_eq g50.symm))) all0)
    have O53 := O51.keep K52q (allS (Nat.le_trans (Nat.le_trans Z0 (Nat.le_refl _)) (Nat.le_of_eq g50.symm)) all0)
    refine zpop Y B o460 rfl ?_
    refine zno Y B hZ hown (ow52 hw) (ow11 hw) (ow3 hw) rfl o461 rfl rfl fun T54 h54 b54 g54 Y e54 E54 A54 D54 U54 => ?_
    have K55 := K53.ext E54
    have O55 := O53.ext E54
    refine zdup Y B o462 rfl <| zalN Y B o463 rfl <| zc0 Y B o464 ?_
    refine zci Y B hZ rfl hown (ow53 hw) (ow17 hw) (ow3 hw) (ow19 hw) (by decide) (rm_siniBB l Z a0 hw [] b54 b50 h54 n0 (Nat.le_trans Z0 K55.1) A54 ((Nat.le_trans (Nat.le_trans Z0 K53.1) (Nat.le_of_eq g54.symm))) (D54 (Or.inr (ow24 hw)) (ty := (.array .byte)) (by decide)) (D54 (Or.inr (ow26 hw)) (ty := .byte) (by decide))) e54 hml opd_7 rfl o465 rfl rfl rfl rfl rfl fun _ T56 _ Y hQ => ?_
    obtain ⟨rfl, N56q, K56q, P56_0, P56_1, P56_2⟩ := hQ
    have N56 := Fr.app N52 N56q
    have K57 := K55.trans K56q (allS (Or.inr (Nat.le_trans K53.1 (Nat.le_of_eq g54.symm))) all0)
    have O57 := O55.keep K56q (allS (Nat.le_trans (Nat.le_trans Z0 K53.1) (Nat.le_of_eq g54.symm)) all0)
    have F58 := ((P52_0.ext E54).keep K56q (ninS (Nat.ne_of_lt (Nat.lt_of_lt_of_le (B50.keep K52q).lt (Nat.le_of_eq g54.symm))) nin0))
    exact zrR Y B hret rfl rfl rfl hlk o466 rfl ⟨3, b54, b50, k50, rfl, N56, K57, (Nat.le_trans K53.1 (Nat.le_of_eq g54.symm)), (Nat.le_trans (Nat.le_refl _) (Nat.le_of_eq g50.symm)), (P30_0), P56_0, P56_1, P56_2, F58⟩ rfl rfl
  · show Go p e below _ _ (mkF m 11 #[iv (Int32.ofNat X), iv 4, un] [])
    refine zilN Y B o453 rfl ?_
    refine znq Y B hZ (aty := .byte) (ow15 hw) e31 o454 (by decide) (cap := 4) (by decide) rfl rfl rfl (ad := "[B") (by decide +kernel) fun T59 h59 k59 b59 g59 Y e59 E59 A59 B59 => ?_
    have K60 := K0.ext E59
    have O60 := X00.ext E59
    have V59 : Arv Z h59 b59 k59 .byte (4 : Int32) [(.int 0), (.int 0), (.int 0), (.int 0)] (.int 0) := (Arv.new A59 (by decide)).pad (pad_rep [] (.int 0) 4)
    refine zasN Y B o455 (s2 rfl) rfl <| zilN Y B o456 rfl <| zilN Y B o457 rfl <| zalN Y B o458 rfl ?_
    refine zcs Y B hZ hown (ow48 hw) (ow49 hw) (ow42 hw) (ow50 hw) (by decide) (rm_getch4 l Z a0 hw [] X b59 k59 on ko te ke h59 n0 (Nat.le_trans Z0 K60.1) HX (P30_0) ((Nat.le_trans (Nat.le_trans Z0 (Nat.le_refl _)) (Nat.le_of_eq g59.symm))) V59 OS1 OD1 OS2 OD2 O60) e59 hml opd_20 rfl o459 rfl rfl rfl rfl rfl fun _ T61 _ Y hQ => ?_
    obtain ⟨rfl, N61q, K61q, P61_0⟩ := hQ
    have N61 := Fr.app N30 N61q
    have K62 := K60.trans K61q (allS (Or.inr (Nat.le_trans (Nat.le_refl _) (Nat.le_of_eq g59.symm))) all0)
    have O62 := O60.keep K61q (allS (Nat.le_trans (Nat.le_trans Z0 (Nat.le_refl _)) (Nat.le_of_eq g59.symm)) all0)
    refine zpop Y B o460 rfl ?_
    refine zno Y B hZ hown (ow52 hw) (ow11 hw) (ow3 hw) rfl o461 rfl rfl fun T63 h63 b63 g63 Y e63 E63 A63 D63 U63 => ?_
    have K64 := K62.ext E63
    have O64 := O62.ext E63
    refine zdup Y B o462 rfl <| zalN Y B o463 rfl <| zc0 Y B o464 ?_
    refine zci Y B hZ rfl hown (ow53 hw) (ow17 hw) (ow3 hw) (ow19 hw) (by decide) (rm_siniBB l Z a0 hw [] b63 b59 h63 n0 (Nat.le_trans Z0 K64.1) A63 ((Nat.le_trans (Nat.le_trans Z0 K62.1) (Nat.le_of_eq g63.symm))) (D63 (Or.inr (ow24 hw)) (ty := (.array .byte)) (by decide)) (D63 (Or.inr (ow26 hw)) (ty := .byte) (by decide))) e63 hml opd_7 rfl o465 rfl rfl rfl rfl rfl fun _ T65 _ Y hQ => ?_
    obtain ⟨rfl, N65q, K65q, P65_0, P65_1, P65_2⟩ := hQ
    have N65 := Fr.app N61 N65q
    have K66 := K64.trans K65q (allS (Or.inr (Nat.le_trans K62.1 (Nat.le_of_eq g63.symm))) all0)
    have O66 := O64.keep K65q (allS (Nat.le_trans (Nat.le_trans Z0 K62.1) (Nat.le_of_eq g63.symm)) all0)
    have F67 := ((P61_0.ext E63).keep K65q (ninS (Nat.ne_of_lt (Nat.lt_of_lt_of_le (B59.keep K61q).lt (Nat.le_of_eq g63.symm))) nin0))
    exact zrR Y B hret rfl rfl rfl hlk o466 rfl ⟨4, b63, b59, k59, rfl, N65, K66, (Nat.le_trans K62.1 (Nat.le_of_eq g63.symm)), (Nat.le_trans (Nat.le_refl _) (Nat.le_of_eq g59.symm)), (P30_0), P65_0, P65_1, P65_2, F67⟩ rfl rfl
  · show Go p e below _ _ (mkF m 11 #[iv (Int32.ofNat X), iv 5, un] [])
    refine zilN Y B o453 rfl ?_
    refine znq Y B hZ (aty := .byte) (ow15 hw) e31 o454 (by decide) (cap := 5) (by decide) rfl rfl rfl (ad := "[B") (by decide +kernel) fun T68 h68 k68 b68 g68 Y e68 E68 A68 B68 => ?_
    have K69 := K0.ext E68
    have O69 := X00.ext E68
    have V68 : Arv Z h68 b68 k68 .byte (5 : Int32) [(.int 0), (.int 0), (.int 0), (.int 0), (.int 0)] (.int 0) := (Arv.new A68 (by decide)).pad (pad_rep [] (.int 0) 5)
    refine zasN Y B o455 (s2 rfl) rfl <| zilN Y B o456 rfl <| zilN Y B o457 rfl <| zalN Y B o458 rfl ?_
    refine zcs Y B hZ hown (ow48 hw) (ow49 hw) (ow42 hw) (ow50 hw) (by decide) (rm_getch5 l Z a0 hw [] X b68 k68 on ko te ke h68 n0 (Nat.le_trans Z0 K69.1) HX (P30_0) ((Nat.le_trans (Nat.le_trans Z0 (Nat.le_refl _)) (Nat.le_of_eq g68.symm))) V68 OS1 OD1 OS2 OD2 O69) e68 hml opd_20 rfl o459 rfl rfl rfl rfl rfl fun _ T70 _ Y hQ => ?_
    obtain ⟨rfl, N70q, K70q, P70_0⟩ := hQ
    have N70 := Fr.app N30 N70q
    have K71 := K69.trans K70q (allS (Or.inr (Nat.le_trans (Nat.le_refl _) (Nat.le_of_eq g68.symm))) all0)
    have O71 := O69.keep K70q (allS (Nat.le_trans (Nat.le_trans Z0 (Nat.le_refl _)) (Nat.le_of_eq g68.symm)) all0)
    refine zpop Y B o460 rfl ?_
    refine zno Y B hZ hown (ow52 hw) (ow11 hw) (ow3 hw) rfl o461 rfl rfl fun T72 h72 b72 g72 Y e72 E72 A72 D72 U72 => ?_
    have K73 := K71.ext E72
    have O73 := O71.ext E72
    refine zdup Y B o462 rfl <| zalN Y B o463 rfl <| zc0 Y B o464 ?_
    refine zci Y B hZ rfl hown (ow53 hw) (ow17 hw) (ow3 hw) (ow19 hw) (by decide) (rm_siniBB l Z a0 hw [] b72 b68 h72 n0 (Nat.le_trans Z0 K73.1) A72 ((Nat.le_trans (Nat.le_trans Z0 K71.1) (Nat.le_of_eq g72.symm))) (D72 (Or.inr (ow24 hw)) (ty := (.array .byte)) (by decide)) (D72 (Or.inr (ow26 hw)) (ty := .byte) (by decide))) e72 hml opd_7 rfl o465 rfl rfl rfl rfl rfl fun _ T74 _ Y hQ => ?_
    obtain ⟨rfl, N74q, K74q, P74_0, P74_1, P74_2⟩ := hQ
    have N74 := Fr.app N70 N74q
    have K75 := K73.trans K74q (allS (Or.inr (Nat.le_trans K71.1 (Nat.le_of_eq g72.symm))) all0)
    have O75 := O73.keep K74q (allS (Nat.le_trans (Nat.le_trans Z0 K71.1) (Nat.le_of_eq g72.symm)) all0)
    have F76 := ((P70_0.ext E72).keep K74q (ninS (Nat.ne_of_lt (Nat.lt_of_lt_of_le (B68.keep K70q).lt (Nat.le_of_eq g72.symm))) nin0))
    exact zrR Y B hret rfl rfl rfl hlk o466 rfl ⟨5, b72, b68, k68, rfl, N74, K75, (Nat.le_trans K71.1 (Nat.le_of_eq g72.symm)), (Nat.le_trans (Nat.le_refl _) (Nat.le_of_eq g68.symm)), (P30_0), P74_0, P74_1, P74_2, F76⟩ rfl rfl
  · show Go p e below _ _ (mkF m 11 #[iv (Int32.ofNat X), iv 6, un] [])
    refine zilN Y B o453 rfl ?_
    refine znq Y B hZ (aty := .byte) (ow15 hw) e31 o454 (by decide) (cap := 6) (by decide) rfl rfl rfl (ad := "[B") (by decide +kernel) fun T77 h77 k77 b77 g77 Y e77 E77 A77 B77 => ?_
    have K78 := K0.ext E77
    have O78 := X00.ext E77
    have V77 : Arv Z h77 b77 k77 .byte (6 : Int32) [(.int 0), (.int 0), (.int 0), (.int 0), (.int 0), (.int 0)] (.int 0) := (Arv.new A77 (by decide)).pad (pad_rep [] (.int 0) 6)
    refine zasN Y B o455 (s2 rfl) rfl <| zilN Y B o456 rfl <| zilN Y B o457 rfl <| zalN Y B o458 rfl ?_
    refine zcs Y B hZ hown (ow48 hw) (ow49 hw) (ow42 hw) (ow50 hw) (by decide) (rm_getch6 l Z a0 hw [] X b77 k77 on ko te ke h77 n0 (Nat.le_trans Z0 K78.1) HX (P30_0) ((Nat.le_trans (Nat.le_trans Z0 (Nat.le_refl _)) (Nat.le_of_eq g77.symm))) V77 OS1 OD1 OS2 OD2 O78) e77 hml opd_20 rfl o459 rfl rfl rfl rfl rfl fun _ T79 _ Y hQ => ?_
    obtain ⟨rfl, N79q, K79q, P79_0⟩ := hQ
    have N79 := Fr.app N30 N79q
    have K80 := K78.trans K79q (allS (Or.inr (Nat.le_trans (Nat.le_refl _) (Nat.le_of_eq g77.symm))) all0)
    have O80 := O78.keep K79q (allS (Nat.le_trans (Nat.le_trans Z0 (Nat.le_refl _)) (Nat.le_of_eq g77.symm)) all0)
    refine zpop Y B o460 rfl ?_
    refine zno Y B hZ hown (ow52 hw) (ow11 hw) (ow3 hw) rfl o461 rfl rfl fun T81 h81 b81 g81 Y e81 E81 A81 D81 U81 => ?_
    have K82 := K80.ext E81
    have O82 := O80.ext E81
    refine zdup Y B o462 rfl <| zalN Y B o463 rfl <| zc0 Y B o464 ?_
    refine zci Y B hZ rfl hown (ow53 hw) (ow17 hw) (ow3 hw) (ow19 hw) (by decide) (rm_siniBB l Z a0 hw [] b81 b77 h81 n0 (Nat.le_trans Z0 K82.1) A81 ((Nat.le_trans (Nat.le_trans Z0 K80.1) (Nat.le_of_eq g81.symm))) (D81 (Or.inr (ow24 hw)) (ty := (.array .byte)) (by decide)) (D81 (Or.inr (ow26 hw)) (ty := .byte) (by decide))) e81 hml opd_7 rfl o465 rfl rfl rfl rfl rfl fun _ T83 _ Y hQ => ?_
    obtain ⟨rfl, N83q, K83q, P83_0, P83_1, P83_2⟩ := hQ
    have N83 := Fr.app N79 N83q
    have K84 := K82.trans K83q (allS (Or.inr (Nat.le_trans K80.1 (Nat.le_of_eq g81.symm))) all0)
    have O84 := O82.keep K83q (allS (Nat.le_trans (Nat.le_trans Z0 K80.1) (Nat.le_of_eq g81.symm)) all0)
    have F85 := ((P79_0.ext E81).keep K83q (ninS (Nat.ne_of_lt (Nat.lt_of_lt_of_le (B77.keep K79q).lt (Nat.le_of_eq g81.symm))) nin0))
    exact zrR Y B hret rfl rfl rfl hlk o466 rfl ⟨6, b81, b77, k77, rfl, N83, K84, (Nat.le_trans K80.1 (Nat.le_of_eq g81.symm)), (Nat.le_trans (Nat.le_refl _) (Nat.le_of_eq g77.symm)), (P30_0), P83_0, P83_1, P83_2, F85⟩ rfl rfl
  · show Go p e below _ _ (mkF m 11 #[iv (Int32.ofNat X), iv 7, un] [])
    refine zilN Y B o453 rfl ?_
    refine znq Y B hZ (aty := .byte) (ow15 hw) e31 o454 (by decide) (cap := 7) (by decide) rfl rfl rfl (ad := "[B") (by decide +kernel) fun T86 h86 k86 b86 g86 Y e86 E86 A86 B86 => ?_
    have K87 := K0.ext E86
    have O87 := X00.ext E86
    have V86 : Arv Z h86 b86 k86 .byte (7 : Int32) [(.int 0), (.int 0), (.int 0), (.int 0), (.int 0), (.int 0), (.int 0)] (.int 0) := (Arv.new A86 (by decide)).pad (pad_rep [] (.int 0) 7)
    refine zasN Y B o455 (s2 rfl) rfl <| zilN Y B o456 rfl <| zilN Y B o457 rfl <| zalN Y B o458 rfl ?_
    refine zcs Y B hZ hown (ow48 hw) (ow49 hw) (ow42 hw) (ow50 hw) (by decide) (rm_getch7 l Z a0 hw [] X b86 k86 on ko te ke h86 n0 (Nat.le_trans Z0 K87.1) HX (P30_0) ((Nat.le_trans (Nat.le_trans Z0 (Nat.le_refl _)) (Nat.le_of_eq g86.symm))) V86 OS1 OD1 OS2 OD2 O87) e86 hml opd_20 rfl o459 rfl rfl rfl rfl rfl fun _ T88 _ Y hQ => ?_
    obtain ⟨rfl, N88q, K88q, P88_0⟩ := hQ
    have N88 := Fr.app N30 N88q
    have K89 := K87.trans K88q (allS (Or.inr (Nat.le_trans (Nat.le_refl _) (Nat.le_of_eq g86.symm))) all0)
    have O89 := O87.keep K88q (allS (Nat.le_trans (Nat.le_trans Z0 (Nat.le_refl _)) (Nat.le_of_eq g86.symm)) all0)
    refine zpop Y B o460 rfl ?_
    refine zno Y B hZ hown (ow52 hw) (ow11 hw) (ow3 hw) rfl o461 rfl rfl fun T90 h90 b90 g90 Y e90 E90 A90 D90 U90 => ?_
    have K91 := K89.ext E90
    have O91 := O89.ext E90
    refine zdup Y B o462 rfl <| zalN Y B o463 rfl <| zc0 Y B o464 ?_
    refine zci Y B hZ rfl hown (ow53 hw) (ow17 hw) (ow3 hw) (ow19 hw) (by decide) (rm_siniBB l Z a0 hw [] b90 b86 h90 n0 (Nat.le_trans Z0 K91.1) A90 ((Nat.le_trans (Nat.le_trans Z0 K89.1) (Nat.le_of_eq g90.symm))) (D90 (Or.inr (ow24 hw)) (ty := (.array .byte)) (by decide)) (D90 (Or.inr (ow26 hw)) (ty := .byte) (by decide))) e90 hml opd_7 rfl o465 rfl rfl rfl rfl rfl fun _ T92 _ Y hQ => ?_
    obtain ⟨rfl, N92q, K92q, P92_0, P92_1, P92_2⟩ := hQ
    have N92 := Fr.app N88 N92q
    have K93 := K91.trans K92q (allS (Or.inr (Nat.le_trans K89.1 (Nat.le_of_eq g90.symm))) all0)
    have O93 := O91.keep K92q (allS (Nat.le_trans (Nat.le_trans Z0 K89.1) (Nat.le_of_eq g90.symm)) all0)
    have F94 := ((P88_0.ext E90).keep K92q (ninS (Nat.ne_of_lt (Nat.lt_of_lt_of_le (B86.keep K88q).lt (Nat.le_of_eq g90.symm))) nin0))
    exact zrR Y B hret rfl rfl rfl hlk o466 rfl ⟨7, b90, b86, k86, rfl, N92, K93, (Nat.le_trans K89.1 (Nat.le_of_eq g90.symm)), (Nat.le_trans (Nat.le_refl _) (Nat.le_of_eq g86.symm)), (P30_0), P92_0, P92_1, P92_2, F94⟩ rfl rfl
  · show Go p e below _ _ (mkF m 11 #[iv (Int32.ofNat X), iv 8, un] [])
    refine zilN Y B o453 rfl ?_
    refine znq Y B hZ (aty := .byte) (ow15 hw) e31 o454 (by decide) (cap := 8) (by decide) rfl rfl rfl (ad := "[B") (by decide +kernel) fun T95 h95 k95 b95 g95 Y e95 E95 A95 B95 => ?_
    have K96 := K0.ext E95
    have O96 := X00.ext E95
    have V95 : Arv Z h95 b95 k95 .byte (8 : Int32) [(.int 0), (.int 0), (.int 0), (.int 0), (.int 0), (.int 0), (.int 0), (.int 0)] (.int 0) := (Arv.new A95 (by decide)).pad (pad_rep [] (.int 0) 8)
    refine zasN Y B o455 (s2 rfl) rfl <| zilN Y B o456 rfl <| zilN Y B o457 rfl <| zalN Y B o458 rfl ?_
    refine zcs Y B hZ hown (ow48 hw) (ow49 hw) (ow42 hw) (ow50 hw) (by decide) (rm_getch8 l Z a0 hw [] X b95 k95 on ko te ke h95 n0 (Nat.le_trans Z0 K96.1) HX (P30_0) ((Nat.le_trans (Nat.le_trans Z0 (Nat.le_refl _)) (Nat.le_of_eq g95.symm))) V95 OS1 OD1 OS2 OD2 O96) e95 hml opd_20 rfl o459 rfl rfl rfl rfl rfl fun _ T97 _ Y hQ => ?_
    obtain ⟨rfl, N97q, K97q, P97_0⟩ := hQ
    have N97 := Fr.app N30 N97q
    have K98 := K96.trans K97q (allS (Or.inr (Nat.le_trans (Nat.le_refl _) (Nat.le_of_eq g95.symm))) all0)
    have O98 := O96.keep K97q (allS (Nat.le_trans (Nat.le_trans Z0 (Nat.le_refl _)) (Nat.le_of_eq g95.symm)) all0)
    refine zpop Y B o460 rfl ?_
    refine zno Y B hZ hown (ow52 hw) (ow11 hw) (ow3 hw) rfl o461 rfl rfl fun T99 h99 b99 g99 Y e99 E99 A99 D99 U99 => ?_
    have K100 := K98.ext E99
    have O100 := O98.ext E99
    refine zdup Y B o462 rfl <| zalN Y B o463 rfl <| zc0 Y B o464 ?_
    refine zci Y B hZ rfl hown (ow53 hw) (ow17 hw) (ow3 hw) (ow19 hw) (by decide) (rm_siniBB l Z a0 hw [] b99 b95 h99 n0 (Nat.le_trans Z0 K100.1) A99 ((Nat.le_trans (Nat.le_trans Z0 K98.1) (Nat.le_of_eq g99.symm))) (D99 (Or.inr (ow24 hw)) (ty := (.array .byte)) (by decide)) (D99 (Or.inr (ow26 hw)) (ty := .byte) (by decide))) e99 hml opd_7 rfl o465 rfl rfl rfl rfl rfl fun _ T101 _ Y hQ => ?_
    obtain ⟨rfl, N101q, K101q, P101_0, P101_1, P101_2⟩ := hQ
    have N101 := Fr.app N97 N101q
    have K102 := K100.trans K101q (allS (Or.inr (Nat.le_trans K98.1 (Nat.le_of_eq g99.symm))) all0)
    have O102 := O100.keep K101q (allS (Nat.le_trans (Nat.le_trans Z0 K98.1) (Nat.le_of_eq g99.symm)) all0)
    have F103 := ((P97_0.ext E99).keep K101q (ninS (Nat.ne_of_lt (Nat.lt_of_lt_of_le (B95.keep K97q).lt (Nat.le_of_eq g99.symm))) nin0))
    exact zrR Y B hret rfl rfl rfl hlk o466 rfl ⟨8, b99, b95, k95, rfl, N101, K102, (Nat.le_trans K98.1 (Nat.le_of_eq g99.symm)), (Nat.le_trans (Nat.le_refl _) (Nat.le_of_eq g95.symm)), (P30_0), P101_0, P101_1, P101_2, F103⟩ rfl rfl
  · show Go p e below _ _ (mkF m 11 #[iv (Int32.ofNat X), iv 9, un] [])
    refine zilN Y B o453 rfl ?_
    refine znq Y B hZ (aty := .byte) (ow15 hw) e31 o454 (by decide) (cap := 9) (by decide) rfl rfl rfl (ad := "[B") (by decide +kernel) fun T104 h104 k104 b104 g104 Y e104 E104 A104 B104 => ?_
    have K105 := K0.ext E104
    have O105 := X00.ext E104
    have V104 : Arv Z h104 b104 k104 .byte (9 : Int32) [(.int 0), (.int 0), (.int 0), (.int 0), (.int 0), (.int 0), (.int 0), (.int 0), (.int 0)] (.int 0) := (Arv.new A104 (by decide)).pad (pad_rep [] (.int 0) 9)
    refine zasN Y B o455 (s2 rfl) rfl <| zilN Y B o456 rfl <| zilN Y B o457 rfl <| zalN Y B o458 rfl ?_
    refine zcs Y B hZ hown (ow48 hw) (ow49 hw) (ow42 hw) (ow50 hw) (by decide) (rm_getch9 l Z a0 hw [] X b104 k104 on ko te ke h104 n0 (Nat.le_trans Z0 K105.1) HX (P30_0) ((Nat.le_trans (Nat.le_trans Z0 (Nat.le_refl _)) (Nat.le_of_eq g104.symm))) V104 OS1 OD1 OS2 OD2 O105) e104 hml opd_20 rfl o459 rfl rfl rfl rfl rfl fun _ T106 _ Y hQ => ?_
    obtain ⟨rfl, N106q, K106q, P106_0⟩ := hQ
    have N106 := Fr.app N30 N106q
    have K107 := K105.trans K106q (allS (Or.inr (Nat.le_trans (Nat.le_refl _) (Nat.le_of_eq g104.symm))) all0)
    have O107 := O105.keep K106q (allS (Nat.le_trans (Nat.le_trans Z0 (Nat.le_refl _)) (Nat.le_of_eq g104.symm)) all0)
    refine zpop Y B o460 rfl ?_
    refine zno Y B hZ hown (ow52 hw) (ow11 hw) (ow3 hw) rfl o461 rfl rfl fun T108 h108 b108 g108 Y e108 E108 A108 D108 U108 => ?_
    have K109 := K107.ext E108
    have O109 := O107.ext E108
    refine zdup Y B o462 rfl <| zalN Y B o463 rfl <| zc0 Y B o464 ?_
    refine zci Y B hZ rfl hown (ow53 hw) (ow17 hw) (ow3 hw) (ow19 hw) (by decide) (rm_siniBB l Z a0 hw [] b108 b104 h108 n0 (Nat.le_trans Z0 K109.1) A108 ((Nat.le_trans (Nat.le_trans Z0 K107.1) (Nat.le_of_eq g108.symm))) (D108 (Or.inr (ow24 hw)) (ty := (.array .byte)) (by decide)) (D108 (Or.inr (ow26 hw)) (ty := .byte) (by decide))) e108 hml opd_7 rfl o465 rfl rfl rfl rfl rfl fun _ T110 _ Y hQ => ?_
    obtain ⟨rfl, N110q, K110q, P110_0, P110_1, P110_2⟩ := hQ
    have N110 := Fr.app N106 N110q
    have K111 := K109.trans K110q (allS (Or.inr (Nat.le_trans K107.1 (Nat.le_of_eq g108.symm))) all0)
    have O111 := O109.keep K110q (allS (Nat.le_trans (Nat.le_trans Z0 K107.1) (Nat.le_of_eq g108.symm)) all0)
    have F112 := ((P106_0.ext E108).keep K110q (ninS (Nat.ne_of_lt (Nat.lt_of_lt_of_le (B104.keep K106q).lt (Nat.le_of_eq g108.symm))) nin0))
    exact zrR Y B hret rfl rfl rfl hlk o466 rfl ⟨9, b108, b104, k104, rfl, N110, K111, (Nat.le_trans K107.1 (Nat.le_of_eq g108.symm)), (Nat.le_trans (Nat.le_refl _) (Nat.le_of_eq g104.symm)), (P30_0), P110_0, P110_1, P110_2, F112⟩ rfl rfl
  · show Go p e below _ _ (mkF m 11 #[iv (Int32.ofNat X), iv 10, un] [])
    refine zilN Y B o453 rfl ?_
    refine znq Y B hZ (aty := .byte) (ow15 hw) e31 o454 (by decide) (cap := 10) (by decide) rfl rfl rfl (ad := "[B") (by decide +kernel) fun T113 h113 k113 b113 g113 Y e113 E113 A113 B113 => ?_
    have K114 := K0.ext E113
    have O114 := X00.ext E113
    have V113 : Arv Z h113 b113 k113 .byte (10 : Int32) [(.int 0), (.int 0), (.int 0), (.int 0), (.int 0), (.int 0), (.int 0), (.int 0), (.int 0), (.int 0)] (.int 0) := (Arv.new A113 (by decide)).pad (pad_rep [] (.int 0) 10)
    refine zasN Y B o455 (s2 rfl) rfl <| zilN Y B o456 rfl <| zilN Y B o457 rfl <| zalN Y B o458 rfl ?_
    refine zcs Y B hZ hown (ow48 hw) (ow49 hw) (ow42 hw) (ow50 hw) (by decide) (rm_getch10 l Z a0 hw [] X b113 k113 on ko te ke h113 n0 (Nat.le_trans Z0 K114.1) HX (P30_0) ((Nat.le_trans (Nat.le_trans Z0 (Nat.le_refl _)) (Nat.le_of_eq g113.symm))) V113 OS1 OD1 OS2 OD2 O114) e113 hml opd_20 rfl o459 rfl rfl rfl rfl rfl fun _ T115 _ Y hQ => ?_
    obtain ⟨rfl, N115q, K115q, P115_0⟩ := hQ
    have N115 := Fr.app N30 N115q
    have K116 := K114.trans K115q (allS (Or.inr (Nat.le_trans (Nat.le_refl _) (Nat.le_of_eq g113.symm))) all0)
    have O116 := O114.keep K115q (allS (Nat.le_trans (Nat.le_trans Z0 (Nat.le_refl _)) (Nat.le_of_eq g113.symm)) all0)
    refine zpop Y B o460 rfl ?_
    refine zno Y B hZ hown (ow52 hw) (ow11 hw) (ow3 hw) rfl o461 rfl rfl fun T117 h117 b117 g117 Y e117 E117 A117 D117 U117 => ?_
    have K118 := K116.ext E117
    have O118 := O116.ext E117
    refine zdup Y B o462 rfl <| zalN Y B o463 rfl <| zc0 Y B o464 ?_
    refine zci Y B hZ rfl hown (ow53 hw) (ow17 hw) (ow3 hw) (ow19 hw) (by decide) (rm_siniBB l Z a0 hw [] b117 b113 h117 n0 (Nat.le_trans Z0 K118.1) A117 ((Nat.le_trans (Nat.le_trans Z0 K116.1) (Nat.le_of_eq g117.symm))) (D117 (Or.inr (ow24 hw)) (ty := (.array .byte)) (by decide)) (D117 (Or.inr (ow26 hw)) (ty := .byte) (by decide))) e117 hml opd_7 rfl o465 rfl rfl rfl rfl rfl fun _ T119 _ Y hQ => ?_
    obtain ⟨rfl, N119q, K119q, P119_0, P119_1, P119_2⟩ := hQ
    have N119 := Fr.app N115 N119q
    have K120 := K118.trans K119q (allS (Or.inr (Nat.le_trans K116.1 (Nat.le_of_eq g117.symm))) all0)
    have O120 := O118.keep K119q (allS (Nat.le_trans (Nat.le_trans Z0 K116.1) (Nat.le_of_eq g117.symm)) all0)
    have F121 := ((P115_0.ext E117).keep K119q (ninS (Nat.ne_of_lt (Nat.lt_of_lt_of_le (B113.keep K115q).lt (Nat.le_of_eq g117.symm))) nin0))
    exact zrR Y B hret rfl rfl rfl hlk o466 rfl ⟨10, b117, b113, k113, rfl, N119, K120, (Nat.le_trans K116.1 (Nat.le_of_eq g117.symm)), (Nat.le_trans (Nat.le_refl _) (Nat.le_of_eq g113.symm)), (P30_0), P119_0, P119_1, P119_2, F121⟩ rfl rfl
def Q_nninit (Z : State) (a x : Addr) (M : Nat) (on : Addr) (ko : ClassId) (te : Addr) (ke : ClassId) (G1 : Int32) (h0 : Heap) (n0 : Nat) : QT := fun rv hE LE => ∃ k : Nat, rv = none ∧ Fr n0 LE ∧ Keep h0 hE [a] ∧ (Exa Z hE a ss10) ∧ (Fld Z hE a ss10 "prefix" "Ljava/lang/String;" (.ref x)) ∧ (Fld Z hE a ss10 "width" "I" (.int (Int32.ofNat k))) ∧ (WD M k)
theorem rm_nninit (l : Launch) (Z : State) (a0 : Array Value) (hw : HW a0 Z) (ws : List Jvm.Cond) (a x : Addr) (M : Nat) (on : Addr) (ko : ClassId) (te : Addr) (ke : ClassId) (G1 : Int32) (h0 : Heap) (n0 : Nat) (Z0 : n0 ≤ h0.size) (Nf0 : Exa Z h0 a ss10) (Nf1 : Fld Z h0 a ss10 "prefix" "Ljava/lang/String;" .null) (Nf2 : Fld Z h0 a ss10 "width" "I" (.int 0)) (g_a : n0 ≤ a) (HM : M + 1 < 2 ^ 31) (OS1 : Sta Z Z.heap ss4 ss8 "[B" (.ref on)) (OD1 : Arv Z Z.heap on ko .byte (100 : Int32) ONES (.int 0)) (OS2 : Sta Z Z.heap ss4 ss9 "[B" (.ref te)) (OD2 : Arv Z Z.heap te ke .byte (100 : Int32) TENS (.int 0)) (O2 : Sta Z Z.heap ss0 ss6 "Z" (.int G1)) (P5 : ¬ (G1 = (0 : Int32))) (X00 : Old Z n0 h0) :
    MF l Z mn34 (Jvm.Cond.code mn34 cB34 3 (Option.none : Option Jvm.ClassFile.FieldType)) ws Ro19 #[(.ref a), (.ref x), (.int (Int32.ofNat (M + 1)))] h0 (Q_nninit Z a x M on ko te ke G1 h0 n0) := by
  refine MF.of ss10 rfl #[rv a, rv x, iv (Int32.ofNat (M + 1))] (plainFor_of_name opn_8) (fun _ => rfl) ?_
  intro p e s m below meth c _ hZ hh B hml hret hlk hown hnm Y e0
  have N0 := Fr.nil n0
  have K0 := Keep.refl h0 [a]
  refine zalN Y B o467 rfl ?_
  refine Go.a3 (initO Y B.1 hZ hown (ow37 hw) (ow21 hw) (ow22 hw) e0 rfl (by rw [hml]; rfl) rfl (hb B.2 o468.1) (by decide) (W := 0) (by show 2 * 0 + _ ≤ _; exact Nat.le_of_eq rfl) (by decide)) fun _ Y e30 => ?_
  refine zalN Y B o469 rfl <| zalN Y B o470 rfl ?_
  refine Go.b3 (putF Y B.1 hZ hown (host := "") (Or.inl (ow38 hw)) Via.refl e30 Nf1 Nf0 (Or.inr ⟨(ow39 hw), rfl, hnm⟩) (ow32 hw) (ty := (.object ss0)) (by decide) rfl rfl rfl rfl (hb B.2 o471.1)) fun T31 h31 Y e31 W31 => ?_
  have N31 := Fr.snoc Y N0 g_a
  have K32 := K0.wr W31 (Or.inl (List.mem_of_getElem? (i := 0) rfl))
  have O32 := X00.wr W31 g_a
  refine zalN Y B o472 rfl <| zilN Y B o473 rfl <| zc1 Y B o474 <| zisub Y B o475 rfl ?_
  rw [show ((Int32.ofNat (M + 1)) - (1 : Int32)) = (Int32.ofNat M) from (on_sub (b := 1) (by omega) HM)]
  refine zcs Y B hZ hown (ow40 hw) (ow41 hw) (ow42 hw) (ow43 hw) (by decide) (rm_itostr l Z a0 hw [] M on ko te ke G1 h31 n0 (Nat.le_trans Z0 K32.1) (by omega) OS1 OD1 OS2 OD2 O2 P5 O32) e31 hml opd_21 rfl o476 rfl rfl rfl rfl rfl fun _ T33 _ Y hQ => ?_
  obtain ⟨k_33, x_33, t_33, kt_33, rfl, N33q, K33q, P33_0, P33_1, P33_2, P33_3, P33_4, P33_5, P33_6⟩ := hQ
  have N33 := Fr.app N31 N33q
  have K34 := K32.trans K33q all0
  have O34 := O32.keep K33q all0
  refine zcv Y B hZ hown (ow54 hw) (ow55 hw) (notFace_of_selects (args := #[]) (mvT hZ (ow57 hw))) (ow57 hw) (ow56 hw) (ow3 hw) (ow58 hw) (by decide) P33_3 (rm_slen l Z a0 hw [] x_33 t_33 kt_33 (D k_33 M) G1 T33.heap n0 (Nat.le_trans Z0 K34.1) P33_3 P33_4 P33_5 P33_6 O2 P5 O34) rfl hml opd_11 rfl o477 rfl rfl rfl rfl rfl fun _ T35 _ Y hQ => ?_
  obtain ⟨rfl, N35q, e35⟩ := hQ
  have N35 := Fr.app N33 N35q
  rw [show (Int32.ofNat (D k_33 M).length) = (Int32.ofNat k_33) from (by rw [D_len])]
  have F37 := ((Nf2.other W31 (Or.inr (slot_ne (Or.inr (ow65 hw)) (Or.inr (ow39 hw)) (by decide) (t := .int) (t' := (.object ss0)) (by decide) (by decide)))).keep K33q nin0)
  have F38 := ((Nf0.wr W31).keep K33q)
  refine Go.b3 (putF Y B.1 hZ hown (host := "") (Or.inl (ow64 hw)) Via.refl e35 F37 F38 (Or.inr ⟨(ow65 hw), rfl, hnm⟩) (ow32 hw) (ty := .int) (by decide) rfl rfl rfl rfl (hb B.2 o478.1)) fun T36 h36 Y e36 W36 => ?_
  have N36 := Fr.snoc Y N35 g_a
  have K39 := K34.wr W36 (Or.inl (List.mem_of_getElem? (i := 0) rfl))
  have O39 := O34.wr W36 g_a
  have F40 := (F38.wr W36)
  have F41 := (((Nf1.same W31).keep K33q nin0).other W36 (Or.inr (slot_ne (Or.inr (ow39 hw)) (Or.inr (ow65 hw)) (by decide) (t := (.object ss0)) (t' := .int) (by decide) (by decide))))
  exact zr0 Y B hret hlk o479 e36 ⟨k_33, rfl, N36, K39, F40, F41, (F37.same W36), (P33_2)⟩ rfl rfl
def Q_nname (Z : State) (a x t : Addr) (kt : ClassId) (ps : List Int32) (W N : Nat) (on : Addr) (ko : ClassId) (te : Addr) (ke : ClassId) (G1 : Int32) (h0 : Heap) (n0 : Nat) : QT := fun rv hE LE => ∃ x' : Addr, ∃ t' : Addr, ∃ kt' : ClassId, rv = some (.ref x') ∧ Fr n0 LE ∧ Keep h0 hE [] ∧ (h0.size ≤ x') ∧ (h0.size ≤ t') ∧ (Exa Z hE x' ss0) ∧ (Fld Z hE x' ss0 ss2 "B" (.int 0)) ∧ (Fld Z hE x' ss0 ss3 "[B" (.ref t')) ∧ (Arv Z hE t' kt' .byte (Int32.ofNat (ps ++ D W N).length) (B8 (ps ++ D W N)) (.int 0))
theorem rm_nname (l : Launch) (Z : State) (a0 : Array Value) (hw : HW a0 Z) (ws : List Jvm.Cond) (a x t : Addr) (kt : ClassId) (ps : List Int32) (W N : Nat) (on : Addr) (ko : ClassId) (te : Addr) (ke : ClassId) (G1 : Int32) (h0 : Heap) (n0 : Nat) (Z0 : n0 ≤ h0.size) (Nf0 : Exa Z h0 a ss10) (Nf1 : Fld Z h0 a ss10 "prefix" "Ljava/lang/String;" (.ref x)) (Nf2 : Fld Z h0 a ss10 "width" "I" (.int (Int32.ofNat W))) (S0 : Exa Z h0 x ss0) (S1 : Fld Z h0 x ss0 ss2 "B" (.int 0)) (S2 : Fld Z h0 x ss0 ss3 "[B" (.ref t)) (S3 : Arv Z h0 t kt .byte (Int32.ofNat ps.length) (B8 ps) (.int 0)) (HPS : ps.length ≤ 3) (HWW : W ≤ 10) (HK : ∀ k, WD N k → k ≤ W) (HN : N < 2 ^ 31) (OS1 : Sta Z Z.heap ss4 ss8 "[B" (.ref on)) (OD1 : Arv Z Z.heap on ko .byte (100 : Int32) ONES (.int 0)) (OS2 : Sta Z Z.heap ss4 ss9 "[B" (.ref te)) (OD2 : Arv Z Z.heap te ke .byte (100 : Int32) TENS (.int 0)) (O2 : Sta Z Z.heap ss0 ss6 "Z" (.int G1)) (P5 : ¬ (G1 = (0 : Int32))) (X00 : Old Z n0 h0) :
    MF l Z mn35 (Jvm.Cond.code mn35 cB35 5 (Option.some (Jvm.ClassFile.FieldType.object ss0))) ws Ro20 #[(.ref a), (.int (Int32.ofNat N))] h0 (Q_nname Z a x t kt ps W N on ko te ke G1 h0 n0) := by
  refine MF.of ss10 rfl #[rv a, iv (Int32.ofNat N), un, un, un] (plainFor_of_name opn_8) (fun _ => rfl) ?_
  intro p e s m below meth c _ hZ hh B hml hret hlk hown hnm Y e0
  have N0 := Fr.nil n0
  have K0 := Keep.refl h0 []
  refine zilN Y B o480 rfl ?_
  refine zcs Y B hZ hown (ow40 hw) (ow41 hw) (ow42 hw) (ow43 hw) (by decide) (rm_itostr l Z a0 hw [] N on ko te ke G1 h0 n0 (Nat.le_trans Z0 (Nat.le_refl _)) (HN) OS1 OD1 OS2 OD2 O2 P5 X00) e0 hml opd_21 rfl o481 rfl rfl rfl rfl rfl fun _ T30 _ Y hQ => ?_
  obtain ⟨k_30, x_30, t_30, kt_30, rfl, N30q, K30q, P30_0, P30_1, P30_2, P30_3, P30_4, P30_5, P30_6⟩ := hQ
  have N30 := Fr.app N0 N30q
  have K31 := K0.trans K30q all0
  have O31 := X00.keep K30q all0
  have hkn := HK k_30 P30_2
  refine zasN Y B o482 (s2 rfl) rfl ?_
  refine zno Y B hZ hown (ow71 hw) (ow72 hw) (ow73 hw) rfl o483 rfl rfl fun T32 h32 b32 g32 Y e32 E32 A32 D32 U32 => ?_
  have K33 := K31.ext E32
  have O33 := O31.ext E32
  refine zdup Y B o484 rfl <| zalN Y B o485 rfl ?_
  have F35 := ((Nf1.keep K30q nin0).ext E32)
  refine zgf Y B hZ hown (ow38 hw) Via.refl e32 F35 o486 fun _ Y e34 => ?_
  have F37 := ((S0.keep K30q).ext E32)
  have F38 := ((S1.keep K30q nin0).ext E32)
  have F39 := ((S2.keep K30q nin0).ext E32)
  have F40 := ((S3.keep K30q nin0).ext E32)
  refine zcv Y B hZ hown (ow54 hw) (ow55 hw) (notFace_of_selects (args := #[]) (mvT hZ (ow57 hw))) (ow57 hw) (ow56 hw) (ow3 hw) (ow58 hw) (by decide) F37 (rm_slen l Z a0 hw [] x t kt ps G1 h32 n0 (Nat.le_trans Z0 K33.1) F37 F38 F39 F40 O2 P5 O33) e34 hml opd_11 rfl o487 rfl rfl rfl rfl rfl fun _ T36 _ Y hQ => ?_
  obtain ⟨rfl, N36q, e36⟩ := hQ
  have N36 := Fr.app N30 N36q
  refine zalN Y B o488 rfl ?_
  have F42 := ((Nf2.keep K30q nin0).ext E32)
  refine zgf Y B hZ hown (ow64 hw) Via.refl e36 F42 o489 fun _ Y e41 => ?_
  refine ziadd Y B o490 rfl ?_
  rw [show ((Int32.ofNat ps.length) + (Int32.ofNat W)) = (Int32.ofNat (ps.length + W)) from (on_add _ _)]
  refine zci Y B hZ rfl hown (ow74 hw) (ow75 hw) (ow73 hw) (ow76 hw) (by decide) (rm_sbinitI l Z a0 hw [] b32 (ps.length + W) G1 h32 n0 (Nat.le_trans Z0 K33.1) A32 (D32 (Or.inl (ow88 hw)) (ty := .byte) (by decide)) (D32 (Or.inl (ow86 hw)) (ty := (.array .byte)) (by decide)) (D32 (Or.inl (ow101 hw)) (ty := .int) (by decide)) ((Nat.le_trans (Nat.le_trans Z0 K31.1) (Nat.le_of_eq g32.symm))) (by omega) O2 P5 O33) e41 hml opd_8 rfl o491 rfl rfl rfl rfl rfl fun _ T43 _ Y hQ => ?_
  obtain ⟨v_43, kv_43, rfl, N43q, K43q, P43_0, P43_1, P43_2, P43_3, P43_4, P43_5, P43_6⟩ := hQ
  have N43 := Fr.app N36 N43q
  have K44 := K33.trans K43q (allS (Or.inr (Nat.le_trans K31.1 (Nat.le_of_eq g32.symm))) all0)
  have O44 := O33.keep K43q (allS (Nat.le_trans (Nat.le_trans Z0 K31.1) (Nat.le_of_eq g32.symm)) all0)
  refine zalN Y B o492 rfl ?_
  have F46 := (F35.keep K43q (ninS (Nat.ne_of_lt (Nat.lt_of_lt_of_le (Nf0.keep K30q).lt (Nat.le_of_eq g32.symm))) nin0))
  refine zgf Y B hZ hown (ow38 hw) Via.refl rfl F46 o493 fun _ Y e45 => ?_
  have F48 := (F37.keep K43q)
  have F49 := (F38.keep K43q (ninS (Nat.ne_of_lt (Nat.lt_of_lt_of_le (S0.keep K30q).lt (Nat.le_of_eq g32.symm))) nin0))
  have F50 := (F39.keep K43q (ninS (Nat.ne_of_lt (Nat.lt_of_lt_of_le (S0.keep K30q).lt (Nat.le_of_eq g32.symm))) nin0))
  have F51 := (F40.keep K43q (ninS (Nat.ne_of_lt (Nat.lt_of_lt_of_le (S3.keep K30q nin0).lt (Nat.le_of_eq g32.symm))) nin0))
  refine zcv Y B hZ hown (ow89 hw) (ow90 hw) (notFace_of_selects (args := #[]) (mvT hZ (ow92 hw))) (ow92 hw) (ow91 hw) (ow73 hw) (ow93 hw) (by decide) P43_1 (rm_sbappS l Z a0 hw [] b32 v_43 kv_43 (ps.length + W) ([] : List Int32) x t kt ps G1 T43.heap n0 (Nat.le_trans Z0 K44.1) P43_1 P43_2 P43_3 P43_4 P43_5 P43_6 F48 F49 F50 F51 (by simp) (by omega) ((Nat.le_trans (Nat.le_trans Z0 K33.1) P43_0)) ((Nat.le_trans (Nat.le_trans Z0 K31.1) (Nat.le_of_eq g32.symm))) O2 P5 O44) e45 hml opd_22 rfl o494 rfl rfl rfl rfl rfl fun _ T47 _ Y hQ => ?_
  obtain ⟨rfl, N47q, K47q, P47_0, P47_1, P47_2, P47_3, P47_4, P47_5⟩ := hQ
  have N47 := Fr.app N43 N47q
  have K52 := K44.trans K47q (allS (Or.inr (Nat.le_trans K31.1 (Nat.le_of_eq g32.symm))) (allS (Or.inr (Nat.le_trans K33.1 P43_0)) all0))
  have O52 := O44.keep K47q (allS (Nat.le_trans (Nat.le_trans Z0 K31.1) (Nat.le_of_eq g32.symm)) (allS (Nat.le_trans (Nat.le_trans Z0 K33.1) P43_0) all0))
  refine zasN Y B o495 (s3 rfl) rfl <| zalN Y B o496 rfl ?_
  have F54 := (((P30_3.ext E32).keep K43q).keep K47q)
  have F55 := (((P30_4.ext E32).keep K43q (ninS (Nat.ne_of_lt (Nat.lt_of_lt_of_le P30_3.lt (Nat.le_of_eq g32.symm))) nin0)).keep K47q (ninS (Nat.ne_of_lt (Nat.lt_of_lt_of_le P30_3.lt (Nat.le_of_eq g32.symm))) (ninS (Nat.ne_of_lt (Nat.lt_of_lt_of_le (P30_3.ext E32).lt P43_0)) nin0)))
  have F56 := (((P30_5.ext E32).keep K43q (ninS (Nat.ne_of_lt (Nat.lt_of_lt_of_le P30_3.lt (Nat.le_of_eq g32.symm))) nin0)).keep K47q (ninS (Nat.ne_of_lt (Nat.lt_of_lt_of_le P30_3.lt (Nat.le_of_eq g32.symm))) (ninS (Nat.ne_of_lt (Nat.lt_of_lt_of_le (P30_3.ext E32).lt P43_0)) nin0)))
  have F57 := (((P30_6.ext E32).keep K43q (ninS (Nat.ne_of_lt (Nat.lt_of_lt_of_le P30_6.lt (Nat.le_of_eq g32.symm))) nin0)).keep K47q (ninS (Nat.ne_of_lt (Nat.lt_of_lt_of_le P30_6.lt (Nat.le_of_eq g32.symm))) (ninS (Nat.ne_of_lt (Nat.lt_of_lt_of_le (P30_6.ext E32).lt P43_0)) nin0)))
  refine zcv Y B hZ hown (ow54 hw) (ow55 hw) (notFace_of_selects (args := #[]) (mvT hZ (ow57 hw))) (ow57 hw) (ow56 hw) (ow3 hw) (ow58 hw) (by decide) F54 (rm_slen l Z a0 hw [] x_30 t_30 kt_30 (D k_30 N) G1 T47.heap n0 (Nat.le_trans Z0 K52.1) F54 F55 F56 F57 O2 P5 O52) rfl hml opd_11 rfl o497 rfl rfl rfl rfl rfl fun _ T53 _ Y hQ => ?_
  obtain ⟨rfl, N53q, e53⟩ := hQ
  have N53 := Fr.app N47 N53q
  rw [show (Int32.ofNat (D k_30 N).length) = (Int32.ofNat k_30) from (by rw [D_len])]
  refine zis Y B o498 (s4 rfl) ?_
  have hNTV : t_30 ≠ v_43 := (Nat.ne_of_lt (Nat.lt_of_lt_of_le (P30_6.ext E32).lt P43_0))
  have P38 : ∀ (nL : Nat), ∀ (T58 : State) (LL58 : List Loc) (hP58 : Heap) (i : Nat) (u : List Int32), Stand p l e Ro20 s m #[(.ref a), (.int (Int32.ofNat N))] below meth c T58 LL58 4 31 → T58.heap = hP58 → Fr n0 LL58 → Keep h0 hP58 [] → Old Z n0 hP58 → (Exa Z hP58 b32 ss5) → (Fld Z hP58 b32 ss1 ss2 "B" (.int 0)) → (Fld Z hP58 b32 ss1 ss3 "[B" (.ref v_43)) → (Fld Z hP58 b32 ss1 ss7 "I" (.int (Int32.ofNat u.length))) → (Arv Z hP58 v_43 kv_43 .byte (Int32.ofNat (ps.length + W)) (B8 u) (.int 0)) → (Exa Z hP58 v_43 "[B") → (Exa Z hP58 x_30 ss0) → (Fld Z hP58 x_30 ss0 ss2 "B" (.int 0)) → (Fld Z hP58 x_30 ss0 ss3 "[B" (.ref t_30)) → (Arv Z hP58 t_30 kt_30 .byte (Int32.ofNat (D k_30 N).length) (B8 (D k_30 N)) (.int 0)) → (i + nL = W) → (u = ps ++ List.replicate (i - k_30) (48 : Int32)) → (k_30 ≤ i) → (h0.size ≤ b32) → (h0.size ≤ v_43) → Go p e below (Out s (Q_nname Z a x t kt ps W N on ko te ke G1 h0 n0) Ro20.cells Ro20.slots) T58 (mkF m 38 #[rv a, iv (Int32.ofNat N), rv x_30, rv b32, iv (Int32.ofNat i)] []) := by
    intro nL
    induction nL with
    | zero =>
      intro T58 LL58 hP58 i u Y e58 N58 KP58 OP58 B0 B1 B2 B3 B4 B5 U0 U1 U2 U3 HI HU HKI HBB HBV
      have hul : u.length = ps.length + (i - k_30) := by rw [HU]; simp
      refine zil Y B o499 rfl <| zalN Y B o500 rfl ?_
      have F60 := (Nf2.keep KP58 nin0)
      refine zgf Y B hZ hown (ow64 hw) Via.refl e58 F60 o501 fun _ Y e59 => ?_
      refine zCY Y B j39 (flt (show ¬ ((Int32.ofNat i) < (Int32.ofNat W)) from (fun q => absurd ((lt_on (by omega) (by omega)).mp q) (by omega)))).2.1 ?_
      refine zalN Y B o502 rfl <| zalN Y B o503 rfl ?_
      refine zcv Y B hZ hown (ow89 hw) (ow90 hw) (notFace_of_selects (args := #[]) (mvT hZ (ow92 hw))) (ow92 hw) (ow91 hw) (ow73 hw) (ow93 hw) (by decide) B0 (rm_sbappS l Z a0 hw [] b32 v_43 kv_43 (ps.length + W) u x_30 t_30 kt_30 (D k_30 N) G1 hP58 n0 (Nat.le_trans Z0 KP58.1) B0 B1 B2 B3 B4 B5 U0 U1 U2 U3 (by rw [D_len]; omega) (by omega) ((Nat.le_trans (Nat.le_trans Z0 (Nat.le_refl _)) HBV)) ((Nat.le_trans (Nat.le_trans Z0 (Nat.le_refl _)) HBB)) O2 P5 OP58) e59 hml opd_22 rfl o504 rfl rfl rfl rfl rfl fun _ T63 _ Y hQ => ?_
      obtain ⟨rfl, N63q, K63q, P63_0, P63_1, P63_2, P63_3, P63_4, P63_5⟩ := hQ
      have N63 := Fr.app N58 N63q
      have K64 := KP58.trans K63q (allS (Or.inr (Nat.le_trans (Nat.le_refl _) HBB)) (allS (Or.inr (Nat.le_trans (Nat.le_refl _) HBV)) all0))
      have O64 := OP58.keep K63q (allS (Nat.le_trans (Nat.le_trans Z0 (Nat.le_refl _)) HBB) (allS (Nat.le_trans (Nat.le_trans Z0 (Nat.le_refl _)) HBV) all0))
      have hc : (ps.length + W) = (u ++ D k_30 N).length := by rw [List.length_append, D_len]; omega
      have F9 : Arv Z T63.heap v_43 kv_43 .byte (Int32.ofNat (u ++ D k_30 N).length) (B8 (u ++ (D k_30 N))) (.int 0) := by rw [← hc]; exact P63_4
      refine zcv Y B hZ hown (ow127 hw) (ow128 hw) (notFace_of_selects (args := #[]) (mvT hZ (ow130 hw))) (ow130 hw) (ow129 hw) (ow73 hw) (ow131 hw) (by decide) P63_0 (rm_tostr1 l Z a0 hw [] b32 v_43 kv_43 (u ++ D k_30 N) G1 T63.heap n0 (Nat.le_trans Z0 K64.1) P63_0 P63_1 P63_2 P63_3 F9 P63_5 (by rw [← hc]; omega) O2 P5 O64) rfl hml opd_23 rfl o505 rfl rfl rfl rfl rfl fun _ T65 _ Y hQ => ?_
      obtain ⟨x_65, t_65, kt_65, rfl, N65q, K65q, P65_0, P65_1, P65_2, P65_3, P65_4, P65_5⟩ := hQ
      have N65 := Fr.app N63 N65q
      have K66 := K64.trans K65q all0
      have O66 := O64.keep K65q all0
      have hD : u ++ D k_30 N = ps ++ D W N := by rw [HU, List.append_assoc, show i = W by omega, D_pad P30_2.2.2.1 P30_2.1 (by omega)]
      rw [hD] at P65_5
      exact zrR Y B hret rfl rfl rfl hlk o506 rfl ⟨x_65, t_65, kt_65, rfl, N65, K66, (Nat.le_trans K64.1 P65_0), (Nat.le_trans K64.1 P65_1), P65_2, P65_3, P65_4, P65_5⟩ rfl rfl
    | succ nL ih =>
      intro T58 LL58 hP58 i u Y e58 N58 KP58 OP58 B0 B1 B2 B3 B4 B5 U0 U1 U2 U3 HI HU HKI HBB HBV
      have hul : u.length = ps.length + (i - k_30) := by rw [HU]; simp
      refine zil Y B o499 rfl <| zalN Y B o500 rfl ?_
      have F62 := (Nf2.keep KP58 nin0)
      refine zgf Y B hZ hown (ow64 hw) Via.refl e58 F62 o501 fun _ Y e61 => ?_
      refine zCN Y B o507 (tlt (show (Int32.ofNat i) < (Int32.ofNat W) from ((lt_on (by omega) (by omega)).mpr (by omega)))).2.1 ?_
      refine zalN Y B o508 rfl <| zbp Y B o509 (v := 48) rfl ?_
      refine zcv Y B hZ hown (ow218 hw) (ow219 hw) (notFace_of_selects (args := #[]) (mvT hZ (ow221 hw))) (ow221 hw) (ow220 hw) (ow73 hw) (ow222 hw) (by decide) B0 (rm_sbappC l Z a0 hw [] b32 v_43 kv_43 (ps.length + W) u (48 : Int32) G1 hP58 n0 (Nat.le_trans Z0 KP58.1) B0 B1 B2 B3 B4 B5 (by omega) (by omega) ((Nat.le_trans (Nat.le_trans Z0 (Nat.le_refl _)) HBV)) ((Nat.le_trans (Nat.le_trans Z0 (Nat.le_refl _)) HBB)) (by decide) O2 P5 OP58) e61 hml opd_24 rfl o510 rfl rfl rfl rfl rfl fun _ T67 _ Y hQ => ?_
      obtain ⟨rfl, N67q, K67q, P67_0, P67_1, P67_2, P67_3, P67_4, P67_5⟩ := hQ
      have N67 := Fr.app N58 N67q
      have K68 := KP58.trans K67q (allS (Or.inr (Nat.le_trans (Nat.le_refl _) HBB)) (allS (Or.inr (Nat.le_trans (Nat.le_refl _) HBV)) all0))
      have O68 := OP58.keep K67q (allS (Nat.le_trans (Nat.le_trans Z0 (Nat.le_refl _)) HBB) (allS (Nat.le_trans (Nat.le_trans Z0 (Nat.le_refl _)) HBV) all0))
      refine zpop Y B o511 rfl <| zinc Y B o512 rfl (v := ((Int32.ofNat i) + (1 : Int32))) rfl (s4 rfl) <| zgo Y B j40 ?_
      rw [show ((Int32.ofNat i) + (1 : Int32)) = (Int32.ofNat (i + 1)) from (on_add _ 1)]
      have F69 := (U0.keep K67q)
      have F70 := (U1.keep K67q (ninS (ne_exa U0 B0 (by decide)) (ninS (ne_exa U0 B5 (by decide)) nin0)))
      have F71 := (U2.keep K67q (ninS (ne_exa U0 B0 (by decide)) (ninS (ne_exa U0 B5 (by decide)) nin0)))
      have F72 := (U3.keep K67q (ninS (Ne.symm (ne_arv B0 (ow72 hw) U3)) (ninS hNTV nin0)))
      exact ih _ _ _ (i + 1) (u ++ [(48 : Int32)]) (Stand_grow Y (by decide) (by decide)) rfl N67 K68 O68 P67_0 P67_1 P67_2 P67_3 P67_4 P67_5 F69 F70 F71 F72 (by omega) (by rw [HU, show i + 1 - k_30 = (i - k_30) + 1 by omega, List.replicate_succ', List.append_assoc]) (by omega) (HBB) (HBV)
  exact P38 (W - k_30) _ _ _ k_30 ([] ++ ps) (Stand_grow Y (by decide) (by decide)) e53 N53 K52 O52 P47_0 P47_1 P47_2 P47_3 P47_4 P47_5 F54 F55 F56 F57 (by omega) (by simp) (Nat.le_refl _) (Nat.le_trans K31.1 (Nat.le_of_eq g32.symm)) (Nat.le_trans K33.1 P43_0)
def Q_at (Z : State) (r tr : Addr) (kr : ClassId) (cs : List Int32) (i : Nat) (x t : Addr) (kt : ClassId) (ps : List Int32) (W N : Nat) (G1 : Int32) (G3 : Value) (h0 : Heap) (n0 : Nat) : QT := fun rv hE LE => rv = some (.int 1) ∧ Fr n0 LE ∧ hE = h0
theorem rm_at (l : Launch) (Z : State) (a0 : Array Value) (hw : HW a0 Z) (ws : List Jvm.Cond) (r tr : Addr) (kr : ClassId) (cs : List Int32) (i : Nat) (x t : Addr) (kt : ClassId) (ps : List Int32) (W N : Nat) (G1 : Int32) (G3 : Value) (h0 : Heap) (n0 : Nat) (Z0 : n0 ≤ h0.size) (S0 : Exa Z h0 r ss0) (S1 : Fld Z h0 r ss0 ss2 "B" (.int 0)) (S2 : Fld Z h0 r ss0 ss3 "[B" (.ref tr)) (S3 : Arv Z h0 tr kr .byte (Int32.ofNat cs.length) (B8 cs) (.int 0)) (U0 : Exa Z h0 x ss0) (U1 : Fld Z h0 x ss0 ss2 "B" (.int 0)) (U2 : Fld Z h0 x ss0 ss3 "[B" (.ref t)) (U3 : Arv Z h0 t kt .byte (Int32.ofNat ps.length) (B8 ps) (.int 0)) (HD : cs = ps ++ D W N) (HPS : ps.length ≤ 3) (HWW : 1 ≤ W ∧ W ≤ 10) (HI : i ≤ 12) (HN : N < 2 ^ 31) (LOP : ∀ c ∈ ps, ¬ c < 0 ∧ ¬ (255 : Int32) < c) (O2 : Sta Z Z.heap ss0 ss6 "Z" (.int G1)) (P5 : ¬ (G1 = (0 : Int32))) (X00 : Old Z n0 h0) (O4 : Sta Z Z.heap ss11 ss13 ss14 G3) (rG3 : G3.isRef = true) :
    MF l Z mn36 (Jvm.Cond.code mn36 cB36 10 (Option.some Jvm.ClassFile.FieldType.boolean)) ws Ro21 #[(.ref r), (.int (Int32.ofNat i)), (.ref x), (.int (Int32.ofNat ps.length)), (.int (Int32.ofNat W)), (.int (Int32.ofNat N))] h0 (Q_at Z r tr kr cs i x t kt ps W N G1 G3 h0 n0) := by
  refine MF.of ss12 rfl #[rv r, iv (Int32.ofNat i), rv x, iv (Int32.ofNat ps.length), iv (Int32.ofNat W), iv (Int32.ofNat N), un, un, un, un] (plainFor_of_name opn_6) (fun _ => rfl) ?_
  intro p e s m below meth c _ hZ hh B hml hret hlk hown hnm Y e0
  have N0 := Fr.nil n0
  have hl : cs.length = ps.length + W := by rw [HD, List.length_append, D_len]
  refine zilN Y B o513 rfl <| zilN Y B o514 rfl <| zil Y B o515 rfl <| ziadd Y B o516 rfl ?_
  rw [show ((Int32.ofNat ps.length) + (Int32.ofNat W)) = (Int32.ofNat (ps.length + W)) from (on_add _ _)]
  by_cases h1 : (Int32.ofNat i) < (Int32.ofNat (ps.length + W))
  · refine zCY Y B j41 (tlt h1).1 ?_
    have q1 := (lt_on (by omega) (by omega)).mp h1
    refine zilN Y B o520 rfl <| zilN Y B o521 rfl ?_
    by_cases h2 : (Int32.ofNat i) < (Int32.ofNat ps.length)
    · refine zCN Y B o522 (tlt h2).2.1 ?_
      have q2 := (lt_on (by omega) (by omega)).mp h2
      refine zalN Y B o523 rfl <| zilN Y B o524 rfl ?_
      refine zcv Y B hZ hown (ow174 hw) (ow175 hw) (notFace_of_selects (args := #[]) (mvT hZ (ow177 hw))) (ow177 hw) (ow176 hw) (ow3 hw) (ow178 hw) (by decide) U0 (rm_schar l Z a0 hw [] x t kt ps i G1 G3 h0 n0 (Nat.le_trans Z0 (Nat.le_refl _)) U0 U1 U2 U3 (LOP) (q2) (by omega) O2 P5 X00 O4 rG3) e0 hml opd_25 rfl o525 rfl rfl rfl rfl rfl fun _ T30 _ Y hQ => ?_
      obtain ⟨rfl, N30q, e30⟩ := hQ
      have N30 := Fr.app N0 N30q
      refine zis Y B o526 (s6 rfl) <| zgo Y B j43 <| zalN Y B o527 rfl <| zilN Y B o528 rfl ?_
      refine zcv Y B hZ hown (ow174 hw) (ow175 hw) (notFace_of_selects (args := #[]) (mvT hZ (ow177 hw))) (ow177 hw) (ow176 hw) (ow3 hw) (ow178 hw) (by decide) S0 (rm_schar l Z a0 hw [] r tr kr cs i G1 G3 h0 n0 (Nat.le_trans Z0 (Nat.le_refl _)) S0 S1 S2 S3 ((by intro c hc; rw [HD] at hc; exact (List.mem_append.mp hc).elim (LOP c) (D_lo _ _ c))) (by omega) (by omega) O2 P5 X00 O4 rG3) e30 hml opd_25 rfl o529 rfl rfl rfl rfl rfl fun _ T31 _ Y hQ => ?_
      obtain ⟨rfl, N31q, e31⟩ := hQ
      have N31 := Fr.app N30 N31q
      refine zil Y B o530 rfl ?_
      refine zCN Y B o531 (teq (show (cs.getD i 0) = (ps.getD i 0) from (by rw [HD, List.getD_eq_getElem?_getD, List.getD_eq_getElem?_getD, List.getElem?_append_left q2]))).2 ?_
      refine zc1 Y B o532 <| zgo Y B j44 ?_
      exact zrN Y B (t := .boolean) hret (by simp) hlk o533 e31 ⟨rfl, N31, rfl⟩ rfl rfl
    · refine zCY Y B j42 (flt h2).2.1 ?_
      have q2 : ps.length ≤ i := Nat.le_of_not_lt fun q => h2 ((lt_on (by omega) (by omega)).mpr q)
      refine zilN Y B o534 rfl <| zilN Y B o535 rfl <| zisub Y B o536 rfl ?_
      rw [show ((Int32.ofNat i) - (Int32.ofNat ps.length)) = (Int32.ofNat (i - ps.length)) from (on_sub q2 (by omega))]
      refine zis Y B o537 (s7 rfl) <| zil Y B o538 rfl <| zi2l Y B o539 rfl <| zil Y B o540 rfl <| zc1 Y B o541 <| zisub Y B o542 rfl ?_
      rw [show ((Int32.ofNat W) - (1 : Int32)) = (Int32.ofNat (W - 1)) from (on_sub (b := 1) (by omega) (by omega))]
      refine zil Y B o543 rfl <| zisub Y B o544 rfl ?_
      rw [show ((Int32.ofNat (W - 1)) - (Int32.ofNat (i - ps.length))) = (Int32.ofNat (W - 1 - (i - ps.length))) from (on_sub (by omega) (by omega))]
      refine zcs Y B hZ hown (ow195 hw) (ow196 hw) (ow29 hw) (ow197 hw) (by decide) (rm_pow10 l Z a0 hw [] (W - 1 - (i - ps.length)) h0 n0 (Nat.le_trans Z0 (Nat.le_refl _)) (by omega)) e0 hml opd_26 rfl o545 rfl rfl rfl rfl rfl fun _ T32 _ Y hQ => ?_
      obtain ⟨pw_32, rfl, N32q, e32, P32_0⟩ := hQ
      have N32 := Fr.app N0 N32q
      have hp0 : 0 < pw_32 := by rw [P32_0]; exact Nat.pow_pos (by decide)
      have hp9 : pw_32 ≤ 1000000000 := by rw [P32_0]; exact Nat.pow_le_pow_right (by decide) (show (W - 1 - (i - ps.length)) ≤ 9 by omega)
      refine Go.by (fun _ kq_ => XS.ldiv Y.here B.1 rfl (hb B.2 o546.1) rfl (fun q => by have := congrArg Int64.toInt q; rw [l_on (by omega)] at this; have e : (0 : Int64).toInt = 0 := rfl; rw [e] at this; omega) kq_) ?_
      show Go p e below _ _ (mkF m 44 #[rv r, iv (Int32.ofNat i), rv x, iv (Int32.ofNat ps.length), iv (Int32.ofNat W), iv (Int32.ofNat N), un, iv (Int32.ofNat (i - ps.length)), un, un] [(.long (((Int32.ofNat N).toInt64) / (Int64.ofNat pw_32)))])
      refine Go.f3 (Y.ldc2Long B.1 hown (mvT hZ (ow198 hw)) rfl (hb B.2 o547.1)) ?_
      refine Go.by (fun _ kq_ => XS.lrem Y.here B.1 rfl (hb B.2 o548.1) rfl (by decide) kq_) ?_
      show Go p e below _ _ (mkF m 48 #[rv r, iv (Int32.ofNat i), rv x, iv (Int32.ofNat ps.length), iv (Int32.ofNat W), iv (Int32.ofNat N), un, iv (Int32.ofNat (i - ps.length)), un, un] [(.long ((((Int32.ofNat N).toInt64) / (Int64.ofNat pw_32)) - ((((Int32.ofNat N).toInt64) / (Int64.ofNat pw_32)) / (10 : Int64)) * (10 : Int64)))])
      refine Go.by (fun _ kq_ => XS.lstore Y.here B.1 rfl (hb B.2 o549.1) rfl (l' := #[rv r, iv (Int32.ofNat i), rv x, iv (Int32.ofNat ps.length), iv (Int32.ofNat W), iv (Int32.ofNat N), un, iv (Int32.ofNat (i - ps.length)), .val (.long ((((Int32.ofNat N).toInt64) / (Int64.ofNat pw_32)) - ((((Int32.ofNat N).toInt64) / (Int64.ofNat pw_32)) / (10 : Int64)) * (10 : Int64))), .second]) rfl kq_) ?_
      show Go p e below _ _ (mkF m 50 #[rv r, iv (Int32.ofNat i), rv x, iv (Int32.ofNat ps.length), iv (Int32.ofNat W), iv (Int32.ofNat N), un, iv (Int32.ofNat (i - ps.length)), .val (.long ((((Int32.ofNat N).toInt64) / (Int64.ofNat pw_32)) - ((((Int32.ofNat N).toInt64) / (Int64.ofNat pw_32)) / (10 : Int64)) * (10 : Int64))), .second] [])
      refine zbp Y B o550 (v := 48) rfl <| zll Y B o551 rfl <| zl2i Y B o552 rfl <| ziadd Y B o553 rfl ?_
      rw [show ((48 : Int32) + (((((Int32.ofNat N).toInt64) / (Int64.ofNat pw_32)) - ((((Int32.ofNat N).toInt64) / (Int64.ofNat pw_32)) / (10 : Int64)) * (10 : Int64)).toInt32)) = (Int32.ofNat (48 + N / pw_32 % 10)) from (l_dig HN hp0 (by omega))]
      refine zi2c Y B o554 rfl ?_
      rw [show ((Int32.ofNat (48 + N / pw_32 % 10)).toUInt32.toUInt16.toUInt32.toInt32) = (Int32.ofNat (48 + N / pw_32 % 10)) from dig_c]
      refine zis Y B o555 (s6 rfl) <| zalN Y B o527 rfl <| zilN Y B o528 rfl ?_
      refine zcv Y B hZ hown (ow174 hw) (ow175 hw) (notFace_of_selects (args := #[]) (mvT hZ (ow177 hw))) (ow177 hw) (ow176 hw) (ow3 hw) (ow178 hw) (by decide) S0 (rm_schar l Z a0 hw [] r tr kr cs i G1 G3 h0 n0 (Nat.le_trans Z0 (Nat.le_refl _)) S0 S1 S2 S3 ((by intro c hc; rw [HD] at hc; exact (List.mem_append.mp hc).elim (LOP c) (D_lo _ _ c))) (by omega) (by omega) O2 P5 X00 O4 rG3) e32 hml opd_25 rfl o529 rfl rfl rfl rfl rfl fun _ T33 _ Y hQ => ?_
      obtain ⟨rfl, N33q, e33⟩ := hQ
      have N33 := Fr.app N32 N33q
      refine zil Y B o530 rfl ?_
      refine zCN Y B o531 (teq (show (cs.getD i 0) = (Int32.ofNat (48 + N / pw_32 % 10)) from (by rw [HD, List.getD_eq_getElem?_getD, List.getElem?_append_right q2, ← List.getD_eq_getElem?_getD, D_getD (by omega), P32_0]))).2 ?_
      refine zc1 Y B o532 <| zgo Y B j44 ?_
      exact zrN Y B (t := .boolean) hret (by simp) hlk o533 e33 ⟨rfl, N33, rfl⟩ rfl rfl
  · refine zCN Y B o517 (flt h1).1 ?_
    refine zc1 Y B o518 ?_
    exact zrN Y B (t := .boolean) hret (by simp) hlk o519 e0 ⟨rfl, N0, rfl⟩ rfl rfl
def Q_iv0 (Z : State) (a1 a2 : Addr) (h0 : Heap) (n0 : Nat) : QT := fun rv hE LE => ∃ t : Addr, ∃ kb : ClassId, rv = none ∧ Fr n0 LE ∧ Keep h0 hE [a1] ∧ (Exa Z hE a1 ss0) ∧ (Fld Z hE a1 ss0 ss2 "B" (.int 0)) ∧ (Fld Z hE a1 ss0 ss3 "[B" (.ref t)) ∧ (Arv Z hE t kb .byte (0 : Int32) (B8 []) (.int 0))
theorem rm_iv0 (l : Launch) (Z : State) (a0 : Array Value) (hw : HW a0 Z) (ws : List Jvm.Cond) (a1 a2 : Addr) (h0 : Heap) (n0 : Nat) (Z0 : n0 ≤ h0.size) (E1 : Exa Z h0 a1 ss0) (g_a1 : n0 ≤ a1) (F1 : Fld Z h0 a1 ss0 ss3 "[B" .null) (F2 : Fld Z h0 a1 ss0 ss2 "B" (.int 0)) :
    MetFree l mn37 (head1 (Jvm.Cond.code mn37 cB37 6 (Option.none : Option Jvm.ClassFile.FieldType) :: ws) Ro22) (fun ar_ U => ar_ = #[(.ref a1), (.ref a2), (.int 0), (.int 0), .null] ∧ Z.Warmed39 U.vm ∧ U.heap = h0 ∧ CHv Z EL U.vm h0) (fun _ _ _ _ _ => True) (fun _ U o_ U' => OutW Z EL U (Q_iv0 Z a1 a2 h0 n0) Ro22.cells Ro22.slots o_ U') := by
  refine MetFree.of_bodySF (plainFor_of_name opn_0) hisR ?_
  intro p e s m args below meth c s₁ Bd hml0 hP hK
  obtain ⟨rfl, hZ, hh, hCH⟩ := hP
  have B : HB p c _ := ⟨Bd.exec, Bd.bytes⟩
  have hml : c.maxLocals = 6 := hml0
  have hret := Bd.returns
  have hlk : meth.locks = false := BodyLoose.notSynchronized Bd
  have hown : s.vm.findClass ss0 = some m.cls := findClass_of_methodNamed Bd.named
  have hnm := (name_of_methodNamed Bd.named Bd.method).1
  have Y : Stand p l e Ro22 (s.setVm s.vm) m #[(.ref a1), (.ref a2), (.int 0), (.int 0), .null] below meth c s₁ [] 0 0 := Stand.of_body Bd
  have e0 : s₁.heap = h0 := by rw [← hh, Bd.state]; rfl
  have N0 := Fr.nil n0
  have hS0 : s.Since s.vm h0.size := (State.WarmedH.refl s).since _
  have CR0 : CHr Z EL s.vm s.heap s.vm h0 := by rw [hh]; exact CHr.refl hCH
  have K0 : Keep h0 h0 [a1] := Keep.refl h0 _
  show Go p e below (OutW Z EL s (Q_iv0 Z a1 a2 h0 n0) Ro22.cells Ro22.slots) s₁ (entryFrame m #[(.ref a1), (.ref a2), (.int 0), (.int 0), .null] 6)
  refine Go.cast (oef_iv0 m a1 a2 (0 : Int32) (0 : Int32)) ?_
  show Go p e below _ _ (mkF m 0 #[rv a1, rv a2, iv 0, iv 0, .val .null, un] [])
  have Sf0 : Safe Z EL s.vm h0 a1 := safe_str hZ.alike E1 F1
  refine zalN Y B o556 rfl ?_
  refine Go.a3 (initO Y B.1 hZ hown (ow20 hw) (ow21 hw) (ow22 hw) e0 rfl (by rw [hml]; rfl) rfl (hb B.2 o557.1) (by decide) (W := 0) (by show 2 * 0 + _ ≤ _; exact Nat.le_of_eq rfl) (by decide)) fun _ Y e30 => ?_
  refine zilN Y B o558 rfl <| zN Y B o559 (by decide) ?_
  refine zalN Y B o560 rfl ?_
  obtain ⟨sa31, T31, h31, k31, sb31, kb31, Y, e31, E31, hS31, hk31, hZ31, hown31, PE31, PC31, PV31, PA31, la31, lb31, R31, LT31, SF31, st31⟩ := ldcCH Y B.1 hZ hown (ow229 hw) (ostr hw) e30 hS0 (Nat.le_trans (Nat.le_refl _) (Nat.le_refl _)) (hEW hw) (List.mem_of_getElem? (i := 0) rfl) CR0.1 (vs := ((([] : List Int32).map (fun c => c.toInt8.toInt32)).map Value.int)) (z := (0 : Int32)) (by decide +kernel) (by decide) (by decide) (g := (mkF m 9 #[rv a1, rv a2, iv 0, iv 0, .val .null, un] [(.ref a1)])) rfl (hb B.2 o561.1) (n := 0) (by decide) (by decide) (by decide) (by decide)
  refine Go.by st31 ?_
  have CR32 := CR0.trans R31
  have K32 := K0.ext E31
  show Go p e below _ _ (mkF m 11 #[rv a1, rv a2, iv 0, iv 0, .val .null, un] [(.ref sa31), (.ref a1)])
  refine zgf Y B hZ31 hown31 (ow23 hw) Via.refl e31 PV31 o562 fun _ Y e33 => ?_
  have F35 := (F1.ext E31)
  have F36 := (E1.ext E31)
  refine Go.b3 (putF Y B.1 hZ31 hown31 (host := "") (Or.inl (ow23 hw)) Via.refl e33 F35 F36 (Or.inr ⟨(ow24 hw), rfl, hnm⟩) (ow11 hw) (ty := (.array .byte)) (by decide) rfl rfl rfl rfl (hb B.2 o563.1)) fun T34 h34 Y e34 W34 => ?_
  have N34 := Fr.snoc Y N0 g_a1
  have Sf38 : Safe Z EL T31.vm h31 a1 := (R31.safe E1.lt Sf0)
  have R37 := CHr.wr W34 Sf38 CR32.1
  have CR37 := CR32.trans R37
  have K37 := K32.wr W34 (Or.inl (List.mem_of_getElem? (i := 0) rfl))
  refine zalN Y B o564 rfl ?_
  obtain ⟨sa39, T39, h39, k39, sb39, kb39, Y, e39, E39, hS39, hk39, hZ39, hown39, PE39, PC39, PV39, PA39, la39, lb39, R39, LT39, SF39, st39⟩ := ldcCH Y B.1 hZ31 hown31 (ow229 hw) (ostr hw) e34 hS31 (Nat.le_trans hk31 (Keep.of_wr W34).1) (hEW hw) (List.mem_of_getElem? (i := 0) rfl) CR37.1 (vs := ((([] : List Int32).map (fun c => c.toInt8.toInt32)).map Value.int)) (z := (0 : Int32)) (by decide +kernel) (by decide) (by decide) (g := (mkF m 18 #[rv a1, rv a2, iv 0, iv 0, .val .null, un] [(.ref a1)])) rfl (hb B.2 o565.1) (n := 0) (by decide) (by decide) (by decide) (by decide)
  refine Go.by st39 ?_
  have CR40 := CR37.trans R39
  have K40 := K37.ext E39
  show Go p e below _ _ (mkF m 20 #[rv a1, rv a2, iv 0, iv 0, .val .null, un] [(.ref sa39), (.ref a1)])
  refine zgf Y B hZ39 hown39 (ow25 hw) Via.refl e39 PC39 o566 fun _ Y e41 => ?_
  have F43 := (((F2.ext E31).other W34 (Or.inr (slot_ne (Or.inr (ow26 hw)) (Or.inr (ow24 hw)) (by decide) (t := .byte) (t' := (.array .byte)) (by decide) (by decide)))).ext E39)
  have F44 := ((F36.wr W34).ext E39)
  refine Go.b3 (putFN Y B.1 hZ39 hown39 (ow25 hw) Via.refl e41 F43 F44 (Or.inr ⟨(ow26 hw), rfl, hnm⟩) (ow11 hw) (ty := .byte) (v' := (.int (nar .byte (0 : Int32)))) (by decide) rfl (fits_nar_byte _) rfl rfl (hb B.2 o567.1)) fun T42 h42 Y e42 W42 => ?_
  have N42 := Fr.snoc Y N34 g_a1
  have Sf46 : Safe Z EL T39.vm h39 a1 := (R39.safe (F36.wr W34).lt (R37.safe F36.lt Sf38))
  have R45 := CHr.wr W42 Sf46 CR40.1
  have CR45 := CR40.trans R45
  have K45 := K40.wr W42 (Or.inl (List.mem_of_getElem? (i := 0) rfl))
  have F47 := (F44.wr W42)
  have F48 := (((F35.same W34).ext E39).other W42 (Or.inr (slot_ne (Or.inr (ow24 hw)) (Or.inr (ow26 hw)) (by decide) (t := (.array .byte)) (t' := .byte) (by decide) (by decide))))
  have F49 := (((PA31.other W34 (Ne.symm (SF31 a1 Sf38).2)).ext E39).other W42 (Ne.symm (SF31 a1 Sf38).2))
  exact Go.ret0W Y B.1 hret hlk (hb B.2 o568.1) hS39 (by rw [e42]; exact (Nat.le_trans hk39 (Keep.of_wr W42).1)) hZ39 (hEW hw) (by rw [e42]; exact CR45) (by first | (rw [e42]; exact ⟨sb31, kb31, rfl, N42, K45, F47, (F43.same W42), F48, F49⟩) | exact ⟨sb31, kb31, rfl, N42, K45, F47, (F43.same W42), F48, F49⟩) (by decide) (by decide)
def Q_ic0 (Z : State) (a1 a2 : Addr) (k2 : ClassId) (h0 : Heap) (n0 : Nat) : QT := fun rv hE LE => ∃ t : Addr, ∃ kb : ClassId, rv = none ∧ Fr n0 LE ∧ Keep h0 hE [a1] ∧ (Exa Z hE a1 ss0) ∧ (Fld Z hE a1 ss0 ss2 "B" (.int 0)) ∧ (Fld Z hE a1 ss0 ss3 "[B" (.ref t)) ∧ (Arv Z hE t kb .byte (0 : Int32) (B8 []) (.int 0))
theorem rm_ic0 (l : Launch) (Z : State) (a0 : Array Value) (hw : HW a0 Z) (ws : List Jvm.Cond) (a1 a2 : Addr) (k2 : ClassId) (h0 : Heap) (n0 : Nat) (Z0 : n0 ≤ h0.size) (E1 : Exa Z h0 a1 ss0) (g_a1 : n0 ≤ a1) (F1 : Fld Z h0 a1 ss0 ss3 "[B" .null) (F2 : Fld Z h0 a1 ss0 ss2 "B" (.int 0)) (V2 : Arv Z h0 a2 k2 .char (0 : Int32) ([]) (.int 0)) :
    MetFree l mn38 (head1 (Jvm.Cond.code mn38 cB38 2 (Option.none : Option Jvm.ClassFile.FieldType) :: ws) Ro23) (fun ar_ U => ar_ = #[(.ref a1), (.ref a2)] ∧ Z.Warmed39 U.vm ∧ U.heap = h0 ∧ CHv Z EL U.vm h0) (fun _ _ _ _ _ => True) (fun _ U o_ U' => OutW Z EL U (Q_ic0 Z a1 a2 k2 h0 n0) Ro23.cells Ro23.slots o_ U') := by
  refine MetFree.of_bodySF (plainFor_of_name opn_0) hisR ?_
  intro p e s m args below meth c s₁ Bd hml0 hP hK
  obtain ⟨rfl, hZ, hh, hCH⟩ := hP
  have B : HB p c _ := ⟨Bd.exec, Bd.bytes⟩
  have hml : c.maxLocals = 2 := hml0
  have hret := Bd.returns
  have hlk : meth.locks = false := BodyLoose.notSynchronized Bd
  have hown : s.vm.findClass ss0 = some m.cls := findClass_of_methodNamed Bd.named
  have hnm := (name_of_methodNamed Bd.named Bd.method).1
  have Y : Stand p l e Ro23 (s.setVm s.vm) m #[(.ref a1), (.ref a2)] below meth c s₁ [] 0 0 := Stand.of_body Bd
  have e0 : s₁.heap = h0 := by rw [← hh, Bd.state]; rfl
  have N0 := Fr.nil n0
  have hS0 : s.Since s.vm h0.size := (State.WarmedH.refl s).since _
  have CR0 : CHr Z EL s.vm s.heap s.vm h0 := by rw [hh]; exact CHr.refl hCH
  have K0 : Keep h0 h0 [a1] := Keep.refl h0 _
  show Go p e below (OutW Z EL s (Q_ic0 Z a1 a2 k2 h0 n0) Ro23.cells Ro23.slots) s₁ (entryFrame m #[(.ref a1), (.ref a2)] 2)
  refine Go.cast (oef_ic0 m a1 a2) ?_
  show Go p e below _ _ (mkF m 0 #[rv a1, rv a2] [])
  have Sf0 : Safe Z EL s.vm h0 a1 := safe_str hZ.alike E1 F1
  refine zalN Y B o569 rfl <| zalN Y B o570 rfl <| zc0 Y B o571 <| zalN Y B o572 rfl ?_
  refine zln Y B hZ e0 V2 o573 ?_
  refine znull Y B o574 ?_
  obtain ⟨_, _, ⟨T31, L31, k31, n31⟩, -, XX31, hSn31, hgn31, ⟨Lc31, hQ31, l31, y31, z31, RQ31⟩, st31⟩ := Y.specialBackS B.1 (y := mn37) rfl hown (mvT hZ (ow204 hw)) (mvT hZ (ow205 hw)) (mvT hZ (ow206 hw)) (by decide) (backOfSH (W := 0) (rm_iv0 l Z a0 hw [] a1 a2 h0 n0 (Nat.le_trans Z0 (Nat.le_refl _)) E1 g_a1 F1 F2) hZ (ow206 hw) (ow3 hw) (by decide) (by decide) (hEW hw) CR0.1) (g := (mkF m 6 #[rv a1, rv a2] [.null, (.int 0), (.int 0), (.ref a2), (.ref a1)])) rfl (by rw [hml]; rfl) (Steps.refl _) (a := a1) (argsL := [(.ref a2), (.int 0), (.int 0), .null]) (rest := []) (lenOf opd_27 rfl) rfl (by show 2 * 0 + _ ≤ _; exact Nat.le_of_eq rfl) (hb B.2 o575.1) (fun _ _ => ⟨rfl, e0, (by decide : 0 + 4 ≤ _), (by decide : 0 + 8 ≤ _)⟩)
  dsimp only [Pt.U, Pt.locs, Pt.cells, Pt.slots] at XX31 hSn31 hgn31 l31 y31 z31 st31 hQ31 RQ31
  subst l31 y31 z31
  obtain ⟨Y, hS31, hZ31, hown31⟩ := rebS hS0 (by rw [e0]; exact (Nat.le_trans (Nat.le_refl _) (Nat.le_refl _))) XX31 hSn31 hgn31 hZ hown
  obtain ⟨t_31, kb_31, rfl, N31q, K31q, P31_0, P31_1, P31_2, P31_3⟩ := hQ31
  have N31 := Fr.app N0 N31q
  refine Go.tr st31 ?_
  have CR32 := CR0.trans RQ31
  have K32 := K0.trans K31q (allS (Or.inl (List.mem_of_getElem? (i := 0) rfl)) all0)
  exact Go.ret0W Y B.1 hret hlk (hb B.2 o576.1) hS31 (Nat.le_trans (Nat.le_refl _) (Nat.le_refl _)) hZ31 (hEW hw) CR32 ⟨t_31, kb_31, rfl, N31, K32, P31_0, P31_1, P31_2, P31_3⟩ (by decide) (by decide)
def Q_law (Z : State) (i0 i1 i2 i3 : Int32) (on : Addr) (ko : ClassId) (te : Addr) (ke : ClassId) (G1 : Int32) (G3 : Value) (h0 : Heap) (n0 : Nat) : QT := fun rv hE LE => rv = some (.int 1) ∧ Fr n0 LE ∧ Keep h0 hE []
theorem rm_law (l : Launch) (Z : State) (a0 : Array Value) (hw : HW a0 Z) (ws : List Jvm.Cond) (i0 i1 i2 i3 : Int32) (on : Addr) (ko : ClassId) (te : Addr) (ke : ClassId) (G1 : Int32) (G3 : Value) (h0 : Heap) (n0 : Nat) (Z0 : n0 ≤ h0.size) (OS1 : Sta Z Z.heap ss4 ss8 "[B" (.ref on)) (OD1 : Arv Z Z.heap on ko .byte (100 : Int32) ONES (.int 0)) (OS2 : Sta Z Z.heap ss4 ss9 "[B" (.ref te)) (OD2 : Arv Z Z.heap te ke .byte (100 : Int32) TENS (.int 0)) (O2 : Sta Z Z.heap ss0 ss6 "Z" (.int G1)) (P5 : ¬ (G1 = (0 : Int32))) (X00 : Old Z n0 h0) (O4 : Sta Z Z.heap ss11 ss13 ss14 G3) (rG3 : G3.isRef = true) :
    MetFree l x (head1 (Jvm.Cond.code x code maxLocals ret :: ws) room_1) (fun ar_ U => ar_ = #[(.int i0), (.int i1), (.int i2), (.int i3)] ∧ Z.Warmed39 U.vm ∧ U.heap = h0 ∧ CHv Z EL U.vm h0) (fun _ _ _ _ _ => True) (fun _ U o_ U' => OutW Z EL U (Q_law Z i0 i1 i2 i3 on ko te ke G1 G3 h0 n0) room_1.cells room_1.slots o_ U') := by
  refine MetFree.of_bodySF (plainFor_of_name opn_6) hisR ?_
  intro p e s m args below meth c s₁ Bd hml0 hP hK
  obtain ⟨rfl, hZ, hh, hCH⟩ := hP
  have B : HB p c _ := ⟨Bd.exec, Bd.bytes⟩
  have hml : c.maxLocals = 13 := hml0
  have hret := Bd.returns
  have hlk : meth.locks = false := BodyLoose.notSynchronized Bd
  have hown : s.vm.findClass ss12 = some m.cls := findClass_of_methodNamed Bd.named
  have hnm := (name_of_methodNamed Bd.named Bd.method).1
  have Y : Stand p l e room_1 (s.setVm s.vm) m #[(.int i0), (.int i1), (.int i2), (.int i3)] below meth c s₁ [] 0 0 := Stand.of_body Bd
  have e0 : s₁.heap = h0 := by rw [← hh, Bd.state]; rfl
  have N0 := Fr.nil n0
  have hS0 : s.Since s.vm h0.size := (State.WarmedH.refl s).since _
  have CR0 : CHr Z EL s.vm s.heap s.vm h0 := by rw [hh]; exact CHr.refl hCH
  have K0 : Keep h0 h0 [] := Keep.refl h0 _
  show Go p e below (OutW Z EL s (Q_law Z i0 i1 i2 i3 on ko te ke G1 G3 h0 n0) room_1.cells room_1.slots) s₁ (entryFrame m #[(.int i0), (.int i1), (.int i2), (.int i3)] maxLocals)
  refine Go.cast (oef_law m i0 i1 i2 i3) ?_
  show Go p e below _ _ (mkF m 0 #[iv i0, iv i1, iv i2, iv i3, un, un, un, un, un, un, un, un, un] [])
  have P152 : ∀ (T30 : State) (LL30 : List Loc) (hP30 : Heap) (vm30 : Vm) (kk30 : Nat) (M : Nat) (N : Nat) (q0 : Int32) (q1 : Int32) (q2 : Int32) (x : Addr) (t : Addr) (kt : ClassId) (ps : List Int32), Stand p l e room_1 (s.setVm vm30) m #[(.int i0), (.int i1), (.int i2), (.int i3)] below meth c T30 LL30 8 24 → T30.heap = hP30 → Fr n0 LL30 → Keep h0 hP30 [] → Old Z n0 hP30 → s.Since vm30 kk30 → kk30 ≤ hP30.size → Z.Warmed39 (s.setVm vm30).vm → (s.setVm vm30).vm.findClass ss12 = some m.cls → CHr Z EL s.vm h0 vm30 hP30 → (Exa Z hP30 x ss0) → (Fld Z hP30 x ss0 ss2 "B" (.int 0)) → (Fld Z hP30 x ss0 ss3 "[B" (.ref t)) → (Arv Z hP30 t kt .byte (Int32.ofNat ps.length) (B8 ps) (.int 0)) → (ps.length ≤ 3) → (∀ c ∈ ps, ¬ c < 0 ∧ ¬ (255 : Int32) < c) → (M + 1 < 2 ^ 31) → (N ≤ M) → Go p e below (OutW Z EL s (Q_law Z i0 i1 i2 i3 on ko te ke G1 G3 h0 n0) room_1.cells room_1.slots) T30 (mkF m 152 #[iv i0, iv i1, iv i2, iv i3, iv (Int32.ofNat (M + 1)), iv (Int32.ofNat N), iv (Int32.ofNat ps.length), iv q0, iv q1, iv q2, rv x, un, un] []) := by
    intro T30 LL30 hP30 vm30 kk30 M N q0 q1 q2 x t kt ps Y e30 N30 KP30 OP30 hS30 hk30 hZ30 hown30 RP30 S0 S1 S2 S3 HPS LOP HM HN
    have CRP30 := CR0.trans RP30
    refine zil Y B o577 rfl <| zc1 Y B o578 <| zisub Y B o579 rfl ?_
    rw [show ((Int32.ofNat (M + 1)) - (1 : Int32)) = (Int32.ofNat M) from (on_sub (b := 1) (by omega) HM)]
    refine zcs Y B hZ30 hown30 (ow27 hw) (ow28 hw) (ow29 hw) (ow30 hw) (by decide) (rm_width l Z a0 hw [] M hP30 n0 (Nat.le_trans Z0 KP30.1) (by omega)) e30 hml opd_19 rfl o580 rfl rfl rfl rfl rfl fun _ T31 _ Y hQ => ?_
    obtain ⟨k_31, rfl, N31q, e31, P31_0⟩ := hQ
    have N31 := Fr.app N30 N31q
    refine zis Y B o581 (s11 rfl) ?_
    refine zno Y B hZ30 hown30 (ow31 hw) (ow32 hw) (ow33 hw) e31 o582 rfl rfl fun T32 h32 b32 g32 Y e32 E32 A32 D32 U32 => ?_
    have R33 := CHr.ext E32 CRP30.1
    have CR33 := CRP30.trans R33
    have K33 := KP30.ext E32
    have O33 := OP30.ext E32
    have Sf34 : Safe Z EL vm30 h32 b32 := Safe.ext E32 CRP30.1 (Safe.new (Nat.le_of_eq g32.symm))
    refine zdup Y B o583 rfl <| zal Y B o584 rfl <| zil Y B o585 rfl ?_
    refine zci Y B hZ30 rfl hown30 (ow34 hw) (ow35 hw) (ow33 hw) (ow36 hw) (by decide) (rm_nninit l Z a0 hw [] b32 x M on ko te ke G1 h32 n0 (Nat.le_trans Z0 K33.1) A32 (D32 (Or.inr (ow39 hw)) (ty := (.object ss0)) (by decide)) (D32 (Or.inr (ow65 hw)) (ty := .int) (by decide)) ((Nat.le_trans (Nat.le_trans Z0 KP30.1) (Nat.le_of_eq g32.symm))) HM OS1 OD1 OS2 OD2 O2 P5 O33) e32 hml opd_28 rfl o586 rfl rfl rfl rfl rfl fun _ T35 _ Y hQ => ?_
    obtain ⟨k_35, rfl, N35q, K35q, P35_0, P35_1, P35_2, P35_3⟩ := hQ
    have N35 := Fr.app N31 N35q
    have R36 := CHr.keep K35q (allS (Safe.exa hZ30.alike A32 (by decide) (by decide)) all0) CR33.1
    have CR36 := CR33.trans R36
    have K36 := K33.trans K35q (allS (Or.inr (Nat.le_trans KP30.1 (Nat.le_of_eq g32.symm))) all0)
    have O36 := O33.keep K35q (allS (Nat.le_trans (Nat.le_trans Z0 KP30.1) (Nat.le_of_eq g32.symm)) all0)
    rw [wd_uniq P35_3 P31_0] at P35_2
    refine zil Y B o587 rfl ?_
    have F38 := ((S0.ext E32).keep K35q)
    have F39 := ((S1.ext E32).keep K35q (ninS (Nat.ne_of_lt (Nat.lt_of_lt_of_le S0.lt (Nat.le_of_eq g32.symm))) nin0))
    have F40 := ((S2.ext E32).keep K35q (ninS (Nat.ne_of_lt (Nat.lt_of_lt_of_le S0.lt (Nat.le_of_eq g32.symm))) nin0))
    have F41 := ((S3.ext E32).keep K35q (ninS (Nat.ne_of_lt (Nat.lt_of_lt_of_le S3.lt (Nat.le_of_eq g32.symm))) nin0))
    refine zcv Y B hZ30 hown30 (ow66 hw) (ow67 hw) (notFace_of_selects (args := #[]) (mvT hZ30 (ow69 hw))) (ow69 hw) (ow68 hw) (ow33 hw) (ow70 hw) (by decide) P35_0 (rm_nname l Z a0 hw [] b32 x t kt ps k_31 N on ko te ke G1 T35.heap n0 (Nat.le_trans Z0 K36.1) P35_0 P35_1 P35_2 F38 F39 F40 F41 HPS (P31_0.2.1) (fun k h => wd_le h P31_0 HN) (by omega) OS1 OD1 OS2 OD2 O2 P5 O36) rfl hml opd_21 rfl o588 rfl rfl rfl rfl rfl fun _ T37 _ Y hQ => ?_
    obtain ⟨x'_37, t'_37, kt'_37, rfl, N37q, K37q, P37_0, P37_1, P37_2, P37_3, P37_4, P37_5⟩ := hQ
    have N37 := Fr.app N35 N37q
    have R42 := CHr.keep K37q all0 CR36.1
    have CR42 := CR36.trans R42
    have K42 := K36.trans K37q all0
    have O42 := O36.keep K37q all0
    have Sf43 : Safe Z EL vm30 T37.heap x'_37 := Safe.keep K37q all0 CR36.1 (Safe.new P37_0)
    have Sf44 : Safe Z EL vm30 T37.heap t'_37 := Safe.keep K37q all0 CR36.1 (Safe.new P37_1)
    refine zas Y B o589 (s12 rfl) rfl <| zal Y B o590 rfl ?_
    refine zcv Y B hZ30 hown30 (ow170 hw) (ow55 hw) (notFace_of_selects (args := #[]) (mvT hZ30 (ow57 hw))) (ow57 hw) (ow56 hw) (ow3 hw) (ow58 hw) (by decide) P37_2 (rm_slen l Z a0 hw [] x'_37 t'_37 kt'_37 (ps ++ D k_31 N) G1 T37.heap n0 (Nat.le_trans Z0 K42.1) P37_2 P37_3 P37_4 P37_5 O2 P5 O42) rfl hml opd_11 rfl o591 rfl rfl rfl rfl rfl fun _ T45 _ Y hQ => ?_
    obtain ⟨rfl, N45q, e45⟩ := hQ
    have N45 := Fr.app N37 N45q
    refine zil Y B o592 rfl <| zil Y B o593 rfl <| ziadd Y B o594 rfl ?_
    refine zCY Y B j45 (teq (show (Int32.ofNat (ps ++ D k_31 N).length) = ((Int32.ofNat ps.length) + (Int32.ofNat k_31)) from (by rw [on_add, List.length_append, D_len]))).1 ?_
    refine zal Y B o595 rfl <| zc0 Y B o596 <| zal Y B o597 rfl <| zil Y B o598 rfl <| zil Y B o599 rfl <| zil Y B o600 rfl ?_
    have F47 := (F38.keep K37q)
    have F48 := (F39.keep K37q nin0)
    have F49 := (F40.keep K37q nin0)
    have F50 := (F41.keep K37q nin0)
    refine zcs Y B hZ30 hown30 (ow171 hw) (ow172 hw) (ow29 hw) (ow173 hw) (by decide) (rm_at l Z a0 hw [] x'_37 t'_37 kt'_37 (ps ++ D k_31 N) 0 x t kt ps k_31 N G1 G3 T37.heap n0 (Nat.le_trans Z0 K42.1) P37_2 P37_3 P37_4 P37_5 F47 F48 F49 F50 (rfl) HPS (⟨P31_0.1, P31_0.2.1⟩) (by decide) (by omega) LOP O2 P5 O42 O4 rG3) e45 hml opd_29 rfl o601 rfl rfl rfl rfl rfl fun _ T46 _ Y hQ => ?_
    obtain ⟨rfl, N46q, e46⟩ := hQ
    have N46 := Fr.app N45 N46q
    refine zN Y B o602 (by decide) ?_
    refine zal Y B o603 rfl <| zc1 Y B o604 <| zal Y B o605 rfl <| zil Y B o606 rfl <| zil Y B o607 rfl <| zil Y B o608 rfl ?_
    refine zcs Y B hZ30 hown30 (ow171 hw) (ow172 hw) (ow29 hw) (ow173 hw) (by decide) (rm_at l Z a0 hw [] x'_37 t'_37 kt'_37 (ps ++ D k_31 N) 1 x t kt ps k_31 N G1 G3 T37.heap n0 (Nat.le_trans Z0 K42.1) P37_2 P37_3 P37_4 P37_5 F47 F48 F49 F50 (rfl) HPS (⟨P31_0.1, P31_0.2.1⟩) (by decide) (by omega) LOP O2 P5 O42 O4 rG3) e46 hml opd_29 rfl o609 rfl rfl rfl rfl rfl fun _ T51 _ Y hQ => ?_
    obtain ⟨rfl, N51q, e51⟩ := hQ
    have N51 := Fr.app N46 N51q
    refine zN Y B o610 (by decide) ?_
    refine zal Y B o611 rfl <| zc2 Y B o612 <| zal Y B o613 rfl <| zil Y B o614 rfl <| zil Y B o615 rfl <| zil Y B o616 rfl ?_
    refine zcs Y B hZ30 hown30 (ow171 hw) (ow172 hw) (ow29 hw) (ow173 hw) (by decide) (rm_at l Z a0 hw [] x'_37 t'_37 kt'_37 (ps ++ D k_31 N) 2 x t kt ps k_31 N G1 G3 T37.heap n0 (Nat.le_trans Z0 K42.1) P37_2 P37_3 P37_4 P37_5 F47 F48 F49 F50 (rfl) HPS (⟨P31_0.1, P31_0.2.1⟩) (by decide) (by omega) LOP O2 P5 O42 O4 rG3) e51 hml opd_29 rfl o617 rfl rfl rfl rfl rfl fun _ T52 _ Y hQ => ?_
    obtain ⟨rfl, N52q, e52⟩ := hQ
    have N52 := Fr.app N51 N52q
    refine zN Y B o618 (by decide) ?_
    refine zal Y B o619 rfl <| zc3 Y B o620 <| zal Y B o621 rfl <| zil Y B o622 rfl <| zil Y B o623 rfl <| zil Y B o624 rfl ?_
    refine zcs Y B hZ30 hown30 (ow171 hw) (ow172 hw) (ow29 hw) (ow173 hw) (by decide) (rm_at l Z a0 hw [] x'_37 t'_37 kt'_37 (ps ++ D k_31 N) 3 x t kt ps k_31 N G1 G3 T37.heap n0 (Nat.le_trans Z0 K42.1) P37_2 P37_3 P37_4 P37_5 F47 F48 F49 F50 (rfl) HPS (⟨P31_0.1, P31_0.2.1⟩) (by decide) (by omega) LOP O2 P5 O42 O4 rG3) e52 hml opd_29 rfl o625 rfl rfl rfl rfl rfl fun _ T53 _ Y hQ => ?_
    obtain ⟨rfl, N53q, e53⟩ := hQ
    have N53 := Fr.app N52 N53q
    refine zN Y B o626 (by decide) ?_
    refine zal Y B o627 rfl <| zc4 Y B o628 <| zal Y B o629 rfl <| zil Y B o630 rfl <| zil Y B o631 rfl <| zil Y B o632 rfl ?_
    refine zcs Y B hZ30 hown30 (ow171 hw) (ow172 hw) (ow29 hw) (ow173 hw) (by decide) (rm_at l Z a0 hw [] x'_37 t'_37 kt'_37 (ps ++ D k_31 N) 4 x t kt ps k_31 N G1 G3 T37.heap n0 (Nat.le_trans Z0 K42.1) P37_2 P37_3 P37_4 P37_5 F47 F48 F49 F50 (rfl) HPS (⟨P31_0.1, P31_0.2.1⟩) (by decide) (by omega) LOP O2 P5 O42 O4 rG3) e53 hml opd_29 rfl o633 rfl rfl rfl rfl rfl fun _ T54 _ Y hQ => ?_
    obtain ⟨rfl, N54q, e54⟩ := hQ
    have N54 := Fr.app N53 N54q
    refine zN Y B o634 (by decide) ?_
    refine zal Y B o635 rfl <| zc5 Y B o636 <| zal Y B o637 rfl <| zil Y B o638 rfl <| zil Y B o639 rfl <| zil Y B o640 rfl ?_
    refine zcs Y B hZ30 hown30 (ow171 hw) (ow172 hw) (ow29 hw) (ow173 hw) (by decide) (rm_at l Z a0 hw [] x'_37 t'_37 kt'_37 (ps ++ D k_31 N) 5 x t kt ps k_31 N G1 G3 T37.heap n0 (Nat.le_trans Z0 K42.1) P37_2 P37_3 P37_4 P37_5 F47 F48 F49 F50 (rfl) HPS (⟨P31_0.1, P31_0.2.1⟩) (by decide) (by omega) LOP O2 P5 O42 O4 rG3) e54 hml opd_29 rfl o641 rfl rfl rfl rfl rfl fun _ T55 _ Y hQ => ?_
    obtain ⟨rfl, N55q, e55⟩ := hQ
    have N55 := Fr.app N54 N55q
    refine zN Y B o642 (by decide) ?_
    refine zal Y B o643 rfl <| zbp Y B o644 (v := 6) rfl <| zal Y B o645 rfl <| zil Y B o646 rfl <| zil Y B o647 rfl <| zil Y B o648 rfl ?_
    refine zcs Y B hZ30 hown30 (ow171 hw) (ow172 hw) (ow29 hw) (ow173 hw) (by decide) (rm_at l Z a0 hw [] x'_37 t'_37 kt'_37 (ps ++ D k_31 N) 6 x t kt ps k_31 N G1 G3 T37.heap n0 (Nat.le_trans Z0 K42.1) P37_2 P37_3 P37_4 P37_5 F47 F48 F49 F50 (rfl) HPS (⟨P31_0.1, P31_0.2.1⟩) (by decide) (by omega) LOP O2 P5 O42 O4 rG3) e55 hml opd_29 rfl o649 rfl rfl rfl rfl rfl fun _ T56 _ Y hQ => ?_
    obtain ⟨rfl, N56q, e56⟩ := hQ
    have N56 := Fr.app N55 N56q
    refine zN Y B o650 (by decide) ?_
    refine zal Y B o651 rfl <| zbp Y B o652 (v := 7) rfl <| zal Y B o653 rfl <| zil Y B o654 rfl <| zil Y B o655 rfl <| zil Y B o656 rfl ?_
    refine zcs Y B hZ30 hown30 (ow171 hw) (ow172 hw) (ow29 hw) (ow173 hw) (by decide) (rm_at l Z a0 hw [] x'_37 t'_37 kt'_37 (ps ++ D k_31 N) 7 x t kt ps k_31 N G1 G3 T37.heap n0 (Nat.le_trans Z0 K42.1) P37_2 P37_3 P37_4 P37_5 F47 F48 F49 F50 (rfl) HPS (⟨P31_0.1, P31_0.2.1⟩) (by decide) (by omega) LOP O2 P5 O42 O4 rG3) e56 hml opd_29 rfl o657 rfl rfl rfl rfl rfl fun _ T57 _ Y hQ => ?_
    obtain ⟨rfl, N57q, e57⟩ := hQ
    have N57 := Fr.app N56 N57q
    refine zN Y B o658 (by decide) ?_
    refine zal Y B o659 rfl <| zbp Y B o660 (v := 8) rfl <| zal Y B o661 rfl <| zil Y B o662 rfl <| zil Y B o663 rfl <| zil Y B o664 rfl ?_
    refine zcs Y B hZ30 hown30 (ow171 hw) (ow172 hw) (ow29 hw) (ow173 hw) (by decide) (rm_at l Z a0 hw [] x'_37 t'_37 kt'_37 (ps ++ D k_31 N) 8 x t kt ps k_31 N G1 G3 T37.heap n0 (Nat.le_trans Z0 K42.1) P37_2 P37_3 P37_4 P37_5 F47 F48 F49 F50 (rfl) HPS (⟨P31_0.1, P31_0.2.1⟩) (by decide) (by omega) LOP O2 P5 O42 O4 rG3) e57 hml opd_29 rfl o665 rfl rfl rfl rfl rfl fun _ T58 _ Y hQ => ?_
    obtain ⟨rfl, N58q, e58⟩ := hQ
    have N58 := Fr.app N57 N58q
    refine zN Y B o666 (by decide) ?_
    refine zal Y B o667 rfl <| zbp Y B o668 (v := 9) rfl <| zal Y B o669 rfl <| zil Y B o670 rfl <| zil Y B o671 rfl <| zil Y B o672 rfl ?_
    refine zcs Y B hZ30 hown30 (ow171 hw) (ow172 hw) (ow29 hw) (ow173 hw) (by decide) (rm_at l Z a0 hw [] x'_37 t'_37 kt'_37 (ps ++ D k_31 N) 9 x t kt ps k_31 N G1 G3 T37.heap n0 (Nat.le_trans Z0 K42.1) P37_2 P37_3 P37_4 P37_5 F47 F48 F49 F50 (rfl) HPS (⟨P31_0.1, P31_0.2.1⟩) (by decide) (by omega) LOP O2 P5 O42 O4 rG3) e58 hml opd_29 rfl o673 rfl rfl rfl rfl rfl fun _ T59 _ Y hQ => ?_
    obtain ⟨rfl, N59q, e59⟩ := hQ
    have N59 := Fr.app N58 N59q
    refine zN Y B o674 (by decide) ?_
    refine zal Y B o675 rfl <| zbp Y B o676 (v := 10) rfl <| zal Y B o677 rfl <| zil Y B o678 rfl <| zil Y B o679 rfl <| zil Y B o680 rfl ?_
    refine zcs Y B hZ30 hown30 (ow171 hw) (ow172 hw) (ow29 hw) (ow173 hw) (by decide) (rm_at l Z a0 hw [] x'_37 t'_37 kt'_37 (ps ++ D k_31 N) 10 x t kt ps k_31 N G1 G3 T37.heap n0 (Nat.le_trans Z0 K42.1) P37_2 P37_3 P37_4 P37_5 F47 F48 F49 F50 (rfl) HPS (⟨P31_0.1, P31_0.2.1⟩) (by decide) (by omega) LOP O2 P5 O42 O4 rG3) e59 hml opd_29 rfl o681 rfl rfl rfl rfl rfl fun _ T60 _ Y hQ => ?_
    obtain ⟨rfl, N60q, e60⟩ := hQ
    have N60 := Fr.app N59 N60q
    refine zN Y B o682 (by decide) ?_
    refine zal Y B o683 rfl <| zbp Y B o684 (v := 11) rfl <| zal Y B o685 rfl <| zil Y B o686 rfl <| zil Y B o687 rfl <| zil Y B o688 rfl ?_
    refine zcs Y B hZ30 hown30 (ow171 hw) (ow172 hw) (ow29 hw) (ow173 hw) (by decide) (rm_at l Z a0 hw [] x'_37 t'_37 kt'_37 (ps ++ D k_31 N) 11 x t kt ps k_31 N G1 G3 T37.heap n0 (Nat.le_trans Z0 K42.1) P37_2 P37_3 P37_4 P37_5 F47 F48 F49 F50 (rfl) HPS (⟨P31_0.1, P31_0.2.1⟩) (by decide) (by omega) LOP O2 P5 O42 O4 rG3) e60 hml opd_29 rfl o689 rfl rfl rfl rfl rfl fun _ T61 _ Y hQ => ?_
    obtain ⟨rfl, N61q, e61⟩ := hQ
    have N61 := Fr.app N60 N61q
    refine zN Y B o690 (by decide) ?_
    refine zal Y B o691 rfl <| zbp Y B o692 (v := 12) rfl <| zal Y B o693 rfl <| zil Y B o694 rfl <| zil Y B o695 rfl <| zil Y B o696 rfl ?_
    refine zcs Y B hZ30 hown30 (ow171 hw) (ow172 hw) (ow29 hw) (ow173 hw) (by decide) (rm_at l Z a0 hw [] x'_37 t'_37 kt'_37 (ps ++ D k_31 N) 12 x t kt ps k_31 N G1 G3 T37.heap n0 (Nat.le_trans Z0 K42.1) P37_2 P37_3 P37_4 P37_5 F47 F48 F49 F50 (rfl) HPS (⟨P31_0.1, P31_0.2.1⟩) (by decide) (by omega) LOP O2 P5 O42 O4 rG3) e61 hml opd_29 rfl o697 rfl rfl rfl rfl rfl fun _ T62 _ Y hQ => ?_
    obtain ⟨rfl, N62q, e62⟩ := hQ
    have N62 := Fr.app N61 N62q
    refine zN Y B o698 (by decide) ?_
    refine zc1 Y B o699 <| zgo Y B j46 ?_
    exact Go.retNW Y B.1 (t := .boolean) hret (by simp) hlk (hb B.2 o700.1) hS30 (by rw [e62]; exact (Nat.le_trans hk30 (Nat.le_trans (Nat.le_trans E32.1 K35q.1) K37q.1))) hZ30 (hEW hw) (by rw [e62]; exact CR42) (by first | (rw [e62]; exact ⟨rfl, N62, K42⟩) | exact ⟨rfl, N62, K42⟩) (by decide) (by decide)
  have P14 : ∀ (T63 : State) (LL63 : List Loc) (hP63 : Heap) (vm63 : Vm) (kk63 : Nat) (M : Nat), Stand p l e room_1 (s.setVm vm63) m #[(.int i0), (.int i1), (.int i2), (.int i3)] below meth c T63 LL63 0 0 → T63.heap = hP63 → Fr n0 LL63 → Keep h0 hP63 [] → Old Z n0 hP63 → s.Since vm63 kk63 → kk63 ≤ hP63.size → Z.Warmed39 (s.setVm vm63).vm → (s.setVm vm63).vm.findClass ss12 = some m.cls → CHr Z EL s.vm h0 vm63 hP63 → (M + 1 < 2 ^ 31) → Go p e below (OutW Z EL s (Q_law Z i0 i1 i2 i3 on ko te ke G1 G3 h0 n0) room_1.cells room_1.slots) T63 (mkF m 14 #[iv i0, iv i1, iv i2, iv i3, iv (Int32.ofNat (M + 1)), un, un, un, un, un, un, un, un] []) := by
    intro T63 LL63 hP63 vm63 kk63 M Y e63 N63 KP63 OP63 hS63 hk63 hZ63 hown63 RP63 HM
    have CRP63 := CR0.trans RP63
    refine zilN Y B o701 rfl ?_
    refine Go.f2 (Y.ldcInt B.1 hown63 (mvT hZ63 (ow0 hw)) rfl (hb B.2 o702.1)) ?_
    refine ziand Y B o703 rfl <| zil Y B o704 rfl ?_
    refine Go.by (fun _ kq_ => iremM Y B.1 rfl (hb B.2 o705.1) rfl (fun q => by have := congrArg Int32.toInt q; rw [on_int HM] at this; have e : (0 : Int32).toInt = 0 := rfl; rw [e] at this; omega) kq_) ?_
    show Go p e below _ _ (mkF m 21 #[iv i0, iv i1, iv i2, iv i3, iv (Int32.ofNat (M + 1)), un, un, un, un, un, un, un, un] [(.int ((i1 &&& (2147483647 : Int32)) % (Int32.ofNat (M + 1))))])
    obtain ⟨N, HN, eN⟩ := rem_on i1 HM
    rw [eN]
    show Go p e below _ _ (mkF m 21 #[iv i0, iv i1, iv i2, iv i3, iv (Int32.ofNat (M + 1)), un, un, un, un, un, un, un, un] [(.int (Int32.ofNat N))])
    refine zis Y B o706 (s5 rfl) <| zilN Y B o707 rfl <| zc3 Y B o708 <| ziand Y B o709 rfl <| zis Y B o710 (s6 rfl) <| zilN Y B o711 rfl <| zsp Y B o712 (v := 255) rfl <| ziand Y B o713 rfl ?_
    refine zi2c Y B o714 rfl <| zis Y B o715 (s7 rfl) <| zilN Y B o716 rfl <| zbp Y B o717 (v := 8) rfl <| ziushr Y B o718 rfl <| zsp Y B o719 (v := 255) rfl <| ziand Y B o720 rfl <| zi2c Y B o721 rfl ?_
    refine zis Y B o722 (s8 rfl) <| zilN Y B o723 rfl <| zbp Y B o724 (v := 16) rfl <| ziushr Y B o725 rfl <| zsp Y B o726 (v := 255) rfl <| ziand Y B o727 rfl <| zi2c Y B o728 rfl <| zis Y B o729 (s9 rfl) ?_
    have r0 := ch_lo i2
    have e_0 := (lo_back r0).2
    have r1 := ch_lo ((i2.toUInt32 >>> ((8 : Int32) &&& 31).toUInt32).toInt32)
    have e_1 := (lo_back r1).2
    have r2 := ch_lo ((i2.toUInt32 >>> ((16 : Int32) &&& 31).toUInt32).toInt32)
    have e_2 := (lo_back r2).2
    rcases (mask3c i3 : (i3 &&& (3 : Int32)) = (0 : Int32) ∨ (i3 &&& (3 : Int32)) = (1 : Int32) ∨ (i3 &&& (3 : Int32)) = (2 : Int32) ∨ (i3 &&& (3 : Int32)) = (3 : Int32)) with hk64 | hk64 | hk64 | hk64
    · rw [hk64]
      refine zil Y B o730 rfl <| zN Y B o731 (by decide) ?_
      refine zno Y B hZ63 hown63 (ow199 hw) (ow11 hw) (ow3 hw) e63 o732 rfl rfl fun T65 h65 b65 g65 Y e65 E65 A65 D65 U65 => ?_
      have R66 := CHr.ext E65 CRP63.1
      have CR66 := CRP63.trans R66
      have K66 := KP63.ext E65
      have O66 := OP63.ext E65
      have Sf67 : Safe Z EL vm63 h65 b65 := Safe.ext E65 CRP63.1 (Safe.new (Nat.le_of_eq g65.symm))
      refine zdup Y B o733 rfl <| zc0 Y B o734 ?_
      refine znp Y B hZ63 (aty := .char) (ow200 hw) e65 o735 (by decide) (cap := 0) (by decide) rfl rfl rfl fun T68 h68 k68 b68 g68 Y e68 E68 A68 => ?_
      have R69 := CHr.ext E68 CR66.1
      have CR69 := CR66.trans R69
      have K69 := K66.ext E68
      have O69 := O66.ext E68
      have Sf70 : Safe Z EL vm63 h68 b68 := Safe.ext E68 CR66.1 (Safe.new (Nat.le_of_eq g68.symm))
      have V68 : Arv Z h68 b68 k68 .char (0 : Int32) [] (.int 0) := (Arv.new A68 (by decide)).pad (pad_rep [] (.int 0) 0)
      have F72 := (A65.ext E68)
      have F73 := ((D65 (Or.inr (ow24 hw)) (ty := (.array .byte)) (by decide)).ext E68)
      have F74 := ((D65 (Or.inr (ow26 hw)) (ty := .byte) (by decide)).ext E68)
      obtain ⟨_, _, ⟨T71, L71, k71, n71⟩, -, XX71, hSn71, hgn71, ⟨Lc71, hQ71, l71, y71, z71, RQ71⟩, st71⟩ := Y.specialBackS B.1 (y := mn38) rfl hown63 (mvT hZ63 (ow201 hw)) (mvT hZ63 (ow202 hw)) (mvT hZ63 (ow203 hw)) (by decide) (backOfSH (W := 1) (rm_ic0 l Z a0 hw [] b65 b68 k68 h68 n0 (Nat.le_trans Z0 K69.1) F72 ((Nat.le_trans (Nat.le_trans Z0 KP63.1) (Nat.le_of_eq g65.symm))) F73 F74 V68) hZ63 (ow203 hw) (ow3 hw) (by decide) (by decide) (hEW hw) CR69.1) (g := (mkF m 70 #[iv i0, iv i1, iv i2, iv i3, iv (Int32.ofNat (M + 1)), iv (Int32.ofNat N), iv 0, iv ((i2 &&& (255 : Int32)).toUInt32.toUInt16.toUInt32.toInt32), iv ((((i2.toUInt32 >>> ((8 : Int32) &&& 31).toUInt32).toInt32) &&& (255 : Int32)).toUInt32.toUInt16.toUInt32.toInt32), iv ((((i2.toUInt32 >>> ((16 : Int32) &&& 31).toUInt32).toInt32) &&& (255 : Int32)).toUInt32.toUInt16.toUInt32.toInt32), un, un, un] [(.ref b68), (.ref b65), (.ref b65)])) rfl (by rw [hml]; rfl) (Steps.refl _) (a := b65) (argsL := [(.ref b68)]) (rest := [(.ref b65)]) (lenOf opd_30 rfl) rfl (by show 2 * 0 + _ ≤ _; exact Nat.le_of_eq rfl) (hb B.2 o736.1) (fun _ _ => ⟨rfl, e68, (by decide : 2 + 4 ≤ _), (by decide : 4 + 8 ≤ _)⟩)
      dsimp only [Pt.U, Pt.locs, Pt.cells, Pt.slots] at XX71 hSn71 hgn71 l71 y71 z71 st71 hQ71 RQ71
      subst l71 y71 z71
      obtain ⟨Y, hS71, hZ71, hown71⟩ := rebS hS63 (by rw [e68]; exact (Nat.le_trans hk63 (Nat.le_trans E65.1 E68.1))) XX71 hSn71 hgn71 hZ63 hown63
      obtain ⟨t_71, kb_71, rfl, N71q, K71q, P71_0, P71_1, P71_2, P71_3⟩ := hQ71
      have N71 := Fr.app N63 N71q
      refine Go.tr st71 ?_
      have CR75 := CR69.trans RQ71
      have K75 := K69.trans K71q (allS (Or.inr (Nat.le_trans KP63.1 (Nat.le_of_eq g65.symm))) all0)
      have O75 := O69.keep K71q (allS (Nat.le_trans (Nat.le_trans Z0 KP63.1) (Nat.le_of_eq g65.symm)) all0)
      refine zas Y B o737 (s10 rfl) rfl <| zgo Y B j47 ?_
      show Go p e below _ _ (mkF m 152 #[iv i0, iv i1, iv i2, iv i3, iv (Int32.ofNat (M + 1)), iv (Int32.ofNat N), iv (Int32.ofNat ([] : List Int32).length), iv ((i2 &&& (255 : Int32)).toUInt32.toUInt16.toUInt32.toInt32), iv ((((i2.toUInt32 >>> ((8 : Int32) &&& 31).toUInt32).toInt32) &&& (255 : Int32)).toUInt32.toUInt16.toUInt32.toInt32), iv ((((i2.toUInt32 >>> ((16 : Int32) &&& 31).toUInt32).toInt32) &&& (255 : Int32)).toUInt32.toUInt16.toUInt32.toInt32), rv b65, un, un] [])
      have hq : ∀ c ∈ ([] : List Int32), ¬ c < 0 ∧ ¬ (255 : Int32) < c := (fun c hc => by cases hc)
      exact P152 _ _ _ _ _ M N ((i2 &&& (255 : Int32)).toUInt32.toUInt16.toUInt32.toInt32) ((((i2.toUInt32 >>> ((8 : Int32) &&& 31).toUInt32).toInt32) &&& (255 : Int32)).toUInt32.toUInt16.toUInt32.toInt32) ((((i2.toUInt32 >>> ((16 : Int32) &&& 31).toUInt32).toInt32) &&& (255 : Int32)).toUInt32.toUInt16.toUInt32.toInt32) b65 t_71 kb_71 ([] : List Int32) (Stand_grow Y (by decide) (by decide)) rfl N71 K75 O75 hS71 (Nat.le_trans (Nat.le_refl _) (Nat.le_refl _)) hZ71 hown71 (hh ▸ CR75) P71_0 P71_1 P71_2 P71_3 ((by decide : 0 ≤ 3)) (hq) HM HN
    · rw [hk64]
      refine zil Y B o730 rfl <| zY Y B j48 (by decide) ?_
      refine zil Y B o738 rfl <| zc1 Y B o739 <| zCN Y B o740 (by decide) ?_
      refine zil Y B o741 rfl ?_
      refine zcs Y B hZ63 hown63 (ow1 hw) (ow2 hw) (ow3 hw) (ow4 hw) (by decide) (rm_svalof l Z a0 hw [] ((i2 &&& (255 : Int32)).toUInt32.toUInt16.toUInt32.toInt32) G1 hP63 n0 (Nat.le_trans Z0 KP63.1) (r0.2) O2 P5 OP63) e63 hml opd_31 rfl o742 rfl rfl rfl rfl rfl fun _ T76 _ Y hQ => ?_
      obtain ⟨x_76, t_76, kt_76, rfl, N76q, K76q, P76_0, P76_1, P76_2, P76_3, P76_4, P76_5⟩ := hQ
      have N76 := Fr.app N63 N76q
      have R77 := CHr.keep K76q all0 CRP63.1
      have CR77 := CRP63.trans R77
      have K77 := KP63.trans K76q all0
      have O77 := OP63.keep K76q all0
      have Sf78 : Safe Z EL vm63 T76.heap x_76 := Safe.keep K76q all0 CRP63.1 (Safe.new P76_0)
      have Sf79 : Safe Z EL vm63 T76.heap t_76 := Safe.keep K76q all0 CRP63.1 (Safe.new P76_1)
      refine zas Y B o743 (s10 rfl) rfl <| zgo Y B j49 ?_
      show Go p e below _ _ (mkF m 152 #[iv i0, iv i1, iv i2, iv i3, iv (Int32.ofNat (M + 1)), iv (Int32.ofNat N), iv (Int32.ofNat ([((i2 &&& (255 : Int32)).toUInt32.toUInt16.toUInt32.toInt32)] : List Int32).length), iv ((i2 &&& (255 : Int32)).toUInt32.toUInt16.toUInt32.toInt32), iv ((((i2.toUInt32 >>> ((8 : Int32) &&& 31).toUInt32).toInt32) &&& (255 : Int32)).toUInt32.toUInt16.toUInt32.toInt32), iv ((((i2.toUInt32 >>> ((16 : Int32) &&& 31).toUInt32).toInt32) &&& (255 : Int32)).toUInt32.toUInt16.toUInt32.toInt32), rv x_76, un, un] [])
      have hq : ∀ c ∈ ([((i2 &&& (255 : Int32)).toUInt32.toUInt16.toUInt32.toInt32)] : List Int32), ¬ c < 0 ∧ ¬ (255 : Int32) < c := (fun c hc => by rw [List.mem_singleton.mp hc]; exact r0)
      exact P152 _ _ _ _ _ M N ((i2 &&& (255 : Int32)).toUInt32.toUInt16.toUInt32.toInt32) ((((i2.toUInt32 >>> ((8 : Int32) &&& 31).toUInt32).toInt32) &&& (255 : Int32)).toUInt32.toUInt16.toUInt32.toInt32) ((((i2.toUInt32 >>> ((16 : Int32) &&& 31).toUInt32).toInt32) &&& (255 : Int32)).toUInt32.toUInt16.toUInt32.toInt32) x_76 t_76 kt_76 ([((i2 &&& (255 : Int32)).toUInt32.toUInt16.toUInt32.toInt32)] : List Int32) (Stand_grow Y (by decide) (by decide)) rfl N76 K77 O77 hS63 (Nat.le_trans hk63 K76q.1) hZ63 hown63 (hh ▸ CR77) P76_2 P76_3 P76_4 P76_5 ((by decide : 1 ≤ 3)) (hq) HM HN
    · rw [hk64]
      refine zil Y B o730 rfl <| zY Y B j48 (by decide) ?_
      refine zil Y B o738 rfl <| zc1 Y B o739 <| zCY Y B j50 (by decide) ?_
      refine zil Y B o744 rfl <| zc2 Y B o745 <| zCN Y B o746 (by decide) ?_
      refine zno Y B hZ63 hown63 (ow199 hw) (ow11 hw) (ow3 hw) e63 o747 rfl rfl fun T80 h80 b80 g80 Y e80 E80 A80 D80 U80 => ?_
      have R81 := CHr.ext E80 CRP63.1
      have CR81 := CRP63.trans R81
      have K81 := KP63.ext E80
      have O81 := OP63.ext E80
      have Sf82 : Safe Z EL vm63 h80 b80 := Safe.ext E80 CRP63.1 (Safe.new (Nat.le_of_eq g80.symm))
      refine zdup Y B o748 rfl <| zc2 Y B o749 ?_
      refine znp Y B hZ63 (aty := .char) (ow200 hw) e80 o750 (by decide) (cap := 2) (by decide) rfl rfl rfl fun T83 h83 k83 b83 g83 Y e83 E83 A83 => ?_
      have R84 := CHr.ext E83 CR81.1
      have CR84 := CR81.trans R84
      have K84 := K81.ext E83
      have O84 := O81.ext E83
      have Sf85 : Safe Z EL vm63 h83 b83 := Safe.ext E83 CR81.1 (Safe.new (Nat.le_of_eq g83.symm))
      have V83 : Arv Z h83 b83 k83 .char (2 : Int32) [(.int 0), (.int 0)] (.int 0) := (Arv.new A83 (by decide)).pad (pad_rep [] (.int 0) 2)
      refine zdup Y B o751 rfl <| zc0 Y B o752 <| zil Y B o753 rfl ?_
      obtain ⟨c86, A86, q86, S86, M86, G86, J86⟩ := id V83
      refine Go.b1 (stC Y B.1 hZ63 e83 A86 (j := (0 : Int32)) (inb_of S86 ⟨by decide, by decide⟩) rfl rfl (hb B.2 o754.1)) fun T86 h86 Y e86 W86 => ?_
      have N86 := Fr.snoc Y N63 (Nat.le_trans (Nat.le_trans Z0 K81.1) (Nat.le_of_eq g83.symm))
      have R87 := CHr.wr W86 (safe_arv hZ63.alike V83 (by decide)) CR84.1
      have CR87 := CR84.trans R87
      have K87 := K84.wr W86 (Or.inr (Nat.le_trans K81.1 (Nat.le_of_eq g83.symm)))
      have O87 := O84.wr W86 (Nat.le_trans (Nat.le_trans Z0 K81.1) (Nat.le_of_eq g83.symm))
      have V86 : Arv Z h86 b83 k83 .char (2 : Int32) ([(.int (nar .char ((i2 &&& (255 : Int32)).toUInt32.toUInt16.toUInt32.toInt32))), (.int 0)]) (.int 0) := Arv.set A86 q86 S86 M86 G86 J86 (fits_nar_char _) W86 0 rfl (Nat.le_of_ble_eq_true rfl)
      rw [e_0] at V86
      refine zdup Y B o755 rfl <| zc1 Y B o756 <| zil Y B o757 rfl ?_
      obtain ⟨c88, A88, q88, S88, M88, G88, J88⟩ := id V86
      refine Go.b1 (stC Y B.1 hZ63 e86 A88 (j := (1 : Int32)) (inb_of S88 ⟨by decide, by decide⟩) rfl rfl (hb B.2 o758.1)) fun T88 h88 Y e88 W88 => ?_
      have N88 := Fr.snoc Y N86 (Nat.le_trans (Nat.le_trans Z0 K81.1) (Nat.le_of_eq g83.symm))
      have R89 := CHr.wr W88 (safe_arv hZ63.alike V86 (by decide)) CR87.1
      have CR89 := CR87.trans R89
      have K89 := K87.wr W88 (Or.inr (Nat.le_trans K81.1 (Nat.le_of_eq g83.symm)))
      have O89 := O87.wr W88 (Nat.le_trans (Nat.le_trans Z0 K81.1) (Nat.le_of_eq g83.symm))
      have V88 : Arv Z h88 b83 k83 .char (2 : Int32) ([(.int ((i2 &&& (255 : Int32)).toUInt32.toUInt16.toUInt32.toInt32)), (.int (nar .char ((((i2.toUInt32 >>> ((8 : Int32) &&& 31).toUInt32).toInt32) &&& (255 : Int32)).toUInt32.toUInt16.toUInt32.toInt32)))]) (.int 0) := Arv.set A88 q88 S88 M88 G88 J88 (fits_nar_char _) W88 1 rfl (Nat.le_of_ble_eq_true rfl)
      rw [e_1] at V88
      have hp : ∀ c ∈ ([((i2 &&& (255 : Int32)).toUInt32.toUInt16.toUInt32.toInt32), ((((i2.toUInt32 >>> ((8 : Int32) &&& 31).toUInt32).toInt32) &&& (255 : Int32)).toUInt32.toUInt16.toUInt32.toInt32)] : List Int32), ¬ c < 0 ∧ ¬ (255 : Int32) < c := by
        intro c hc; simp only [List.mem_cons, List.not_mem_nil, or_false] at hc; rcases hc with rfl | rfl
        · exact r0
        · exact r1
      have hws : ∀ d ∈ StrChars.Road.words, d.before a0 Z = true := fun d hd => hw d ((by decide +kernel : ∀ d ∈ StrChars.Road.words, d ∈ tables_1) d hd)
      have F91 := (((A80.ext E83).wr W86).wr W88)
      have F92 := ((((D80 (Or.inr (ow24 hw)) (ty := (.array .byte)) (by decide)).ext E83).other W86 (Or.inl (Nat.ne_of_lt (Nat.lt_of_lt_of_le A80.lt (Nat.le_of_eq g83.symm))))).other W88 (Or.inl (Nat.ne_of_lt (Nat.lt_of_lt_of_le A80.lt (Nat.le_of_eq g83.symm)))))
      have F93 := ((((D80 (Or.inr (ow26 hw)) (ty := .byte) (by decide)).ext E83).other W86 (Or.inl (Nat.ne_of_lt (Nat.lt_of_lt_of_le A80.lt (Nat.le_of_eq g83.symm))))).other W88 (Or.inl (Nat.ne_of_lt (Nat.lt_of_lt_of_le A80.lt (Nat.le_of_eq g83.symm)))))
      obtain ⟨_, _, ⟨T90, L90, k90, n90⟩, -, Y, ⟨Lc90, hQ90, l90, y90, z90⟩, st90⟩ := Y.specialBack B.1 (y := mn38) rfl hown63 (mvT hZ63 (ow201 hw)) (mvT hZ63 (ow202 hw)) (mvT hZ63 (ow203 hw)) (by decide) (StrChars.Road.backV (W := 1) hZ63 hws (kI := 4) (ow11 hw) (cs := ([((i2 &&& (255 : Int32)).toUInt32.toUInt16.toUInt32.toInt32), ((((i2.toUInt32 >>> ((8 : Int32) &&& 31).toUInt32).toInt32) &&& (255 : Int32)).toUInt32.toUInt16.toUInt32.toInt32)] : List Int32)) (bs := ([((i2 &&& (255 : Int32)).toUInt32.toUInt16.toUInt32.toInt32), ((((i2.toUInt32 >>> ((8 : Int32) &&& 31).toUInt32).toInt32) &&& (255 : Int32)).toUInt32.toUInt16.toUInt32.toInt32)] : List Int32).map (fun c => c.toInt8.toInt32)) (n := 2) (Nat.le_trans (Nat.le_trans Z0 KP63.1) (Nat.le_of_eq g80.symm)) (Nat.le_trans Z0 K89.1) F91 F92 F93 V88 (O2.ext O89.2) P5 rfl rfl (by decide) (by decide) hp rfl (by decide) (by decide)) (g := (mkF m 117 #[iv i0, iv i1, iv i2, iv i3, iv (Int32.ofNat (M + 1)), iv (Int32.ofNat N), iv 2, iv ((i2 &&& (255 : Int32)).toUInt32.toUInt16.toUInt32.toInt32), iv ((((i2.toUInt32 >>> ((8 : Int32) &&& 31).toUInt32).toInt32) &&& (255 : Int32)).toUInt32.toUInt16.toUInt32.toInt32), iv ((((i2.toUInt32 >>> ((16 : Int32) &&& 31).toUInt32).toInt32) &&& (255 : Int32)).toUInt32.toUInt16.toUInt32.toInt32), un, un, un] [(.ref b83), (.ref b80), (.ref b80)])) rfl (by rw [hml]; rfl) (Steps.refl _) (a := b80) (argsL := [(.ref b83)]) (rest := [(.ref b80)]) (lenOf opd_30 rfl) rfl (by show 2 * 0 + _ ≤ _; exact Nat.le_of_eq rfl) (hb B.2 o759.1) (fun _ _ => ⟨rfl, e88, (by decide : 2 + 1 ≤ _), (by decide : 6 + 2 ≤ _)⟩)
      dsimp only [Pt.U, Pt.locs, Pt.cells, Pt.slots] at Y l90 y90 z90 st90 hQ90
      subst l90 y90 z90
      obtain ⟨rfl, N90q, K90q, PE90, PC90, t90, kb90, -, u90, v90, PV90, PA90⟩ := hQ90
      have N90 := Fr.app N88 N90q
      refine Go.tr st90 ?_
      have Sf95 : Safe Z EL vm63 h88 b80 := (R89.safe (Nat.lt_of_lt_of_le A80.lt (Nat.le_trans E83.1 (Keep.of_wr W86).1)) (R87.safe (Nat.lt_of_lt_of_le A80.lt E83.1) (R84.safe (Nat.lt_of_lt_of_le A80.lt (Nat.le_refl _)) Sf82)))
      have R94 := CHr.keep K90q (allS Sf95 all0) CR89.1
      have CR94 := CR89.trans R94
      have K94 := K89.trans K90q (allS (Or.inr (Nat.le_trans KP63.1 (Nat.le_of_eq g80.symm))) all0)
      have O94 := O89.keep K90q (allS (Nat.le_trans (Nat.le_trans Z0 KP63.1) (Nat.le_of_eq g80.symm)) all0)
      show Go p e below _ _ (mkF m 120 #[iv i0, iv i1, iv i2, iv i3, iv (Int32.ofNat (M + 1)), iv (Int32.ofNat N), iv 2, iv ((i2 &&& (255 : Int32)).toUInt32.toUInt16.toUInt32.toInt32), iv ((((i2.toUInt32 >>> ((8 : Int32) &&& 31).toUInt32).toInt32) &&& (255 : Int32)).toUInt32.toUInt16.toUInt32.toInt32), iv ((((i2.toUInt32 >>> ((16 : Int32) &&& 31).toUInt32).toInt32) &&& (255 : Int32)).toUInt32.toUInt16.toUInt32.toInt32), un, un, un] [(.ref b80)])
      refine zas Y B o760 (s10 rfl) rfl <| zgo Y B j51 ?_
      show Go p e below _ _ (mkF m 152 #[iv i0, iv i1, iv i2, iv i3, iv (Int32.ofNat (M + 1)), iv (Int32.ofNat N), iv (Int32.ofNat ([((i2 &&& (255 : Int32)).toUInt32.toUInt16.toUInt32.toInt32), ((((i2.toUInt32 >>> ((8 : Int32) &&& 31).toUInt32).toInt32) &&& (255 : Int32)).toUInt32.toUInt16.toUInt32.toInt32)] : List Int32).length), iv ((i2 &&& (255 : Int32)).toUInt32.toUInt16.toUInt32.toInt32), iv ((((i2.toUInt32 >>> ((8 : Int32) &&& 31).toUInt32).toInt32) &&& (255 : Int32)).toUInt32.toUInt16.toUInt32.toInt32), iv ((((i2.toUInt32 >>> ((16 : Int32) &&& 31).toUInt32).toInt32) &&& (255 : Int32)).toUInt32.toUInt16.toUInt32.toInt32), rv b80, un, un] [])
      have hq : ∀ c ∈ ([((i2 &&& (255 : Int32)).toUInt32.toUInt16.toUInt32.toInt32), ((((i2.toUInt32 >>> ((8 : Int32) &&& 31).toUInt32).toInt32) &&& (255 : Int32)).toUInt32.toUInt16.toUInt32.toInt32)] : List Int32), ¬ c < 0 ∧ ¬ (255 : Int32) < c := hp
      exact P152 _ _ _ _ _ M N ((i2 &&& (255 : Int32)).toUInt32.toUInt16.toUInt32.toInt32) ((((i2.toUInt32 >>> ((8 : Int32) &&& 31).toUInt32).toInt32) &&& (255 : Int32)).toUInt32.toUInt16.toUInt32.toInt32) ((((i2.toUInt32 >>> ((16 : Int32) &&& 31).toUInt32).toInt32) &&& (255 : Int32)).toUInt32.toUInt16.toUInt32.toInt32) b80 t90 kb90 ([((i2 &&& (255 : Int32)).toUInt32.toUInt16.toUInt32.toInt32), ((((i2.toUInt32 >>> ((8 : Int32) &&& 31).toUInt32).toInt32) &&& (255 : Int32)).toUInt32.toUInt16.toUInt32.toInt32)] : List Int32) (Stand_grow Y (by decide) (by decide)) rfl N90 K94 O94 hS63 (Nat.le_trans hk63 (Nat.le_trans (Nat.le_trans (Nat.le_trans (Nat.le_trans E80.1 E83.1) (Keep.of_wr W86).1) (Keep.of_wr W88).1) K90q.1)) hZ63 hown63 (hh ▸ CR94) PE90 PC90 PV90 PA90 ((by decide : 2 ≤ 3)) (hq) HM HN
    · rw [hk64]
      refine zil Y B o730 rfl <| zY Y B j48 (by decide) ?_
      refine zil Y B o738 rfl <| zc1 Y B o739 <| zCY Y B j50 (by decide) ?_
      refine zil Y B o744 rfl <| zc2 Y B o745 <| zCY Y B j52 (by decide) ?_
      refine zno Y B hZ63 hown63 (ow199 hw) (ow11 hw) (ow3 hw) e63 o761 rfl rfl fun T96 h96 b96 g96 Y e96 E96 A96 D96 U96 => ?_
      have R97 := CHr.ext E96 CRP63.1
      have CR97 := CRP63.trans R97
      have K97 := KP63.ext E96
      have O97 := OP63.ext E96
      have Sf98 : Safe Z EL vm63 h96 b96 := Safe.ext E96 CRP63.1 (Safe.new (Nat.le_of_eq g96.symm))
      refine zdup Y B o762 rfl <| zc3 Y B o763 ?_
      refine znp Y B hZ63 (aty := .char) (ow200 hw) e96 o764 (by decide) (cap := 3) (by decide) rfl rfl rfl fun T99 h99 k99 b99 g99 Y e99 E99 A99 => ?_
      have R100 := CHr.ext E99 CR97.1
      have CR100 := CR97.trans R100
      have K100 := K97.ext E99
      have O100 := O97.ext E99
      have Sf101 : Safe Z EL vm63 h99 b99 := Safe.ext E99 CR97.1 (Safe.new (Nat.le_of_eq g99.symm))
      have V99 : Arv Z h99 b99 k99 .char (3 : Int32) [(.int 0), (.int 0), (.int 0)] (.int 0) := (Arv.new A99 (by decide)).pad (pad_rep [] (.int 0) 3)
      refine zdup Y B o765 rfl <| zc0 Y B o766 <| zil Y B o767 rfl ?_
      obtain ⟨c102, A102, q102, S102, M102, G102, J102⟩ := id V99
      refine Go.b1 (stC Y B.1 hZ63 e99 A102 (j := (0 : Int32)) (inb_of S102 ⟨by decide, by decide⟩) rfl rfl (hb B.2 o768.1)) fun T102 h102 Y e102 W102 => ?_
      have N102 := Fr.snoc Y N63 (Nat.le_trans (Nat.le_trans Z0 K97.1) (Nat.le_of_eq g99.symm))
      have R103 := CHr.wr W102 (safe_arv hZ63.alike V99 (by decide)) CR100.1
      have CR103 := CR100.trans R103
      have K103 := K100.wr W102 (Or.inr (Nat.le_trans K97.1 (Nat.le_of_eq g99.symm)))
      have O103 := O100.wr W102 (Nat.le_trans (Nat.le_trans Z0 K97.1) (Nat.le_of_eq g99.symm))
      have V102 : Arv Z h102 b99 k99 .char (3 : Int32) ([(.int (nar .char ((i2 &&& (255 : Int32)).toUInt32.toUInt16.toUInt32.toInt32))), (.int 0), (.int 0)]) (.int 0) := Arv.set A102 q102 S102 M102 G102 J102 (fits_nar_char _) W102 0 rfl (Nat.le_of_ble_eq_true rfl)
      rw [e_0] at V102
      refine zdup Y B o769 rfl <| zc1 Y B o770 <| zil Y B o771 rfl ?_
      obtain ⟨c104, A104, q104, S104, M104, G104, J104⟩ := id V102
      refine Go.b1 (stC Y B.1 hZ63 e102 A104 (j := (1 : Int32)) (inb_of S104 ⟨by decide, by decide⟩) rfl rfl (hb B.2 o772.1)) fun T104 h104 Y e104 W104 => ?_
      have N104 := Fr.snoc Y N102 (Nat.le_trans (Nat.le_trans Z0 K97.1) (Nat.le_of_eq g99.symm))
      have R105 := CHr.wr W104 (safe_arv hZ63.alike V102 (by decide)) CR103.1
      have CR105 := CR103.trans R105
      have K105 := K103.wr W104 (Or.inr (Nat.le_trans K97.1 (Nat.le_of_eq g99.symm)))
      have O105 := O103.wr W104 (Nat.le_trans (Nat.le_trans Z0 K97.1) (Nat.le_of_eq g99.symm))
      have V104 : Arv Z h104 b99 k99 .char (3 : Int32) ([(.int ((i2 &&& (255 : Int32)).toUInt32.toUInt16.toUInt32.toInt32)), (.int (nar .char ((((i2.toUInt32 >>> ((8 : Int32) &&& 31).toUInt32).toInt32) &&& (255 : Int32)).toUInt32.toUInt16.toUInt32.toInt32))), (.int 0)]) (.int 0) := Arv.set A104 q104 S104 M104 G104 J104 (fits_nar_char _) W104 1 rfl (Nat.le_of_ble_eq_true rfl)
      rw [e_1] at V104
      refine zdup Y B o773 rfl <| zc2 Y B o774 <| zil Y B o775 rfl ?_
      obtain ⟨c106, A106, q106, S106, M106, G106, J106⟩ := id V104
      refine Go.b1 (stC Y B.1 hZ63 e104 A106 (j := (2 : Int32)) (inb_of S106 ⟨by decide, by decide⟩) rfl rfl (hb B.2 o776.1)) fun T106 h106 Y e106 W106 => ?_
      have N106 := Fr.snoc Y N104 (Nat.le_trans (Nat.le_trans Z0 K97.1) (Nat.le_of_eq g99.symm))
      have R107 := CHr.wr W106 (safe_arv hZ63.alike V104 (by decide)) CR105.1
      have CR107 := CR105.trans R107
      have K107 := K105.wr W106 (Or.inr (Nat.le_trans K97.1 (Nat.le_of_eq g99.symm)))
      have O107 := O105.wr W106 (Nat.le_trans (Nat.le_trans Z0 K97.1) (Nat.le_of_eq g99.symm))
      have V106 : Arv Z h106 b99 k99 .char (3 : Int32) ([(.int ((i2 &&& (255 : Int32)).toUInt32.toUInt16.toUInt32.toInt32)), (.int ((((i2.toUInt32 >>> ((8 : Int32) &&& 31).toUInt32).toInt32) &&& (255 : Int32)).toUInt32.toUInt16.toUInt32.toInt32)), (.int (nar .char ((((i2.toUInt32 >>> ((16 : Int32) &&& 31).toUInt32).toInt32) &&& (255 : Int32)).toUInt32.toUInt16.toUInt32.toInt32)))]) (.int 0) := Arv.set A106 q106 S106 M106 G106 J106 (fits_nar_char _) W106 2 rfl (Nat.le_of_ble_eq_true rfl)
      rw [e_2] at V106
      have hp : ∀ c ∈ ([((i2 &&& (255 : Int32)).toUInt32.toUInt16.toUInt32.toInt32), ((((i2.toUInt32 >>> ((8 : Int32) &&& 31).toUInt32).toInt32) &&& (255 : Int32)).toUInt32.toUInt16.toUInt32.toInt32), ((((i2.toUInt32 >>> ((16 : Int32) &&& 31).toUInt32).toInt32) &&& (255 : Int32)).toUInt32.toUInt16.toUInt32.toInt32)] : List Int32), ¬ c < 0 ∧ ¬ (255 : Int32) < c := by
        intro c hc; simp only [List.mem_cons, List.not_mem_nil, or_false] at hc; rcases hc with rfl | rfl | rfl
        · exact r0
        · exact r1
        · exact r2
      have hws : ∀ d ∈ StrChars.Road.words, d.before a0 Z = true := fun d hd => hw d ((by decide +kernel : ∀ d ∈ StrChars.Road.words, d ∈ tables_1) d hd)
      have F109 := ((((A96.ext E99).wr W102).wr W104).wr W106)
      have F110 := (((((D96 (Or.inr (ow24 hw)) (ty := (.array .byte)) (by decide)).ext E99).other W102 (Or.inl (Nat.ne_of_lt (Nat.lt_of_lt_of_le A96.lt (Nat.le_of_eq g99.symm))))).other W104 (Or.inl (Nat.ne_of_lt (Nat.lt_of_lt_of_le A96.lt (Nat.le_of_eq g99.symm))))).other W106 (Or.inl (Nat.ne_of_lt (Nat.lt_of_lt_of_le A96.lt (Nat.le_of_eq g99.symm)))))
      have F111 := (((((D96 (Or.inr (ow26 hw)) (ty := .byte) (by decide)).ext E99).other W102 (Or.inl (Nat.ne_of_lt (Nat.lt_of_lt_of_le A96.lt (Nat.le_of_eq g99.symm))))).other W104 (Or.inl (Nat.ne_of_lt (Nat.lt_of_lt_of_le A96.lt (Nat.le_of_eq g99.symm))))).other W106 (Or.inl (Nat.ne_of_lt (Nat.lt_of_lt_of_le A96.lt (Nat.le_of_eq g99.symm)))))
      obtain ⟨_, _, ⟨T108, L108, k108, n108⟩, -, Y, ⟨Lc108, hQ108, l108, y108, z108⟩, st108⟩ := Y.specialBack B.1 (y := mn38) rfl hown63 (mvT hZ63 (ow201 hw)) (mvT hZ63 (ow202 hw)) (mvT hZ63 (ow203 hw)) (by decide) (StrChars.Road.backV (W := 1) hZ63 hws (kI := 4) (ow11 hw) (cs := ([((i2 &&& (255 : Int32)).toUInt32.toUInt16.toUInt32.toInt32), ((((i2.toUInt32 >>> ((8 : Int32) &&& 31).toUInt32).toInt32) &&& (255 : Int32)).toUInt32.toUInt16.toUInt32.toInt32), ((((i2.toUInt32 >>> ((16 : Int32) &&& 31).toUInt32).toInt32) &&& (255 : Int32)).toUInt32.toUInt16.toUInt32.toInt32)] : List Int32)) (bs := ([((i2 &&& (255 : Int32)).toUInt32.toUInt16.toUInt32.toInt32), ((((i2.toUInt32 >>> ((8 : Int32) &&& 31).toUInt32).toInt32) &&& (255 : Int32)).toUInt32.toUInt16.toUInt32.toInt32), ((((i2.toUInt32 >>> ((16 : Int32) &&& 31).toUInt32).toInt32) &&& (255 : Int32)).toUInt32.toUInt16.toUInt32.toInt32)] : List Int32).map (fun c => c.toInt8.toInt32)) (n := 3) (Nat.le_trans (Nat.le_trans Z0 KP63.1) (Nat.le_of_eq g96.symm)) (Nat.le_trans Z0 K107.1) F109 F110 F111 V106 (O2.ext O107.2) P5 rfl rfl (by decide) (by decide) hp rfl (by decide) (by decide)) (g := (mkF m 147 #[iv i0, iv i1, iv i2, iv i3, iv (Int32.ofNat (M + 1)), iv (Int32.ofNat N), iv 3, iv ((i2 &&& (255 : Int32)).toUInt32.toUInt16.toUInt32.toInt32), iv ((((i2.toUInt32 >>> ((8 : Int32) &&& 31).toUInt32).toInt32) &&& (255 : Int32)).toUInt32.toUInt16.toUInt32.toInt32), iv ((((i2.toUInt32 >>> ((16 : Int32) &&& 31).toUInt32).toInt32) &&& (255 : Int32)).toUInt32.toUInt16.toUInt32.toInt32), un, un, un] [(.ref b99), (.ref b96), (.ref b96)])) rfl (by rw [hml]; rfl) (Steps.refl _) (a := b96) (argsL := [(.ref b99)]) (rest := [(.ref b96)]) (lenOf opd_30 rfl) rfl (by show 2 * 0 + _ ≤ _; exact Nat.le_of_eq rfl) (hb B.2 o777.1) (fun _ _ => ⟨rfl, e106, (by decide : 2 + 1 ≤ _), (by decide : 7 + 3 ≤ _)⟩)
      dsimp only [Pt.U, Pt.locs, Pt.cells, Pt.slots] at Y l108 y108 z108 st108 hQ108
      subst l108 y108 z108
      obtain ⟨rfl, N108q, K108q, PE108, PC108, t108, kb108, -, u108, v108, PV108, PA108⟩ := hQ108
      have N108 := Fr.app N106 N108q
      refine Go.tr st108 ?_
      have Sf113 : Safe Z EL vm63 h106 b96 := (R107.safe (Nat.lt_of_lt_of_le A96.lt (Nat.le_trans (Nat.le_trans E99.1 (Keep.of_wr W102).1) (Keep.of_wr W104).1)) (R105.safe (Nat.lt_of_lt_of_le A96.lt (Nat.le_trans E99.1 (Keep.of_wr W102).1)) (R103.safe (Nat.lt_of_lt_of_le A96.lt E99.1) (R100.safe (Nat.lt_of_lt_of_le A96.lt (Nat.le_refl _)) Sf98))))
      have R112 := CHr.keep K108q (allS Sf113 all0) CR107.1
      have CR112 := CR107.trans R112
      have K112 := K107.trans K108q (allS (Or.inr (Nat.le_trans KP63.1 (Nat.le_of_eq g96.symm))) all0)
      have O112 := O107.keep K108q (allS (Nat.le_trans (Nat.le_trans Z0 KP63.1) (Nat.le_of_eq g96.symm)) all0)
      show Go p e below _ _ (mkF m 150 #[iv i0, iv i1, iv i2, iv i3, iv (Int32.ofNat (M + 1)), iv (Int32.ofNat N), iv 3, iv ((i2 &&& (255 : Int32)).toUInt32.toUInt16.toUInt32.toInt32), iv ((((i2.toUInt32 >>> ((8 : Int32) &&& 31).toUInt32).toInt32) &&& (255 : Int32)).toUInt32.toUInt16.toUInt32.toInt32), iv ((((i2.toUInt32 >>> ((16 : Int32) &&& 31).toUInt32).toInt32) &&& (255 : Int32)).toUInt32.toUInt16.toUInt32.toInt32), un, un, un] [(.ref b96)])
      refine zas Y B o778 (s10 rfl) rfl ?_
      show Go p e below _ _ (mkF m 152 #[iv i0, iv i1, iv i2, iv i3, iv (Int32.ofNat (M + 1)), iv (Int32.ofNat N), iv (Int32.ofNat ([((i2 &&& (255 : Int32)).toUInt32.toUInt16.toUInt32.toInt32), ((((i2.toUInt32 >>> ((8 : Int32) &&& 31).toUInt32).toInt32) &&& (255 : Int32)).toUInt32.toUInt16.toUInt32.toInt32), ((((i2.toUInt32 >>> ((16 : Int32) &&& 31).toUInt32).toInt32) &&& (255 : Int32)).toUInt32.toUInt16.toUInt32.toInt32)] : List Int32).length), iv ((i2 &&& (255 : Int32)).toUInt32.toUInt16.toUInt32.toInt32), iv ((((i2.toUInt32 >>> ((8 : Int32) &&& 31).toUInt32).toInt32) &&& (255 : Int32)).toUInt32.toUInt16.toUInt32.toInt32), iv ((((i2.toUInt32 >>> ((16 : Int32) &&& 31).toUInt32).toInt32) &&& (255 : Int32)).toUInt32.toUInt16.toUInt32.toInt32), rv b96, un, un] [])
      have hq : ∀ c ∈ ([((i2 &&& (255 : Int32)).toUInt32.toUInt16.toUInt32.toInt32), ((((i2.toUInt32 >>> ((8 : Int32) &&& 31).toUInt32).toInt32) &&& (255 : Int32)).toUInt32.toUInt16.toUInt32.toInt32), ((((i2.toUInt32 >>> ((16 : Int32) &&& 31).toUInt32).toInt32) &&& (255 : Int32)).toUInt32.toUInt16.toUInt32.toInt32)] : List Int32), ¬ c < 0 ∧ ¬ (255 : Int32) < c := hp
      exact P152 _ _ _ _ _ M N ((i2 &&& (255 : Int32)).toUInt32.toUInt16.toUInt32.toInt32) ((((i2.toUInt32 >>> ((8 : Int32) &&& 31).toUInt32).toInt32) &&& (255 : Int32)).toUInt32.toUInt16.toUInt32.toInt32) ((((i2.toUInt32 >>> ((16 : Int32) &&& 31).toUInt32).toInt32) &&& (255 : Int32)).toUInt32.toUInt16.toUInt32.toInt32) b96 t108 kb108 ([((i2 &&& (255 : Int32)).toUInt32.toUInt16.toUInt32.toInt32), ((((i2.toUInt32 >>> ((8 : Int32) &&& 31).toUInt32).toInt32) &&& (255 : Int32)).toUInt32.toUInt16.toUInt32.toInt32), ((((i2.toUInt32 >>> ((16 : Int32) &&& 31).toUInt32).toInt32) &&& (255 : Int32)).toUInt32.toUInt16.toUInt32.toInt32)] : List Int32) (Stand_grow Y (by decide) (by decide)) rfl N108 K112 O112 hS63 (Nat.le_trans hk63 (Nat.le_trans (Nat.le_trans (Nat.le_trans (Nat.le_trans (Nat.le_trans E96.1 E99.1) (Keep.of_wr W102).1) (Keep.of_wr W104).1) (Keep.of_wr W106).1) K108q.1)) hZ63 hown63 (hh ▸ CR112) PE108 PC108 PV108 PA108 ((by decide : 3 ≤ 3)) (hq) HM HN
  refine zilN Y B o779 rfl ?_
  refine Go.f2 (Y.ldcInt B.1 hown (mvT hZ (ow0 hw)) rfl (hb B.2 o780.1)) ?_
  refine ziand Y B o781 rfl <| zis Y B o782 (s4 rfl) <| zil Y B o783 rfl ?_
  by_cases hz : (i0 &&& (2147483647 : Int32)) = (0 : Int32)
  · refine zN Y B o784 ((if0 _ _).trans (teq hz).2) ?_
    refine zc1 Y B o785 <| zis Y B o786 (s4 rfl) ?_
    show Go p e below _ _ (mkF m 14 #[iv i0, iv i1, iv i2, iv i3, iv (Int32.ofNat (0 + 1)), un, un, un, un, un, un, un, un] [])
    exact P14 _ _ _ _ _ 0 (Stand_grow Y (by decide) (by decide)) e0 N0 K0 X00 hS0 (Nat.le_trans (Nat.le_refl _) (Nat.le_refl _)) hZ hown (CHr.refl hCH) (by decide)
  · refine zY Y B j53 ((if0 _ _).trans (feq hz).2) ?_
    obtain ⟨M, HM, eM⟩ := mask_pos i0 hz
    rw [eM]
    show Go p e below _ _ (mkF m 14 #[iv i0, iv i1, iv i2, iv i3, iv (Int32.ofNat (M + 1)), un, un, un, un, un, un, un, un] [])
    exact P14 _ _ _ _ _ M (Stand_grow Y (by decide) (by decide)) e0 N0 K0 X00 hS0 (Nat.le_trans (Nat.le_refl _) (Nat.le_refl _)) hZ hown (CHr.refl hCH) HM
set_option maxRecDepth 65536 in
set_option maxHeartbeats 40000000 in
theorem comes_1 {Post : Tables → Env → Array Value → State → Outcome → State → Prop} (hpost : ∀ tb e args s v u, (limb_1_1.after args s (.returned v) u = true ∧ limb_1_2.after args s (.returned v) u = true ∧ True) → ReturnedEndW s (.returned v) u (Jvm.fieldLocs frame_1_writes args s ++ Jvm.arrayLocs frame_1_arrays args s ++ Jvm.staticLocs frame_1_statics s) 40 1280 → Post tb e args s (.returned v) u) :
    ArmFor flags0 classFile x code maxLocals ret World_1 tables_1 room_1 Calls_1 rest_1 Pre_1 Post := by
  intro l hfl _ _ p e ha hc hk s m args below hf hA hF happ hP
  obtain ⟨hcalls, hrest, hpre⟩ := hP
  obtain ⟨-, -, -, hnamed, -, -, -, hat⟩ := (Spec.applies_iff hf).mp happ
  obtain ⟨hg, hn⟩ := and_e (Cond.before_iff.mp (show (Jvm.Cond.and given_1 narrow_1).before args s = true from hpre))
  obtain ⟨hcount, r0⟩ := and_e hg
  obtain ⟨k0, r1⟩ := and_e r0
  obtain ⟨k1, r2⟩ := and_e r1
  obtain ⟨k2, r3⟩ := and_e r2
  obtain ⟨w0, w1, w2, w3, rfl⟩ : ∃ w0 w1 w2 w3 : Value, args = #[w0, w1, w2, w3] := by
    have hs : args.size = 4 := by simpa [Cond.value, given_1] using hcount
    obtain ⟨L⟩ := args
    match L, hs with
    | [w0, w1, w2, w3], _ => exact ⟨w0, w1, w2, w3, rfl⟩
  have hw := fun d (hd : d ∈ tables_1) => atoms_spec (ws := Jvm.Cond.code x code maxLocals ret :: tables_1) hat d (List.mem_cons_of_mem _ hd)
  obtain ⟨i0, e0⟩ := is_v k0
  obtain rfl : w0 = (.int i0) := Option.some.inj e0
  obtain ⟨i1, e1⟩ := is_v k1
  obtain rfl : w1 = (.int i1) := Option.some.inj e1
  obtain ⟨i2, e2⟩ := is_v k2
  obtain rfl : w2 = (.int i2) := Option.some.inj e2
  obtain ⟨i3, e3⟩ := is_v r3
  obtain rfl : w3 = (.int i3) := Option.some.inj e3
  obtain ⟨hsets, hown0⟩ := atoms_of _ (rest_1_c_eq ▸ (show rest_1_c.before _ s = true from hrest))
  have n5 := not_v (Cond.before_iff.mp (hsets _ (List.mem_of_getElem? (i := 2) rfl)))
  obtain ⟨G1, eG1⟩ := is_v (Cond.before_iff.mp (hsets _ (List.mem_of_getElem? (i := 1) rfl)))
  have O2 : Sta s s.heap "java/lang/String" "COMPACT_STRINGS" "Z" (.int G1) := Sta.start eG1 (Or.inl (hsets _ (List.mem_of_getElem? (i := 0) rfl)))
  obtain ⟨G3, eG3, rG3⟩ := isR_v (Cond.before_iff.mp (hsets _ (List.mem_of_getElem? (i := 8) rfl)))
  have O4 : Sta s s.heap "jdk/internal/util/Preconditions" "SIOOBE_FORMATTER" "Ljava/util/function/BiFunction;" G3 := Sta.start eG3 (Or.inl (hsets _ (List.mem_of_getElem? (i := 7) rfl)))
  have P5 : ¬ (G1 = (0 : Int32)) := gotF (Cond.eq_ints eG1 (Term.int_eval (0))) n5
  have hfit : Fit s := fun {y c} hc i hi => by
    obtain ⟨ha, rfl⟩ := Array.getElem?_eq_some_iff.mp hc
    have q := List.all_eq_true.mp ((Array.all_eq_true_iff_forall_mem.mp hF) _ (Array.getElem_mem ha)) i (List.mem_range.mpr hi)
    simpa [Array.getElem?_eq_getElem hi] using q
  have hheld : ∀ p ∈ EL, Jvm.Lit.constHeld s p.1 p.2 := fun p hp => hcalls.1 p hp
  obtain ⟨on, ko, eo, OD1⟩ := own_tbl (F := fun r => 48 + r % 10) hfit (Cond.before_iff.mp (hsets _ (List.mem_of_getElem? (i := 12) rfl))) (Cond.before_iff.mp (hsets _ (List.mem_of_getElem? (i := 13) rfl))) (ow15 hw) (Cond.before_iff.mp (hsets _ (List.mem_of_getElem? (i := 14) rfl))) (fun _ => rfl) (fun r hr => by rw [← ones_num r hr]; rfl)
  obtain ⟨te, ke, ee, OD2⟩ := own_tbl (F := fun r => 48 + r / 10) hfit (Cond.before_iff.mp (hsets _ (List.mem_of_getElem? (i := 17) rfl))) (Cond.before_iff.mp (hsets _ (List.mem_of_getElem? (i := 18) rfl))) (ow15 hw) (Cond.before_iff.mp (hsets _ (List.mem_of_getElem? (i := 19) rfl))) (fun _ => rfl) (fun r hr => by rw [← tens_num r hr]; rfl)
  have hCH : CHv s EL s.vm s.heap := CHv.start (hEW hw) hheld (hsets _ (List.mem_of_getElem? (i := 2) rfl)) (ostr hw _ (List.mem_of_getElem? (i := 2) rfl)) (ostr hw _ (List.mem_of_getElem? (i := 1) rfl))
  obtain ⟨n, o, h1, h2, h3, _, L, rfl, ⟨rfl, N, -⟩, -, hq⟩ := rm_law l s _ hw tables_1 i0 i1 i2 i3 on ko te ke G1 G3 s.heap s.heap.size (Nat.le_refl _) (Sta.start eo (Or.inl (hsets _ (List.mem_of_getElem? (i := 11) rfl)))) OD1 (Sta.start ee (Or.inl (hsets _ (List.mem_of_getElem? (i := 16) rfl)))) OD2 O2 P5 (Old.start s) O4 rG3 p e ha hc hk s m _ below hf ((Spec.applies_iff_loose hf).mp happ).1 ⟨rfl, State.Warmed39.refl s, rfl, hCH⟩ trivial
  refine ⟨n, _, h1, h2, h3, hpost _ _ _ _ _ _ ⟨Cond.after_iff.mpr rfl, Cond.after_iff.mpr (eq_i res_at (Term.int_eval (1)) rfl), trivial⟩ ⟨hq.1, hq.2.1, hq.2.2.1, (hq.2.2.2.sift fun y hy => Or.inr (N y hy)).mono (by decide) (by decide)⟩⟩
theorem main_1_1 : Claimed_1_1 := comes_1 fun _ _ _ _ _ _ h hF => ⟨h.1, hF⟩
theorem main_1_2 : Claimed_1_2 := comes_1 fun _ _ _ _ _ _ h hF => ⟨h.2.1, hF⟩
end Jvm.Pilot.@@N@@
namespace Jvm.Pilot.@@N@@
open Jvm Jvm.ClassFile Sem Op Lib Jvm.Free Jvm.Stand Jvm.Pilot.@@N@@.Jvm.D
/-! MADE BY PROGRAM (witnessworld.py) out of the Statement's table words and the real class files: 27 classes; the members and pool entries that the words name. The judged class is class 1, her method 1. -/
namespace start1
open Jvm.ClassFile
def u (s : String) : CpInfo := .utf8 (stringToUtf16 s)
/-- a pool by its gaps: so many unusable entries, then the entry; so many at the end -/
def gap : Nat → List CpInfo → List CpInfo
  | 0, r => r
  | n + 1, r => .unusable :: gap n r
def poolList (es : List (Nat × CpInfo)) (last : Nat) : List CpInfo := es.foldr (fun e r => gap e.1 (e.2 :: r)) (gap last [])
def pool (es : List (Nat × CpInfo)) (last : Nat) : Array CpInfo := ⟨poolList es last⟩
def fileOf (pool : Array CpInfo) (this : Nat) (attrs : Array Attribute := #[]) (ms : Array MethodInfo := #[]) (fl : Nat := 33) (sup : Nat := 0) (ifs : Array Nat := #[]) (fds : Array FieldInfo := #[]) : ClassFile where
  minorVersion := 0
  majorVersion := 65
  constantPool := pool
  accessFlags := fl
  thisClass := this
  superClass := sup
  interfaces := ifs
  fields := fds
  methods := ms
  attributes := attrs
def plain (name : String) (sup : Option ClassId) : Class where
  name := name
  kind := .ordinary
  loader := none
  accessFlags := 33
  super := sup
  interfaces := #[]
  cf := none
  fields := #[]
  methods := #[]
  instanceTypes := #[]
  staticTypes := #[]
  resolved := #[]
  callSites := []
  init := .initialized
  statics := none
  mirror := none

def pool0 : Array CpInfo := pool [(5, u "<init>"), (0, u "()V"), (1, .class_ 10), (1, u "java/lang/Object"), (85, u "clone"), (0, u "()Ljava/lang/Object;")] 26

def k0c0 : Code := { maxStack := 0, maxLocals := 1, code := object_method_1_code, exceptionTable := #[], attributes := #[] }
def k0m0 : Method := { name := "<init>", desc := "()V", sig := { parameters := [], returnType := none }, accessFlags := 1, code := some k0c0 }
def k0m1 : Method := { name := "clone", desc := "()Ljava/lang/Object;", sig := { parameters := [], returnType := some (.object "java/lang/Object") }, accessFlags := 260, code := none }
/-- java/lang/Object -/
def k0 : Class := { plain "java/lang/Object" none with
  accessFlags := 33
  interfaces := #[]
  cf := some (fileOf pool0 8 #[] #[{ accessFlags := 1, nameIndex := 5, descriptorIndex := 6, attributes := #[] }, { accessFlags := 260, nameIndex := 96, descriptorIndex := 97, attributes := #[] }] 33 0 #[] #[])
  fields := #[]
  methods := #[k0m0, k0m1]
  instanceTypes := #[]
  staticTypes := #[]
  resolved := Array.replicate 124 none
  statics := none }

def pool1 : Array CpInfo := pool [(2, .class_ 4), (1, u "java/lang/Object"), (0, u "<init>"), (0, u "()V"), (0, .integer 2147483647), (0, .class_ 9), (0, u "java/lang/String"), (0, .methodref 8 11), (0, .nameAndType 5 12), (0, u "([C)V"), (0, .methodref 8 14), (0, .nameAndType 15 16), (0, u "valueOf"), (0, u "(C)Ljava/lang/String;"), (0, .methodref 18 19), (0, .class_ 20), (0, .nameAndType 21 22), (0, u "com/example/shardpick/shardpick/NumberedNamesNamePinLaw"), (0, u "width"), (0, u "(I)I"), (0, .class_ 24), (0, u "com/example/shardpick/shardpick/NumberedNames"), (0, .methodref 23 26), (0, .nameAndType 5 27), (0, u "(Ljava/lang/String;I)V"), (0, .methodref 23 29), (0, .nameAndType 30 31), (0, u "name"), (0, u "(I)Ljava/lang/String;"), (0, .methodref 8 33), (0, .nameAndType 34 35), (0, u "length"), (0, u "()I"), (0, .methodref 18 37), (0, .nameAndType 38 39), (0, u "at"), (0, u "(Ljava/lang/String;ILjava/lang/String;III)Z"), (0, .integer 100000), (0, .integer 1000000), (0, .integer 10000000), (0, .integer 100000000), (0, .integer 1000000000), (0, .long 10), (1, .long 100), (1, .long 1000), (1, .long 10000), (1, .long 100000), (1, .long 1000000), (1, .long 10000000), (1, .long 100000000), (1, .long 1000000000), (1, .methodref 8 64), (0, .nameAndType 65 66), (0, u "charAt"), (0, u "(I)C"), (0, .methodref 18 68), (0, .nameAndType 69 70), (0, u "pow10"), (0, u "(I)J"), (2, u "law"), (0, u "(IIII)Z")] 3

def k1m0 : Method := { name := "<init>", desc := "()V", sig := { parameters := [], returnType := none }, accessFlags := 1, code := none }
def k1c1 : Code := { maxStack := 6, maxLocals := 13, code := code, exceptionTable := #[], attributes := #[] }
def k1m1 : Method := { name := "law", desc := "(IIII)Z", sig := { parameters := [.int, .int, .int, .int], returnType := some .boolean }, accessFlags := 9, code := some k1c1 }
def k1c2 : Code := { maxStack := 2, maxLocals := 1, code := method_3_code, exceptionTable := #[], attributes := #[] }
def k1m2 : Method := { name := "width", desc := "(I)I", sig := { parameters := [.int], returnType := some .int }, accessFlags := 10, code := some k1c2 }
def k1c3 : Code := { maxStack := 2, maxLocals := 1, code := method_4_code, exceptionTable := #[], attributes := #[] }
def k1m3 : Method := { name := "pow10", desc := "(I)J", sig := { parameters := [.int], returnType := some .long }, accessFlags := 10, code := some k1c3 }
def k1c4 : Code := { maxStack := 4, maxLocals := 10, code := method_5_code, exceptionTable := #[], attributes := #[] }
def k1m4 : Method := { name := "at", desc := "(Ljava/lang/String;ILjava/lang/String;III)Z", sig := { parameters := [(.object "java/lang/String"), .int, (.object "java/lang/String"), .int, .int, .int], returnType := some .boolean }, accessFlags := 10, code := some k1c4 }
/-- com/example/shardpick/shardpick/NumberedNamesNamePinLaw -/
def k1 : Class := { plain "com/example/shardpick/shardpick/NumberedNamesNamePinLaw" (some 0) with
  accessFlags := 49
  interfaces := #[]
  cf := some (fileOf pool1 18 #[] #[{ accessFlags := 1, nameIndex := 5, descriptorIndex := 6, attributes := #[] }, { accessFlags := 9, nameIndex := 73, descriptorIndex := 74, attributes := #[] }, { accessFlags := 10, nameIndex := 21, descriptorIndex := 22, attributes := #[] }, { accessFlags := 10, nameIndex := 69, descriptorIndex := 70, attributes := #[] }, { accessFlags := 10, nameIndex := 38, descriptorIndex := 39, attributes := #[] }] 49 2 #[] #[])
  fields := #[]
  methods := #[k1m0, k1m1, k1m2, k1m3, k1m4]
  instanceTypes := #[]
  staticTypes := #[]
  resolved := Array.replicate 78 none
  statics := none }

def pool2 : Array CpInfo := pool [(1, .class_ 2), (0, u "java/io/Serializable"), (0, .class_ 4), (0, u "java/lang/Object")] 2

/-- java/io/Serializable -/
def k2 : Class := { plain "java/io/Serializable" (some 0) with
  accessFlags := 1537
  interfaces := #[]
  cf := some (fileOf pool2 1 #[] #[] 1537 3 #[] #[])
  fields := #[]
  methods := #[]
  instanceTypes := #[]
  staticTypes := #[]
  resolved := Array.replicate 7 none
  statics := none }

def pool3 : Array CpInfo := pool [(1, .class_ 2), (0, u "java/lang/Comparable"), (0, .class_ 4), (0, u "java/lang/Object")] 7

/-- java/lang/Comparable -/
def k3 : Class := { plain "java/lang/Comparable" (some 0) with
  accessFlags := 1537
  interfaces := #[]
  cf := some (fileOf pool3 1 #[] #[] 1537 3 #[] #[])
  fields := #[]
  methods := #[]
  instanceTypes := #[]
  staticTypes := #[]
  resolved := Array.replicate 12 none
  statics := none }

def pool4 : Array CpInfo := pool [(2, .class_ 4), (1, u "java/lang/CharSequence"), (42, .class_ 48), (0, u "java/lang/CharSequence$1CodePointIterator"), (10, .class_ 60), (0, u "java/lang/CharSequence$1CharIterator"), (5, .class_ 67), (0, u "java/lang/Object")] 63

/-- java/lang/CharSequence -/
def k4 : Class := { plain "java/lang/CharSequence" (some 0) with
  accessFlags := 1537
  interfaces := #[]
  cf := some (fileOf pool4 2 #[.nestMembers #[47, 59]] #[] 1537 66 #[] #[])
  fields := #[]
  methods := #[]
  instanceTypes := #[]
  staticTypes := #[]
  resolved := Array.replicate 131 none
  statics := none }

def pool5 : Array CpInfo := pool [(1, .class_ 2), (0, u "java/lang/constant/Constable"), (0, .class_ 4), (0, u "java/lang/Object")] 6

/-- java/lang/constant/Constable -/
def k5 : Class := { plain "java/lang/constant/Constable" (some 0) with
  accessFlags := 1537
  interfaces := #[]
  cf := some (fileOf pool5 1 #[] #[] 1537 3 #[] #[])
  fields := #[]
  methods := #[]
  instanceTypes := #[]
  staticTypes := #[]
  resolved := Array.replicate 11 none
  statics := none }

def pool6 : Array CpInfo := pool [(1, .class_ 2), (0, u "java/lang/constant/ConstantDesc"), (0, .class_ 4), (0, u "java/lang/Object")] 32

/-- java/lang/constant/ConstantDesc -/
def k6 : Class := { plain "java/lang/constant/ConstantDesc" (some 0) with
  accessFlags := 1537
  interfaces := #[]
  cf := some (fileOf pool6 1 #[] #[] 1537 3 #[] #[])
  fields := #[]
  methods := #[]
  instanceTypes := #[]
  staticTypes := #[]
  resolved := Array.replicate 37 none
  statics := none }

def pool7 : Array CpInfo := pool [(1, .methodref 2 3), (0, .class_ 4), (0, .nameAndType 5 6), (0, u "java/lang/Object"), (0, u "<init>"), (0, u "()V"), (0, .string 8), (0, u ""), (0, .fieldref 10 11), (0, .class_ 12), (0, .nameAndType 13 14), (0, u "java/lang/String"), (0, u "value"), (0, u "[B"), (0, .fieldref 10 16), (0, .nameAndType 17 18), (0, u "coder"), (0, u "B"), (2, u "hash"), (0, u "I"), (2, u "hashIsZero"), (0, u "Z"), (0, .methodref 10 28), (0, .nameAndType 5 29), (0, u "([CIILjava/lang/Void;)V"), (8, .fieldref 10 39), (0, .nameAndType 40 26), (0, u "COMPACT_STRINGS"), (1, .class_ 44), (1, u "java/lang/StringUTF16"), (0, u "compress"), (1, .methodref 42 48), (0, .nameAndType 49 50), (0, u "coderFromArrayLen"), (0, u "([BI)B"), (2, u "toBytes"), (0, .methodref 55 56), (0, .class_ 57), (0, .nameAndType 58 59), (0, u "java/util/Arrays"), (0, u "copyOfRange"), (0, u "([BII)[B"), (47, .class_ 109), (1, u "java/lang/StringLatin1"), (32, u "()Z"), (34, .methodref 42 178), (0, .nameAndType 45 179), (0, u "([CII)[B"), (13, .class_ 195), (1, u "java/lang/System"), (13, .methodref 10 210), (0, .nameAndType 5 211), (0, u "([BB)V"), (0, .methodref 193 213), (0, .nameAndType 214 215), (0, u "arraycopy"), (0, u "(Ljava/lang/Object;ILjava/lang/Object;II)V"), (118, u "()I"), (0, .methodref 10 336), (0, .nameAndType 17 337), (0, u "()B"), (2, u "()[B"), (22, u "([BI)C"), (5, u "(C)Z"), (21, u "(II)V"), (35, u "(I)C"), (61, .methodref 10 490), (0, .nameAndType 5 491), (0, u "(Ljava/lang/AbstractStringBuilder;Ljava/lang/Void;)V"), (0, .methodref 10 493), (0, .nameAndType 494 142), (0, u "isLatin1"), (0, .methodref 107 496), (0, .nameAndType 497 363), (0, u "charAt"), (3, u "checkIndex"), (4, .nameAndType 507 334), (0, u "length"), (24, u "getBytes"), (16, .methodref 550 506), (0, .class_ 551), (0, u "java/lang/AbstractStringBuilder"), (0, .methodref 550 553), (0, .nameAndType 554 340), (0, u "getValue"), (20, .class_ 576), (0, u "java/lang/CharSequence"), (22, u "CASE_INSENSITIVE_ORDER"), (0, u "Ljava/util/Comparator;"), (181, u "valueOf"), (0, u "(C)Ljava/lang/String;"), (37, u "([BIB)V"), (188, u "([C)V"), (4, .methodref 107 1016), (0, .nameAndType 1017 369), (0, u "canEncode"), (0, .methodref 107 1019), (0, .nameAndType 53 1020), (0, u "(C)[B"), (26, .methodref 550 493), (5, .fieldref 1054 1055), (0, .class_ 1056), (0, .nameAndType 1057 1058), (0, u "jdk/internal/util/Preconditions"), (0, u "SIOOBE_FORMATTER"), (0, u "Ljava/util/function/BiFunction;"), (0, .methodref 1054 1060), (0, .nameAndType 501 1061), (0, u "(IILjava/util/function/BiFunction;)I"), (39, u "serialPersistentFields"), (0, u "[Ljava/io/ObjectStreamField;"), (0, .class_ 1104), (0, u "java/lang/String$CaseInsensitiveComparator"), (1, .class_ 1107), (0, u "java/io/Serializable"), (0, .class_ 1109), (0, u "java/lang/Comparable"), (0, .class_ 1111), (0, u "java/lang/constant/Constable"), (0, .class_ 1113), (0, u "java/lang/constant/ConstantDesc"), (2, u "serialVersionUID"), (0, u "J"), (3, u "REPL"), (0, u "C"), (2, u "LATIN1"), (1, u "UTF16"), (105, u "(Ljava/lang/StringBuilder;)V")] 217

def k7m0 : Method := { name := "<init>", desc := "()V", sig := { parameters := [], returnType := none }, accessFlags := 1, code := none }
def k7c1 : Code := { maxStack := 5, maxLocals := 2, code := jdk_42_method_3_code, exceptionTable := #[], attributes := #[] }
def k7m1 : Method := { name := "<init>", desc := "([C)V", sig := { parameters := [(.array .char)], returnType := none }, accessFlags := 1, code := some k7c1 }
def k7c2 : Code := { maxStack := 3, maxLocals := 2, code := jdk_42_method_53_code, exceptionTable := #[], attributes := #[] }
def k7m2 : Method := { name := "<init>", desc := "(Ljava/lang/StringBuilder;)V", sig := { parameters := [(.object "java/lang/StringBuilder")], returnType := none }, accessFlags := 1, code := some k7c2 }
def k7c3 : Code := { maxStack := 2, maxLocals := 1, code := jdk_42_method_54_code, exceptionTable := #[], attributes := #[] }
def k7m3 : Method := { name := "length", desc := "()I", sig := { parameters := [], returnType := some .int }, accessFlags := 1, code := some k7c3 }
def k7c4 : Code := { maxStack := 2, maxLocals := 2, code := jdk_42_method_56_code, exceptionTable := #[], attributes := #[] }
def k7m4 : Method := { name := "charAt", desc := "(I)C", sig := { parameters := [.int], returnType := some .char }, accessFlags := 1, code := some k7c4 }
def k7c5 : Code := { maxStack := 4, maxLocals := 1, code := jdk_42_method_139_code, exceptionTable := #[], attributes := #[] }
def k7m5 : Method := { name := "valueOf", desc := "(C)Ljava/lang/String;", sig := { parameters := [.char], returnType := some (.object "java/lang/String") }, accessFlags := 9, code := some k7c5 }
def k7c6 : Code := { maxStack := 5, maxLocals := 4, code := jdk_42_method_147_code, exceptionTable := #[], attributes := #[] }
def k7m6 : Method := { name := "getBytes", desc := "([BIB)V", sig := { parameters := [(.array .byte), .int, .byte], returnType := none }, accessFlags := 0, code := some k7c6 }
def k7c7 : Code := { maxStack := 4, maxLocals := 6, code := jdk_42_method_149_code, exceptionTable := #[], attributes := #[] }
def k7m7 : Method := { name := "<init>", desc := "([CIILjava/lang/Void;)V", sig := { parameters := [(.array .char), .int, .int, (.object "java/lang/Void")], returnType := none }, accessFlags := 2, code := some k7c7 }
def k7c8 : Code := { maxStack := 5, maxLocals := 5, code := jdk_42_method_150_code, exceptionTable := #[], attributes := #[] }
def k7m8 : Method := { name := "<init>", desc := "(Ljava/lang/AbstractStringBuilder;Ljava/lang/Void;)V", sig := { parameters := [(.object "java/lang/AbstractStringBuilder"), (.object "java/lang/Void")], returnType := none }, accessFlags := 0, code := some k7c8 }
def k7c9 : Code := { maxStack := 2, maxLocals := 3, code := jdk_42_method_151_code, exceptionTable := #[], attributes := #[] }
def k7m9 : Method := { name := "<init>", desc := "([BB)V", sig := { parameters := [(.array .byte), .byte], returnType := none }, accessFlags := 0, code := some k7c9 }
def k7c10 : Code := { maxStack := 1, maxLocals := 1, code := jdk_42_method_152_code, exceptionTable := #[], attributes := #[] }
def k7m10 : Method := { name := "coder", desc := "()B", sig := { parameters := [], returnType := some .byte }, accessFlags := 0, code := some k7c10 }
def k7c11 : Code := { maxStack := 1, maxLocals := 1, code := jdk_42_method_154_code, exceptionTable := #[], attributes := #[] }
def k7m11 : Method := { name := "isLatin1", desc := "()Z", sig := { parameters := [], returnType := some .boolean }, accessFlags := 0, code := some k7c11 }
def k7c12 : Code := { maxStack := 3, maxLocals := 2, code := jdk_42_method_155_code, exceptionTable := #[], attributes := #[] }
def k7m12 : Method := { name := "checkIndex", desc := "(II)V", sig := { parameters := [.int, .int], returnType := none }, accessFlags := 8, code := some k7c12 }
/-- java/lang/String -/
def k7 : Class := { plain "java/lang/String" (some 0) with
  accessFlags := 49
  interfaces := #[2, 3, 4, 5, 6]
  cf := some (fileOf pool7 10 #[.nestMembers #[1103]] #[{ accessFlags := 1, nameIndex := 5, descriptorIndex := 6, attributes := #[] }, { accessFlags := 1, nameIndex := 5, descriptorIndex := 1010, attributes := #[] }, { accessFlags := 1, nameIndex := 5, descriptorIndex := 1233, attributes := #[] }, { accessFlags := 1, nameIndex := 507, descriptorIndex := 334, attributes := #[] }, { accessFlags := 1, nameIndex := 497, descriptorIndex := 427, attributes := #[] }, { accessFlags := 9, nameIndex := 782, descriptorIndex := 783, attributes := #[] }, { accessFlags := 0, nameIndex := 532, descriptorIndex := 821, attributes := #[] }, { accessFlags := 2, nameIndex := 5, descriptorIndex := 29, attributes := #[] }, { accessFlags := 0, nameIndex := 5, descriptorIndex := 491, attributes := #[] }, { accessFlags := 0, nameIndex := 5, descriptorIndex := 211, attributes := #[] }, { accessFlags := 0, nameIndex := 17, descriptorIndex := 337, attributes := #[] }, { accessFlags := 0, nameIndex := 494, descriptorIndex := 142, attributes := #[] }, { accessFlags := 8, nameIndex := 501, descriptorIndex := 391, attributes := #[] }] 49 2 #[1106, 1108, 575, 1110, 1112] #[{ accessFlags := 18, nameIndex := 13, descriptorIndex := 14, attributes := #[] }, { accessFlags := 18, nameIndex := 17, descriptorIndex := 18, attributes := #[] }, { accessFlags := 2, nameIndex := 21, descriptorIndex := 22, attributes := #[] }, { accessFlags := 2, nameIndex := 25, descriptorIndex := 26, attributes := #[] }, { accessFlags := 26, nameIndex := 1116, descriptorIndex := 1117, attributes := #[] }, { accessFlags := 24, nameIndex := 40, descriptorIndex := 26, attributes := #[] }, { accessFlags := 26, nameIndex := 1101, descriptorIndex := 1102, attributes := #[] }, { accessFlags := 26, nameIndex := 1121, descriptorIndex := 1122, attributes := #[] }, { accessFlags := 25, nameIndex := 599, descriptorIndex := 600, attributes := #[] }, { accessFlags := 24, nameIndex := 1125, descriptorIndex := 18, attributes := #[] }, { accessFlags := 24, nameIndex := 1127, descriptorIndex := 18, attributes := #[] }])
  fields := #[{ name := "value", type := (.array .byte), accessFlags := 18, slot := 0, constantValue := 0 }, { name := "coder", type := .byte, accessFlags := 18, slot := 1, constantValue := 0 }, { name := "hash", type := .int, accessFlags := 2, slot := 2, constantValue := 0 }, { name := "hashIsZero", type := .boolean, accessFlags := 2, slot := 3, constantValue := 0 }, { name := "serialVersionUID", type := .long, accessFlags := 26, slot := 0, constantValue := 0 }, { name := "COMPACT_STRINGS", type := .boolean, accessFlags := 24, slot := 1, constantValue := 0 }, { name := "serialPersistentFields", type := (.array (.object "java/io/ObjectStreamField")), accessFlags := 26, slot := 2, constantValue := 0 }, { name := "REPL", type := .char, accessFlags := 26, slot := 3, constantValue := 0 }, { name := "CASE_INSENSITIVE_ORDER", type := (.object "java/util/Comparator"), accessFlags := 25, slot := 4, constantValue := 0 }, { name := "LATIN1", type := .byte, accessFlags := 24, slot := 5, constantValue := 0 }, { name := "UTF16", type := .byte, accessFlags := 24, slot := 6, constantValue := 0 }]
  methods := #[k7m0, k7m1, k7m2, k7m3, k7m4, k7m5, k7m6, k7m7, k7m8, k7m9, k7m10, k7m11, k7m12]
  instanceTypes := #[(.array .byte), .byte, .int, .boolean]
  staticTypes := #[.long, .boolean, (.array (.object "java/io/ObjectStreamField")), .char, (.object "java/util/Comparator"), .byte, .byte]
  resolved := Array.replicate 1451 none
  statics := some 0 }

def pool8 : Array CpInfo := pool [(1, .class_ 2), (0, u "java/lang/String"), (1, .class_ 6), (1, u "java/lang/Object"), (0, u "<init>"), (0, u "()V"), (0, .methodref 1 10), (0, .nameAndType 11 12), (0, u "checkIndex"), (0, u "(II)V"), (1, .class_ 16), (1, u "java/lang/StringLatin1"), (36, u "([BI)C"), (36, u "canEncode"), (14, u "(C)Z"), (15, u "$assertionsDisabled"), (0, u "Z"), (98, .class_ 223), (1, u "java/lang/StringLatin1$LinesSpliterator"), (28, u "charAt"), (127, u "toBytes"), (1, u "(C)[B"), (7, .class_ 391), (0, u "java/lang/StringLatin1$CharsSpliterator")] 3

def k8m0 : Method := { name := "<init>", desc := "()V", sig := { parameters := [], returnType := none }, accessFlags := 0, code := none }
def k8c1 : Code := { maxStack := 2, maxLocals := 2, code := jdk_43_method_2_code, exceptionTable := #[], attributes := #[] }
def k8m1 : Method := { name := "charAt", desc := "([BI)C", sig := { parameters := [(.array .byte), .int], returnType := some .char }, accessFlags := 9, code := some k8c1 }
def k8c2 : Code := { maxStack := 2, maxLocals := 1, code := jdk_43_method_3_code, exceptionTable := #[], attributes := #[] }
def k8m2 : Method := { name := "canEncode", desc := "(C)Z", sig := { parameters := [.char], returnType := some .boolean }, accessFlags := 9, code := some k8c2 }
def k8c3 : Code := { maxStack := 4, maxLocals := 1, code := jdk_43_method_46_code, exceptionTable := #[], attributes := #[] }
def k8m3 : Method := { name := "toBytes", desc := "(C)[B", sig := { parameters := [.char], returnType := some (.array .byte) }, accessFlags := 9, code := some k8c3 }
/-- java/lang/StringLatin1 -/
def k8 : Class := { plain "java/lang/StringLatin1" (some 0) with
  accessFlags := 48
  interfaces := #[]
  cf := some (fileOf pool8 14 #[.nestMembers #[390, 221]] #[{ accessFlags := 0, nameIndex := 7, descriptorIndex := 8, attributes := #[] }, { accessFlags := 9, nameIndex := 252, descriptorIndex := 53, attributes := #[] }, { accessFlags := 9, nameIndex := 90, descriptorIndex := 105, attributes := #[] }, { accessFlags := 9, nameIndex := 380, descriptorIndex := 382, attributes := #[] }] 48 4 #[] #[{ accessFlags := 4120, nameIndex := 121, descriptorIndex := 122, attributes := #[] }])
  fields := #[{ name := "$assertionsDisabled", type := .boolean, accessFlags := 4120, slot := 0, constantValue := 0 }]
  methods := #[k8m0, k8m1, k8m2, k8m3]
  instanceTypes := #[]
  staticTypes := #[.boolean]
  resolved := Array.replicate 395 none
  statics := none }

def pool9 : Array CpInfo := pool [(1, .methodref 2 3), (0, .class_ 4), (0, .nameAndType 5 6), (0, u "java/lang/Object"), (0, u "<init>"), (0, u "()V"), (0, .fieldref 8 9), (0, .class_ 10), (0, .nameAndType 11 12), (0, u "com/example/shardpick/shardpick/NumberedNames"), (0, u "prefix"), (0, u "Ljava/lang/String;"), (0, .methodref 14 15), (0, .class_ 16), (0, .nameAndType 17 18), (0, u "java/lang/Integer"), (0, u "toString"), (0, u "(I)Ljava/lang/String;"), (0, .methodref 20 21), (0, .class_ 22), (0, .nameAndType 23 24), (0, u "java/lang/String"), (0, u "length"), (0, u "()I"), (0, .fieldref 8 26), (0, .nameAndType 27 28), (0, u "width"), (0, u "I"), (0, .class_ 30), (0, u "java/lang/StringBuilder"), (0, .methodref 29 32), (0, .nameAndType 5 33), (0, u "(I)V"), (0, .methodref 29 35), (0, .nameAndType 36 37), (0, u "append"), (0, u "(Ljava/lang/String;)Ljava/lang/StringBuilder;"), (0, .methodref 29 39), (0, .nameAndType 36 40), (0, u "(C)Ljava/lang/StringBuilder;"), (0, .methodref 29 42), (0, .nameAndType 17 43), (0, u "()Ljava/lang/String;"), (0, u "(Ljava/lang/String;I)V"), (2, u "name")] 3

def k9c0 : Code := { maxStack := 3, maxLocals := 3, code := prog_5_method_1_code, exceptionTable := #[], attributes := #[] }
def k9m0 : Method := { name := "<init>", desc := "(Ljava/lang/String;I)V", sig := { parameters := [(.object "java/lang/String"), .int], returnType := none }, accessFlags := 1, code := some k9c0 }
def k9c1 : Code := { maxStack := 4, maxLocals := 5, code := prog_5_method_2_code, exceptionTable := #[], attributes := #[] }
def k9m1 : Method := { name := "name", desc := "(I)Ljava/lang/String;", sig := { parameters := [.int], returnType := some (.object "java/lang/String") }, accessFlags := 1, code := some k9c1 }
/-- com/example/shardpick/shardpick/NumberedNames -/
def k9 : Class := { plain "com/example/shardpick/shardpick/NumberedNames" (some 0) with
  accessFlags := 49
  interfaces := #[]
  cf := some (fileOf pool9 8 #[] #[{ accessFlags := 1, nameIndex := 5, descriptorIndex := 44, attributes := #[] }, { accessFlags := 1, nameIndex := 47, descriptorIndex := 18, attributes := #[] }] 49 2 #[] #[{ accessFlags := 18, nameIndex := 11, descriptorIndex := 12, attributes := #[] }, { accessFlags := 18, nameIndex := 27, descriptorIndex := 28, attributes := #[] }])
  fields := #[{ name := "prefix", type := (.object "java/lang/String"), accessFlags := 18, slot := 0, constantValue := 0 }, { name := "width", type := .int, accessFlags := 18, slot := 1, constantValue := 0 }]
  methods := #[k9m0, k9m1]
  instanceTypes := #[(.object "java/lang/String"), .int]
  staticTypes := #[]
  resolved := Array.replicate 51 none
  statics := none }

def pool10 : Array CpInfo := pool [(2, .class_ 4), (1, u "java/lang/Object"), (0, u "<init>"), (0, u "()V"), (1, .class_ 10), (1, u "java/lang/Number"), (2, .class_ 14), (0, u "java/io/Serializable"), (0, u "serialVersionUID"), (0, u "J")] 20

def k10m0 : Method := { name := "<init>", desc := "()V", sig := { parameters := [], returnType := none }, accessFlags := 1, code := none }
/-- java/lang/Number -/
def k10 : Class := { plain "java/lang/Number" (some 0) with
  accessFlags := 1057
  interfaces := #[2]
  cf := some (fileOf pool10 8 #[] #[{ accessFlags := 1, nameIndex := 5, descriptorIndex := 6, attributes := #[] }] 1057 2 #[13] #[{ accessFlags := 26, nameIndex := 15, descriptorIndex := 16, attributes := #[] }])
  fields := #[{ name := "serialVersionUID", type := .long, accessFlags := 26, slot := 0, constantValue := 0 }]
  methods := #[k10m0]
  instanceTypes := #[]
  staticTypes := #[.long]
  resolved := Array.replicate 37 none
  statics := none }

def pool11 : Array CpInfo := pool [(1, .class_ 2), (0, u "java/lang/Integer"), (2, .class_ 6), (0, u "java/lang/String"), (4, u "toString"), (0, u "(I)Ljava/lang/String;"), (0, .fieldref 5 14), (0, .nameAndType 15 16), (0, u "COMPACT_STRINGS"), (0, u "Z"), (2, u "digits"), (0, u "[C"), (33, u "(I)I"), (10, .methodref 5 66), (0, .nameAndType 67 68), (0, u "<init>"), (0, u "([BB)V"), (3, .methodref 1 73), (0, .nameAndType 74 54), (0, u "stringSize"), (0, .methodref 1 76), (0, .nameAndType 77 78), (0, u "getChars"), (0, u "(II[B)I"), (4, .fieldref 1 84), (0, .nameAndType 85 86), (0, u "DigitOnes"), (0, u "[B"), (0, .fieldref 1 88), (0, .nameAndType 89 86), (0, u "DigitTens"), (99, .class_ 190), (0, u "java/lang/Integer$IntegerCache"), (3, u "I"), (8, .class_ 204), (0, u "java/lang/Number"), (2, u "value"), (94, u "TYPE"), (0, u "Ljava/lang/Class;"), (0, .class_ 305), (0, u "java/lang/Comparable"), (0, .class_ 307), (0, u "java/lang/constant/Constable"), (0, .class_ 309), (0, u "java/lang/constant/ConstantDesc"), (0, u "MIN_VALUE"), (1, u "MAX_VALUE"), (3, u "SIZE"), (1, u "BYTES"), (1, u "serialVersionUID"), (0, u "J")] 131

def k11c0 : Code := { maxStack := 4, maxLocals := 3, code := jdk_33_method_10_code, exceptionTable := #[], attributes := #[] }
def k11m0 : Method := { name := "toString", desc := "(I)Ljava/lang/String;", sig := { parameters := [.int], returnType := some (.object "java/lang/String") }, accessFlags := 9, code := some k11c0 }
def k11c1 : Code := { maxStack := 4, maxLocals := 7, code := jdk_33_method_12_code, exceptionTable := #[], attributes := #[] }
def k11m1 : Method := { name := "getChars", desc := "(II[B)I", sig := { parameters := [.int, .int, (.array .byte)], returnType := some .int }, accessFlags := 8, code := some k11c1 }
def k11c2 : Code := { maxStack := 2, maxLocals := 4, code := jdk_33_method_13_code, exceptionTable := #[], attributes := #[] }
def k11m2 : Method := { name := "stringSize", desc := "(I)I", sig := { parameters := [.int], returnType := some .int }, accessFlags := 8, code := some k11c2 }
/-- java/lang/Integer -/
def k11 : Class := { plain "java/lang/Integer" (some 10) with
  accessFlags := 49
  interfaces := #[3, 5, 6]
  cf := some (fileOf pool11 1 #[.nestMembers #[189]] #[{ accessFlags := 9, nameIndex := 11, descriptorIndex := 12, attributes := #[] }, { accessFlags := 8, nameIndex := 77, descriptorIndex := 78, attributes := #[] }, { accessFlags := 8, nameIndex := 74, descriptorIndex := 54, attributes := #[] }] 49 203 #[304, 306, 308] #[{ accessFlags := 25, nameIndex := 310, descriptorIndex := 194, attributes := #[] }, { accessFlags := 25, nameIndex := 312, descriptorIndex := 194, attributes := #[] }, { accessFlags := 25, nameIndex := 302, descriptorIndex := 303, attributes := #[] }, { accessFlags := 24, nameIndex := 19, descriptorIndex := 20, attributes := #[] }, { accessFlags := 24, nameIndex := 89, descriptorIndex := 86, attributes := #[] }, { accessFlags := 24, nameIndex := 85, descriptorIndex := 86, attributes := #[] }, { accessFlags := 18, nameIndex := 207, descriptorIndex := 194, attributes := #[] }, { accessFlags := 25, nameIndex := 316, descriptorIndex := 194, attributes := #[] }, { accessFlags := 25, nameIndex := 318, descriptorIndex := 194, attributes := #[] }, { accessFlags := 26, nameIndex := 320, descriptorIndex := 321, attributes := #[] }])
  fields := #[{ name := "MIN_VALUE", type := .int, accessFlags := 25, slot := 0, constantValue := 0 }, { name := "MAX_VALUE", type := .int, accessFlags := 25, slot := 1, constantValue := 0 }, { name := "TYPE", type := (.object "java/lang/Class"), accessFlags := 25, slot := 2, constantValue := 0 }, { name := "digits", type := (.array .char), accessFlags := 24, slot := 3, constantValue := 0 }, { name := "DigitTens", type := (.array .byte), accessFlags := 24, slot := 4, constantValue := 0 }, { name := "DigitOnes", type := (.array .byte), accessFlags := 24, slot := 5, constantValue := 0 }, { name := "value", type := .int, accessFlags := 18, slot := 0, constantValue := 0 }, { name := "SIZE", type := .int, accessFlags := 25, slot := 6, constantValue := 0 }, { name := "BYTES", type := .int, accessFlags := 25, slot := 7, constantValue := 0 }, { name := "serialVersionUID", type := .long, accessFlags := 26, slot := 8, constantValue := 0 }]
  methods := #[k11m0, k11m1, k11m2]
  instanceTypes := #[.int]
  staticTypes := #[.int, .int, (.object "java/lang/Class"), (.array .char), (.array .byte), (.array .byte), .int, .int, .long]
  resolved := Array.replicate 453 none
  statics := some 1 }

def pool12 : Array CpInfo := pool [(1, .class_ 2), (0, u "java/lang/Appendable"), (0, .class_ 4), (0, u "java/lang/Object")] 9

/-- java/lang/Appendable -/
def k12 : Class := { plain "java/lang/Appendable" (some 0) with
  accessFlags := 1537
  interfaces := #[]
  cf := some (fileOf pool12 1 #[] #[] 1537 3 #[] #[])
  fields := #[]
  methods := #[]
  instanceTypes := #[]
  staticTypes := #[]
  resolved := Array.replicate 14 none
  statics := none }

def pool13 : Array CpInfo := pool [(1, .class_ 2), (0, u "java/lang/String"), (0, .methodref 4 5), (0, .class_ 6), (0, .nameAndType 7 8), (0, u "java/lang/Object"), (0, u "<init>"), (0, u "()V"), (1, .class_ 12), (1, u "java/lang/AbstractStringBuilder"), (0, u "EMPTYVALUE"), (0, u "[B"), (0, .fieldref 10 16), (0, .nameAndType 17 14), (0, u "value"), (0, .fieldref 1 19), (0, .nameAndType 20 21), (0, u "COMPACT_STRINGS"), (0, u "Z"), (0, .fieldref 10 23), (0, .nameAndType 24 25), (0, u "coder"), (0, u "B"), (6, .methodref 1 33), (0, .nameAndType 34 35), (0, u "length"), (0, u "()I"), (4, .methodref 1 41), (0, .nameAndType 24 42), (0, u "()B"), (2, u "append"), (0, u "(Ljava/lang/String;)Ljava/lang/AbstractStringBuilder;"), (1, .class_ 49), (0, u "java/lang/CharSequence"), (19, u "(Ljava/lang/String;)V"), (5, u "maybeLatin1"), (3, .fieldref 10 80), (0, .nameAndType 81 82), (0, u "count"), (0, u "I"), (0, .methodref 10 84), (0, .nameAndType 85 86), (0, u "isLatin1"), (0, u "()Z"), (1, .class_ 90), (1, u "java/lang/StringLatin1"), (9, .methodref 10 101), (0, .nameAndType 102 103), (0, u "ensureCapacityInternal"), (0, u "(I)V"), (87, .methodref 88 192), (0, .nameAndType 193 194), (0, u "canEncode"), (0, u "(C)Z"), (13, .methodref 10 209), (0, .nameAndType 210 211), (0, u "putStringAt"), (0, u "(ILjava/lang/String;)V"), (5, u "inflateIfNeededFor"), (2, .nameAndType 221 222), (0, u "getBytes"), (0, u "([BIB)V"), (69, u "(C)Ljava/lang/AbstractStringBuilder;"), (104, .methodref 10 398), (0, .nameAndType 217 69), (0, .methodref 1 220), (3, u "()[B"), (40, .class_ 445), (0, u "java/lang/Appendable"), (106, u "getValue")] 56

def k13m0 : Method := { name := "<init>", desc := "()V", sig := { parameters := [], returnType := none }, accessFlags := 0, code := none }
def k13c1 : Code := { maxStack := 2, maxLocals := 2, code := jdk_68_method_2_code, exceptionTable := #[], attributes := #[] }
def k13m1 : Method := { name := "<init>", desc := "(I)V", sig := { parameters := [.int], returnType := none }, accessFlags := 0, code := some k13c1 }
def k13c2 : Code := { maxStack := 1, maxLocals := 1, code := jdk_68_method_6_code, exceptionTable := #[], attributes := #[] }
def k13m2 : Method := { name := "length", desc := "()I", sig := { parameters := [], returnType := some .int }, accessFlags := 1, code := some k13c2 }
def k13c3 : Code := { maxStack := 4, maxLocals := 3, code := jdk_68_method_9_code, exceptionTable := #[], attributes := #[] }
def k13m3 : Method := { name := "ensureCapacityInternal", desc := "(I)V", sig := { parameters := [.int], returnType := none }, accessFlags := 2, code := some k13c3 }
def k13c4 : Code := { maxStack := 3, maxLocals := 3, code := jdk_68_method_22_code, exceptionTable := #[], attributes := #[] }
def k13m4 : Method := { name := "append", desc := "(Ljava/lang/String;)Ljava/lang/AbstractStringBuilder;", sig := { parameters := [(.object "java/lang/String")], returnType := some (.object "java/lang/AbstractStringBuilder") }, accessFlags := 1, code := some k13c4 }
def k13c5 : Code := { maxStack := 5, maxLocals := 2, code := jdk_68_method_31_code, exceptionTable := #[], attributes := #[] }
def k13m5 : Method := { name := "append", desc := "(C)Ljava/lang/AbstractStringBuilder;", sig := { parameters := [.char], returnType := some (.object "java/lang/AbstractStringBuilder") }, accessFlags := 1, code := some k13c5 }
def k13c6 : Code := { maxStack := 1, maxLocals := 1, code := jdk_68_method_64_code, exceptionTable := #[], attributes := #[] }
def k13m6 : Method := { name := "getValue", desc := "()[B", sig := { parameters := [], returnType := some (.array .byte) }, accessFlags := 16, code := some k13c6 }
def k13c7 : Code := { maxStack := 1, maxLocals := 1, code := jdk_68_method_68_code, exceptionTable := #[], attributes := #[] }
def k13m7 : Method := { name := "isLatin1", desc := "()Z", sig := { parameters := [], returnType := some .boolean }, accessFlags := 16, code := some k13c7 }
def k13c8 : Code := { maxStack := 2, maxLocals := 2, code := jdk_68_method_71_code, exceptionTable := #[], attributes := #[] }
def k13m8 : Method := { name := "inflateIfNeededFor", desc := "(Ljava/lang/String;)V", sig := { parameters := [(.object "java/lang/String")], returnType := none }, accessFlags := 2, code := some k13c8 }
def k13c9 : Code := { maxStack := 4, maxLocals := 3, code := jdk_68_method_73_code, exceptionTable := #[], attributes := #[] }
def k13m9 : Method := { name := "putStringAt", desc := "(ILjava/lang/String;)V", sig := { parameters := [.int, (.object "java/lang/String")], returnType := none }, accessFlags := 2, code := some k13c9 }
/-- java/lang/AbstractStringBuilder -/
def k13 : Class := { plain "java/lang/AbstractStringBuilder" (some 0) with
  accessFlags := 1056
  interfaces := #[12, 4]
  cf := some (fileOf pool13 10 #[] #[{ accessFlags := 0, nameIndex := 7, descriptorIndex := 8, attributes := #[] }, { accessFlags := 0, nameIndex := 7, descriptorIndex := 103, attributes := #[] }, { accessFlags := 1, nameIndex := 34, descriptorIndex := 35, attributes := #[] }, { accessFlags := 2, nameIndex := 102, descriptorIndex := 103, attributes := #[] }, { accessFlags := 1, nameIndex := 45, descriptorIndex := 46, attributes := #[] }, { accessFlags := 1, nameIndex := 45, descriptorIndex := 292, attributes := #[] }, { accessFlags := 16, nameIndex := 552, descriptorIndex := 403, attributes := #[] }, { accessFlags := 16, nameIndex := 85, descriptorIndex := 86, attributes := #[] }, { accessFlags := 2, nameIndex := 217, descriptorIndex := 69, attributes := #[] }, { accessFlags := 2, nameIndex := 210, descriptorIndex := 211, attributes := #[] }] 1056 4 #[444, 48] #[{ accessFlags := 0, nameIndex := 17, descriptorIndex := 14, attributes := #[] }, { accessFlags := 0, nameIndex := 24, descriptorIndex := 25, attributes := #[] }, { accessFlags := 0, nameIndex := 75, descriptorIndex := 21, attributes := #[] }, { accessFlags := 0, nameIndex := 81, descriptorIndex := 82, attributes := #[] }, { accessFlags := 26, nameIndex := 13, descriptorIndex := 14, attributes := #[] }])
  fields := #[{ name := "value", type := (.array .byte), accessFlags := 0, slot := 0, constantValue := 0 }, { name := "coder", type := .byte, accessFlags := 0, slot := 1, constantValue := 0 }, { name := "maybeLatin1", type := .boolean, accessFlags := 0, slot := 2, constantValue := 0 }, { name := "count", type := .int, accessFlags := 0, slot := 3, constantValue := 0 }, { name := "EMPTYVALUE", type := (.array .byte), accessFlags := 26, slot := 0, constantValue := 0 }]
  methods := #[k13m0, k13m1, k13m2, k13m3, k13m4, k13m5, k13m6, k13m7, k13m8, k13m9]
  instanceTypes := #[(.array .byte), .byte, .boolean, .int]
  staticTypes := #[(.array .byte)]
  resolved := Array.replicate 609 none
  statics := none }

def pool14 : Array CpInfo := pool [(1, .methodref 2 3), (0, .class_ 4), (0, .nameAndType 5 6), (0, u "java/lang/AbstractStringBuilder"), (0, u "<init>"), (0, u "(I)V"), (11, .class_ 20), (1, u "java/lang/String"), (3, .class_ 26), (1, u "java/lang/StringBuilder"), (0, u "append"), (0, u "(Ljava/lang/String;)Ljava/lang/StringBuilder;"), (0, .methodref 2 30), (0, .nameAndType 27 31), (0, u "(Ljava/lang/String;)Ljava/lang/AbstractStringBuilder;"), (18, .methodref 2 51), (0, .nameAndType 27 52), (0, u "(C)Ljava/lang/AbstractStringBuilder;"), (84, .methodref 18 138), (0, .nameAndType 5 139), (0, u "(Ljava/lang/StringBuilder;)V"), (5, u "()V"), (10, u "()I"), (129, u "(C)Ljava/lang/StringBuilder;"), (56, .methodref 2 344), (0, .nameAndType 345 156), (0, u "length"), (3, .class_ 350), (0, u "java/lang/Appendable"), (0, .class_ 352), (0, u "java/io/Serializable"), (0, .class_ 354), (0, u "java/lang/Comparable"), (0, .class_ 356), (0, u "java/lang/CharSequence"), (0, u "serialVersionUID"), (0, u "J"), (40, u "toString"), (0, u "()Ljava/lang/String;")] 21

def k14m0 : Method := { name := "<init>", desc := "()V", sig := { parameters := [], returnType := none }, accessFlags := 1, code := none }
def k14c1 : Code := { maxStack := 2, maxLocals := 2, code := jdk_67_method_2_code, exceptionTable := #[], attributes := #[] }
def k14m1 : Method := { name := "<init>", desc := "(I)V", sig := { parameters := [.int], returnType := none }, accessFlags := 1, code := some k14c1 }
def k14c2 : Code := { maxStack := 2, maxLocals := 2, code := jdk_67_method_7_code, exceptionTable := #[], attributes := #[] }
def k14m2 : Method := { name := "append", desc := "(Ljava/lang/String;)Ljava/lang/StringBuilder;", sig := { parameters := [(.object "java/lang/String")], returnType := some (.object "java/lang/StringBuilder") }, accessFlags := 1, code := some k14c2 }
def k14c3 : Code := { maxStack := 2, maxLocals := 2, code := jdk_67_method_14_code, exceptionTable := #[], attributes := #[] }
def k14m3 : Method := { name := "append", desc := "(C)Ljava/lang/StringBuilder;", sig := { parameters := [.char], returnType := some (.object "java/lang/StringBuilder") }, accessFlags := 1, code := some k14c3 }
def k14c4 : Code := { maxStack := 3, maxLocals := 1, code := jdk_67_method_42_code, exceptionTable := #[], attributes := #[] }
def k14m4 : Method := { name := "toString", desc := "()Ljava/lang/String;", sig := { parameters := [], returnType := some (.object "java/lang/String") }, accessFlags := 1, code := some k14c4 }
def k14c5 : Code := { maxStack := 1, maxLocals := 1, code := jdk_67_method_93_code, exceptionTable := #[], attributes := #[] }
def k14m5 : Method := { name := "length", desc := "()I", sig := { parameters := [], returnType := some .int }, accessFlags := 4161, code := some k14c5 }
/-- java/lang/StringBuilder -/
def k14 : Class := { plain "java/lang/StringBuilder" (some 13) with
  accessFlags := 49
  interfaces := #[12, 2, 3, 4]
  cf := some (fileOf pool14 24 #[] #[{ accessFlags := 1, nameIndex := 5, descriptorIndex := 145, attributes := #[] }, { accessFlags := 1, nameIndex := 5, descriptorIndex := 6, attributes := #[] }, { accessFlags := 1, nameIndex := 27, descriptorIndex := 28, attributes := #[] }, { accessFlags := 1, nameIndex := 27, descriptorIndex := 286, attributes := #[] }, { accessFlags := 1, nameIndex := 399, descriptorIndex := 400, attributes := #[] }, { accessFlags := 4161, nameIndex := 345, descriptorIndex := 156, attributes := #[] }] 49 2 #[349, 351, 353, 355] #[{ accessFlags := 24, nameIndex := 357, descriptorIndex := 358, attributes := #[] }])
  fields := #[{ name := "serialVersionUID", type := .long, accessFlags := 24, slot := 0, constantValue := 0 }]
  methods := #[k14m0, k14m1, k14m2, k14m3, k14m4, k14m5]
  instanceTypes := #[(.array .byte), .byte, .boolean, .int]
  staticTypes := #[.long]
  resolved := Array.replicate 422 none
  statics := none }

def pool15 : Array CpInfo := pool [(2, .class_ 4), (1, u "java/lang/Object"), (0, u "<init>"), (0, u "()V"), (1, .class_ 10), (1, u "java/lang/System"), (0, u "allowSecurityManager"), (0, u "I"), (16, u "cons"), (0, u "Ljava/io/Console;"), (77, .class_ 110), (1, u "java/lang/System$CallersHolder"), (43, u "initialErrStream"), (0, u "Ljava/io/PrintStream;"), (19, u "security"), (0, u "Ljava/lang/SecurityManager;"), (31, .class_ 209), (0, u "java/lang/System$1"), (7, u "props"), (0, u "Ljava/util/Properties;"), (2, u "lineSeparator"), (0, u "Ljava/lang/String;"), (96, .class_ 321), (1, u "java/lang/System$LoggerFinder"), (5, .class_ 328), (0, u "java/lang/System$Logger"), (67, u "err"), (2, u "out"), (91, u "notSupportedJnuEncoding"), (15, u "in"), (17, u "initialIn"), (0, u "Ljava/io/InputStream;"), (35, u "bootLayer"), (0, u "Ljava/lang/ModuleLayer;"), (99, .class_ 664), (0, u "java/lang/System$2"), (9, u "NEVER"), (2, u "MAYBE"), (49, u "arraycopy"), (0, u "(Ljava/lang/Object;ILjava/lang/Object;II)V"), (72, .class_ 802), (0, u "java/lang/System$Logger$Level")] 31

def k15m0 : Method := { name := "<init>", desc := "()V", sig := { parameters := [], returnType := none }, accessFlags := 2, code := none }
def k15m1 : Method := { name := "arraycopy", desc := "(Ljava/lang/Object;ILjava/lang/Object;II)V", sig := { parameters := [(.object "java/lang/Object"), .int, (.object "java/lang/Object"), .int, .int], returnType := none }, accessFlags := 265, code := none }
/-- java/lang/System -/
def k15 : Class := { plain "java/lang/System" (some 0) with
  accessFlags := 49
  interfaces := #[]
  cf := some (fileOf pool15 8 #[.nestMembers #[319, 327, 801, 108, 663, 208]] #[{ accessFlags := 2, nameIndex := 5, descriptorIndex := 6, attributes := #[] }, { accessFlags := 265, nameIndex := 727, descriptorIndex := 728, attributes := #[] }] 49 2 #[] #[{ accessFlags := 25, nameIndex := 507, descriptorIndex := 526, attributes := #[] }, { accessFlags := 25, nameIndex := 399, descriptorIndex := 155, attributes := #[] }, { accessFlags := 25, nameIndex := 396, descriptorIndex := 155, attributes := #[] }, { accessFlags := 10, nameIndex := 525, descriptorIndex := 526, attributes := #[] }, { accessFlags := 26, nameIndex := 674, descriptorIndex := 12, attributes := #[] }, { accessFlags := 26, nameIndex := 677, descriptorIndex := 12, attributes := #[] }, { accessFlags := 10, nameIndex := 11, descriptorIndex := 12, attributes := #[] }, { accessFlags := 74, nameIndex := 175, descriptorIndex := 176, attributes := #[] }, { accessFlags := 10, nameIndex := 491, descriptorIndex := 222, attributes := #[] }, { accessFlags := 74, nameIndex := 29, descriptorIndex := 30, attributes := #[] }, { accessFlags := 74, nameIndex := 154, descriptorIndex := 155, attributes := #[] }, { accessFlags := 10, nameIndex := 217, descriptorIndex := 218, attributes := #[] }, { accessFlags := 10, nameIndex := 221, descriptorIndex := 222, attributes := #[] }, { accessFlags := 8, nameIndex := 562, descriptorIndex := 563, attributes := #[] }])
  fields := #[{ name := "in", type := (.object "java/io/InputStream"), accessFlags := 25, slot := 0, constantValue := 0 }, { name := "out", type := (.object "java/io/PrintStream"), accessFlags := 25, slot := 1, constantValue := 0 }, { name := "err", type := (.object "java/io/PrintStream"), accessFlags := 25, slot := 2, constantValue := 0 }, { name := "initialIn", type := (.object "java/io/InputStream"), accessFlags := 10, slot := 3, constantValue := 0 }, { name := "NEVER", type := .int, accessFlags := 26, slot := 4, constantValue := 0 }, { name := "MAYBE", type := .int, accessFlags := 26, slot := 5, constantValue := 0 }, { name := "allowSecurityManager", type := .int, accessFlags := 10, slot := 6, constantValue := 0 }, { name := "security", type := (.object "java/lang/SecurityManager"), accessFlags := 74, slot := 7, constantValue := 0 }, { name := "notSupportedJnuEncoding", type := (.object "java/lang/String"), accessFlags := 10, slot := 8, constantValue := 0 }, { name := "cons", type := (.object "java/io/Console"), accessFlags := 74, slot := 9, constantValue := 0 }, { name := "initialErrStream", type := (.object "java/io/PrintStream"), accessFlags := 74, slot := 10, constantValue := 0 }, { name := "props", type := (.object "java/util/Properties"), accessFlags := 10, slot := 11, constantValue := 0 }, { name := "lineSeparator", type := (.object "java/lang/String"), accessFlags := 10, slot := 12, constantValue := 0 }, { name := "bootLayer", type := (.object "java/lang/ModuleLayer"), accessFlags := 8, slot := 13, constantValue := 0 }]
  methods := #[k15m0, k15m1]
  instanceTypes := #[]
  staticTypes := #[(.object "java/io/InputStream"), (.object "java/io/PrintStream"), (.object "java/io/PrintStream"), (.object "java/io/InputStream"), .int, .int, .int, (.object "java/lang/SecurityManager"), (.object "java/lang/String"), (.object "java/io/Console"), (.object "java/io/PrintStream"), (.object "java/util/Properties"), (.object "java/lang/String"), (.object "java/lang/ModuleLayer")]
  resolved := Array.replicate 834 none
  statics := none }

def pool16 : Array CpInfo := pool [(2, .class_ 4), (1, u "java/lang/Object"), (0, u "<init>"), (0, u "()V"), (7, .class_ 16), (1, u "java/util/Arrays"), (57, .class_ 76), (1, u "java/util/Arrays$NaturalOrder"), (32, u "()Ljava/lang/Object;"), (3, .class_ 115), (1, u "java/util/Arrays$LegacyMergeSort"), (1, u "Z"), (10, .nameAndType 129 109), (0, u "clone"), (9, u "copyOfRange"), (170, .methodref 311 128), (0, .class_ 312), (0, u "[B"), (29, u "([BII)[B"), (32, .class_ 376), (0, u "java/util/Arrays$ArrayList"), (68, u "$assertionsDisabled"), (269, u "MIN_ARRAY_SORT_GRAN"), (0, u "I"), (2, u "INSERTIONSORT_THRESHOLD"), (255, .class_ 976), (0, u "java/util/Arrays$ArrayItr")] 52

def k16m0 : Method := { name := "<init>", desc := "()V", sig := { parameters := [], returnType := none }, accessFlags := 2, code := none }
def k16c1 : Code := { maxStack := 3, maxLocals := 3, code := jdk_65_method_132_code, exceptionTable := #[], attributes := #[] }
def k16m1 : Method := { name := "copyOfRange", desc := "([BII)[B", sig := { parameters := [(.array .byte), .int, .int], returnType := some (.array .byte) }, accessFlags := 9, code := some k16c1 }
/-- java/util/Arrays -/
def k16 : Class := { plain "java/util/Arrays" (some 0) with
  accessFlags := 49
  interfaces := #[]
  cf := some (fileOf pool16 14 #[.nestMembers #[975, 375, 113, 74]] #[{ accessFlags := 2, nameIndex := 5, descriptorIndex := 6, attributes := #[] }, { accessFlags := 9, nameIndex := 139, descriptorIndex := 342, attributes := #[] }] 49 2 #[] #[{ accessFlags := 26, nameIndex := 715, descriptorIndex := 716, attributes := #[] }, { accessFlags := 26, nameIndex := 719, descriptorIndex := 716, attributes := #[] }, { accessFlags := 4120, nameIndex := 445, descriptorIndex := 117, attributes := #[] }])
  fields := #[{ name := "MIN_ARRAY_SORT_GRAN", type := .int, accessFlags := 26, slot := 0, constantValue := 0 }, { name := "INSERTIONSORT_THRESHOLD", type := .int, accessFlags := 26, slot := 1, constantValue := 0 }, { name := "$assertionsDisabled", type := .boolean, accessFlags := 4120, slot := 2, constantValue := 0 }]
  methods := #[k16m0, k16m1]
  instanceTypes := #[]
  staticTypes := #[.int, .int, .boolean]
  resolved := Array.replicate 1029 none
  statics := none }

def pool17 : Array CpInfo := pool [(1, .class_ 2), (0, u "java/lang/Cloneable"), (0, .class_ 4), (0, u "java/lang/Object")] 2

/-- java/lang/Cloneable -/
def k17 : Class := { plain "java/lang/Cloneable" (some 0) with
  accessFlags := 1537
  interfaces := #[]
  cf := some (fileOf pool17 1 #[] #[] 1537 3 #[] #[])
  fields := #[]
  methods := #[]
  instanceTypes := #[]
  staticTypes := #[]
  resolved := Array.replicate 7 none
  statics := none }

def pool18 : Array CpInfo := pool [(2, .class_ 4), (1, u "java/lang/Object"), (0, u "<init>"), (0, u "()V"), (17, .class_ 26), (1, u "jdk/internal/util/Preconditions"), (6, u "checkIndex"), (21, .class_ 56), (0, u "jdk/internal/util/Preconditions$4"), (57, .class_ 115), (0, u "jdk/internal/util/Preconditions$1"), (7, u "SIOOBE_FORMATTER"), (0, u "Ljava/util/function/BiFunction;"), (0, .class_ 126), (0, u "jdk/internal/util/Preconditions$2"), (3, u "AIOOBE_FORMATTER"), (0, .class_ 132), (0, u "jdk/internal/util/Preconditions$3"), (3, u "IOOBE_FORMATTER"), (41, u "(IILjava/util/function/BiFunction;)I")] 15

def k18m0 : Method := { name := "<init>", desc := "()V", sig := { parameters := [], returnType := none }, accessFlags := 1, code := none }
def k18c1 : Code := { maxStack := 3, maxLocals := 3, code := jdk_41_method_11_code, exceptionTable := #[], attributes := #[] }
def k18m1 : Method := { name := "checkIndex", desc := "(IILjava/util/function/BiFunction;)I", sig := { parameters := [.int, .int, (.object "java/util/function/BiFunction")], returnType := some .int }, accessFlags := 9, code := some k18c1 }
/-- jdk/internal/util/Preconditions -/
def k18 : Class := { plain "jdk/internal/util/Preconditions" (some 0) with
  accessFlags := 33
  interfaces := #[]
  cf := some (fileOf pool18 24 #[.nestMembers #[55, 131, 125, 114]] #[{ accessFlags := 1, nameIndex := 5, descriptorIndex := 6, attributes := #[] }, { accessFlags := 9, nameIndex := 33, descriptorIndex := 178, attributes := #[] }] 33 2 #[] #[{ accessFlags := 25, nameIndex := 123, descriptorIndex := 124, attributes := #[] }, { accessFlags := 25, nameIndex := 130, descriptorIndex := 124, attributes := #[] }, { accessFlags := 25, nameIndex := 136, descriptorIndex := 124, attributes := #[] }])
  fields := #[{ name := "SIOOBE_FORMATTER", type := (.object "java/util/function/BiFunction"), accessFlags := 25, slot := 0, constantValue := 0 }, { name := "AIOOBE_FORMATTER", type := (.object "java/util/function/BiFunction"), accessFlags := 25, slot := 1, constantValue := 0 }, { name := "IOOBE_FORMATTER", type := (.object "java/util/function/BiFunction"), accessFlags := 25, slot := 2, constantValue := 0 }]
  methods := #[k18m0, k18m1]
  instanceTypes := #[]
  staticTypes := #[(.object "java/util/function/BiFunction"), (.object "java/util/function/BiFunction"), (.object "java/util/function/BiFunction")]
  resolved := Array.replicate 194 none
  statics := some 2 }

def pool19 : Array CpInfo := pool [(6, .class_ 8), (1, u "java/lang/Object"), (0, u "<init>"), (0, u "()V"), (1, .class_ 14), (1, u "java/lang/StringUTF16"), (31, u "$assertionsDisabled"), (0, u "Z"), (13, u "HI_BYTE_SHIFT"), (0, u "I"), (2, u "LO_BYTE_SHIFT"), (49, .methodref 12 116), (0, .nameAndType 117 118), (0, u "compress"), (0, u "([CI[BII)I"), (3, u "([CII)[B"), (138, u "coderFromArrayLen"), (0, u "([BI)B"), (106, .class_ 371), (1, u "java/lang/StringUTF16$LinesSpliterator"), (58, u "MAX_LENGTH"), (196, .class_ 628), (0, u "java/lang/StringUTF16$CodePointsSpliterator"), (0, .class_ 630), (0, u "java/lang/StringUTF16$CharsSpliterator")] 4

def k19m0 : Method := { name := "<init>", desc := "()V", sig := { parameters := [], returnType := none }, accessFlags := 0, code := none }
def k19c1 : Code := { maxStack := 2, maxLocals := 2, code := jdk_52_method_15_code, exceptionTable := #[], attributes := #[] }
def k19m1 : Method := { name := "coderFromArrayLen", desc := "([BI)B", sig := { parameters := [(.array .byte), .int], returnType := some .byte }, accessFlags := 8, code := some k19c1 }
def k19c2 : Code := { maxStack := 5, maxLocals := 6, code := jdk_52_method_16_code, exceptionTable := #[], attributes := #[] }
def k19m2 : Method := { name := "compress", desc := "([CII)[B", sig := { parameters := [(.array .char), .int, .int], returnType := some (.array .byte) }, accessFlags := 9, code := some k19c2 }
def k19c3 : Code := { maxStack := 3, maxLocals := 7, code := jdk_52_method_21_code, exceptionTable := #[], attributes := #[] }
def k19m3 : Method := { name := "compress", desc := "([CI[BII)I", sig := { parameters := [(.array .char), .int, (.array .byte), .int, .int], returnType := some .int }, accessFlags := 9, code := some k19c3 }
/-- java/lang/StringUTF16 -/
def k19 : Class := { plain "java/lang/StringUTF16" (some 0) with
  accessFlags := 48
  interfaces := #[]
  cf := some (fileOf pool19 12 #[.nestMembers #[627, 629, 369]] #[{ accessFlags := 0, nameIndex := 9, descriptorIndex := 10, attributes := #[] }, { accessFlags := 8, nameIndex := 261, descriptorIndex := 262, attributes := #[] }, { accessFlags := 9, nameIndex := 117, descriptorIndex := 122, attributes := #[] }, { accessFlags := 9, nameIndex := 117, descriptorIndex := 118, attributes := #[] }] 48 6 #[] #[{ accessFlags := 26, nameIndex := 61, descriptorIndex := 62, attributes := #[] }, { accessFlags := 26, nameIndex := 65, descriptorIndex := 62, attributes := #[] }, { accessFlags := 24, nameIndex := 430, descriptorIndex := 62, attributes := #[] }, { accessFlags := 4120, nameIndex := 46, descriptorIndex := 47, attributes := #[] }])
  fields := #[{ name := "HI_BYTE_SHIFT", type := .int, accessFlags := 26, slot := 0, constantValue := 0 }, { name := "LO_BYTE_SHIFT", type := .int, accessFlags := 26, slot := 1, constantValue := 0 }, { name := "MAX_LENGTH", type := .int, accessFlags := 24, slot := 2, constantValue := 0 }, { name := "$assertionsDisabled", type := .boolean, accessFlags := 4120, slot := 3, constantValue := 0 }]
  methods := #[k19m0, k19m1, k19m2, k19m3]
  instanceTypes := #[]
  staticTypes := #[.int, .int, .int, .boolean]
  resolved := Array.replicate 635 none
  statics := none }

def pool20 : Array CpInfo := pool [(9, u "<init>"), (6, .class_ 18), (1, u "java/lang/Object"), (0, u "()V"), (1, .class_ 23), (1, u "jdk/internal/util/ArraysSupport"), (0, u "LOG2_ARRAY_LONG_INDEX_SCALE"), (0, u "I"), (2, u "U"), (0, u "Ljdk/internal/misc/Unsafe;"), (8, u "BIG_ENDIAN"), (0, u "Z"), (8, u "LOG2_BYTE_BIT_SIZE"), (4, u "LOG2_ARRAY_INT_INDEX_SCALE"), (54, u "JLA"), (0, u "Ljdk/internal/access/JavaLangAccess;"), (11, u "LOG2_ARRAY_BOOLEAN_INDEX_SCALE"), (9, u "LOG2_ARRAY_BYTE_INDEX_SCALE"), (5, u "LOG2_ARRAY_CHAR_INDEX_SCALE"), (5, u "LOG2_ARRAY_SHORT_INDEX_SCALE"), (18, u "LOG2_ARRAY_FLOAT_INDEX_SCALE"), (24, u "LOG2_ARRAY_DOUBLE_INDEX_SCALE"), (89, u "T_BOOLEAN"), (2, u "T_CHAR"), (1, u "T_FLOAT"), (1, u "T_DOUBLE"), (1, u "T_BYTE"), (1, u "T_SHORT"), (1, u "T_INT"), (1, u "T_LONG"), (1, u "SOFT_MAX_ARRAY_LENGTH")] 83

def k20m0 : Method := { name := "<init>", desc := "()V", sig := { parameters := [], returnType := none }, accessFlags := 2, code := none }
/-- jdk/internal/util/ArraysSupport -/
def k20 : Class := { plain "jdk/internal/util/ArraysSupport" (some 0) with
  accessFlags := 33
  interfaces := #[]
  cf := some (fileOf pool20 21 #[] #[{ accessFlags := 2, nameIndex := 9, descriptorIndex := 19, attributes := #[] }] 33 16 #[] #[{ accessFlags := 24, nameIndex := 28, descriptorIndex := 29, attributes := #[] }, { accessFlags := 26, nameIndex := 38, descriptorIndex := 39, attributes := #[] }, { accessFlags := 25, nameIndex := 121, descriptorIndex := 25, attributes := #[] }, { accessFlags := 25, nameIndex := 131, descriptorIndex := 25, attributes := #[] }, { accessFlags := 25, nameIndex := 137, descriptorIndex := 25, attributes := #[] }, { accessFlags := 25, nameIndex := 143, descriptorIndex := 25, attributes := #[] }, { accessFlags := 25, nameIndex := 53, descriptorIndex := 25, attributes := #[] }, { accessFlags := 25, nameIndex := 24, descriptorIndex := 25, attributes := #[] }, { accessFlags := 25, nameIndex := 162, descriptorIndex := 25, attributes := #[] }, { accessFlags := 25, nameIndex := 187, descriptorIndex := 25, attributes := #[] }, { accessFlags := 26, nameIndex := 48, descriptorIndex := 25, attributes := #[] }, { accessFlags := 25, nameIndex := 277, descriptorIndex := 25, attributes := #[] }, { accessFlags := 25, nameIndex := 280, descriptorIndex := 25, attributes := #[] }, { accessFlags := 25, nameIndex := 282, descriptorIndex := 25, attributes := #[] }, { accessFlags := 25, nameIndex := 284, descriptorIndex := 25, attributes := #[] }, { accessFlags := 25, nameIndex := 286, descriptorIndex := 25, attributes := #[] }, { accessFlags := 25, nameIndex := 288, descriptorIndex := 25, attributes := #[] }, { accessFlags := 25, nameIndex := 290, descriptorIndex := 25, attributes := #[] }, { accessFlags := 25, nameIndex := 292, descriptorIndex := 25, attributes := #[] }, { accessFlags := 26, nameIndex := 108, descriptorIndex := 109, attributes := #[] }, { accessFlags := 25, nameIndex := 294, descriptorIndex := 25, attributes := #[] }])
  fields := #[{ name := "U", type := (.object "jdk/internal/misc/Unsafe"), accessFlags := 24, slot := 0, constantValue := 0 }, { name := "BIG_ENDIAN", type := .boolean, accessFlags := 26, slot := 1, constantValue := 0 }, { name := "LOG2_ARRAY_BOOLEAN_INDEX_SCALE", type := .int, accessFlags := 25, slot := 2, constantValue := 0 }, { name := "LOG2_ARRAY_BYTE_INDEX_SCALE", type := .int, accessFlags := 25, slot := 3, constantValue := 0 }, { name := "LOG2_ARRAY_CHAR_INDEX_SCALE", type := .int, accessFlags := 25, slot := 4, constantValue := 0 }, { name := "LOG2_ARRAY_SHORT_INDEX_SCALE", type := .int, accessFlags := 25, slot := 5, constantValue := 0 }, { name := "LOG2_ARRAY_INT_INDEX_SCALE", type := .int, accessFlags := 25, slot := 6, constantValue := 0 }, { name := "LOG2_ARRAY_LONG_INDEX_SCALE", type := .int, accessFlags := 25, slot := 7, constantValue := 0 }, { name := "LOG2_ARRAY_FLOAT_INDEX_SCALE", type := .int, accessFlags := 25, slot := 8, constantValue := 0 }, { name := "LOG2_ARRAY_DOUBLE_INDEX_SCALE", type := .int, accessFlags := 25, slot := 9, constantValue := 0 }, { name := "LOG2_BYTE_BIT_SIZE", type := .int, accessFlags := 26, slot := 10, constantValue := 0 }, { name := "T_BOOLEAN", type := .int, accessFlags := 25, slot := 11, constantValue := 0 }, { name := "T_CHAR", type := .int, accessFlags := 25, slot := 12, constantValue := 0 }, { name := "T_FLOAT", type := .int, accessFlags := 25, slot := 13, constantValue := 0 }, { name := "T_DOUBLE", type := .int, accessFlags := 25, slot := 14, constantValue := 0 }, { name := "T_BYTE", type := .int, accessFlags := 25, slot := 15, constantValue := 0 }, { name := "T_SHORT", type := .int, accessFlags := 25, slot := 16, constantValue := 0 }, { name := "T_INT", type := .int, accessFlags := 25, slot := 17, constantValue := 0 }, { name := "T_LONG", type := .int, accessFlags := 25, slot := 18, constantValue := 0 }, { name := "JLA", type := (.object "jdk/internal/access/JavaLangAccess"), accessFlags := 26, slot := 19, constantValue := 0 }, { name := "SOFT_MAX_ARRAY_LENGTH", type := .int, accessFlags := 25, slot := 20, constantValue := 0 }]
  methods := #[k20m0]
  instanceTypes := #[]
  staticTypes := #[(.object "jdk/internal/misc/Unsafe"), .boolean, .int, .int, .int, .int, .int, .int, .int, .int, .int, .int, .int, .int, .int, .int, .int, .int, .int, (.object "jdk/internal/access/JavaLangAccess"), .int]
  resolved := Array.replicate 378 none
  statics := none }

/-- the primitive byte -/
def k21 : Class := { plain "byte" none with kind := .primitive 'B', accessFlags := 0x411 }
/-- [B -/
def k22 : Class := { plain "[B" (some 0) with kind := .array 21 .byte, interfaces := #[17, 2], accessFlags := 1041 }

/-- the primitive char -/
def k23 : Class := { plain "char" none with kind := .primitive 'C', accessFlags := 0x411 }
/-- [C -/
def k24 : Class := { plain "[C" (some 0) with kind := .array 23 .char, interfaces := #[17, 2], accessFlags := 1041 }

/-- the primitive int -/
def k25 : Class := { plain "int" none with kind := .primitive 'I', accessFlags := 0x411 }
/-- [I -/
def k26 : Class := { plain "[I" (some 0) with kind := .array 25 .int, interfaces := #[17, 2], accessFlags := 1041 }

def heap : Heap := #[{ cls := 7, slots := #[.long 0, .int 1, .null, .int 0, .null, .int 0, .int 0], vm := .statics 7 },
  { cls := 11, slots := #[.int 0, .int 0, .null, .null, .ref 4, .ref 3, .int 0, .int 0, .long 0], vm := .statics 11 },
  { cls := 18, slots := #[.null, .null, .null], vm := .statics 18 },
  { cls := 22, slots := #[.int 48, .int 49, .int 50, .int 51, .int 52, .int 53, .int 54, .int 55, .int 56, .int 57, .int 48, .int 49, .int 50, .int 51, .int 52, .int 53, .int 54, .int 55, .int 56, .int 57, .int 48, .int 49, .int 50, .int 51, .int 52, .int 53, .int 54, .int 55, .int 56, .int 57, .int 48, .int 49, .int 50, .int 51, .int 52, .int 53, .int 54, .int 55, .int 56, .int 57, .int 48, .int 49, .int 50, .int 51, .int 52, .int 53, .int 54, .int 55, .int 56, .int 57, .int 48, .int 49, .int 50, .int 51, .int 52, .int 53, .int 54, .int 55, .int 56, .int 57, .int 48, .int 49, .int 50, .int 51, .int 52, .int 53, .int 54, .int 55, .int 56, .int 57, .int 48, .int 49, .int 50, .int 51, .int 52, .int 53, .int 54, .int 55, .int 56, .int 57, .int 48, .int 49, .int 50, .int 51, .int 52, .int 53, .int 54, .int 55, .int 56, .int 57, .int 48, .int 49, .int 50, .int 51, .int 52, .int 53, .int 54, .int 55, .int 56, .int 57], vm := .none },
  { cls := 22, slots := #[.int 48, .int 48, .int 48, .int 48, .int 48, .int 48, .int 48, .int 48, .int 48, .int 48, .int 49, .int 49, .int 49, .int 49, .int 49, .int 49, .int 49, .int 49, .int 49, .int 49, .int 50, .int 50, .int 50, .int 50, .int 50, .int 50, .int 50, .int 50, .int 50, .int 50, .int 51, .int 51, .int 51, .int 51, .int 51, .int 51, .int 51, .int 51, .int 51, .int 51, .int 52, .int 52, .int 52, .int 52, .int 52, .int 52, .int 52, .int 52, .int 52, .int 52, .int 53, .int 53, .int 53, .int 53, .int 53, .int 53, .int 53, .int 53, .int 53, .int 53, .int 54, .int 54, .int 54, .int 54, .int 54, .int 54, .int 54, .int 54, .int 54, .int 54, .int 55, .int 55, .int 55, .int 55, .int 55, .int 55, .int 55, .int 55, .int 55, .int 55, .int 56, .int 56, .int 56, .int 56, .int 56, .int 56, .int 56, .int 56, .int 56, .int 56, .int 57, .int 57, .int 57, .int 57, .int 57, .int 57, .int 57, .int 57, .int 57, .int 57], vm := .none }]
def classes : Array Class := #[k0, k1, k2, k3, k4, k5, k6, k7, k8, k9, k10, k11, k12, k13, k14, k15, k16, k17, k18, k19, k20, k21, k22, k23, k24, k25, k26]
def interned : List (Array UInt16 × Addr) := []
def slotsUsed : Nat := 219
def theMethod : MethodId := ⟨1, 1⟩
def args0 : Array Value := #[.int 5, .int 5, .int 5, .int 5]
def aboutOver (below : List Frame) : State where
  vm := { classes := classes, interned := interned.toArray }
  heap := heap
  slotsUsed := slotsUsed
  threads := #[{ frames := .invoking theMethod args0 :: below }]
def below0 : List Frame := [.native { method := ⟨0, 0⟩, args := #[] }]
def about1 : State := aboutOver below0
def p0 : Program := .bare "" "" ""
def e0 : Env := launch0.env 0 0 0
theorem w_frames : about1.frames = Frame.invoking theMethod args0 :: below0 := rfl
set_option maxRecDepth 65536 in
theorem w_args : argsFit about1.vm theMethod args0 = true := by decide +kernel
set_option maxRecDepth 65536 in
theorem w_heap : heapFits about1 = true := by decide +kernel
set_option maxRecDepth 65536 in
theorem w_runnable : about1.curStatus? = some .runnable := by decide +kernel
set_option maxRecDepth 65536 in
theorem w_alone : about1.alone = true := by decide +kernel
set_option maxRecDepth 65536 in
theorem w_named : about1.methodNamed? x = some theMethod := by decide +kernel
set_option maxRecDepth 65536 in
theorem w_hears : about1.hears theMethod below0 = true := by decide +kernel
set_option maxRecDepth 65536 in
theorem w_ripe : about1.ripe theMethod args0 below0 = true := by decide +kernel
theorem w_running : about1.status = .running := rfl
set_option maxRecDepth 65536 in
theorem w_room : about1.hasRoom e0.platform room_1 = true :=
  launch0.hasRoom_least _ room_1 (by decide +kernel) (by decide +kernel) (by decide +kernel) (by decide +kernel) (by decide +kernel) (by decide +kernel)
theorem allAtoms_all (ts : List Jvm.Cond) (a : Array Jvm.Value) (st : Jvm.State) : (allAtoms ts).before a st = ts.all (fun c => c.before a st) := by
  induction ts with
  | nil => rfl
  | cons c t ih =>
    show (Jvm.Cond.and c (allAtoms t)).before a st = _
    rw [Jvm.Cond.before_and, ih, List.all_cons]
def words1 : List Jvm.Cond := Jvm.Cond.code x code maxLocals ret :: tables_1
/-- a 'code' word, met by the world's own term for the bytes: nothing is compared byte by byte -/
theorem code_word {y : MethodName} {bytes : ByteArray} {mx : Nat} {rt : Option FieldType} {a : Array Value} {s : State} {m : MethodId} {meth : Method} {c : Code} (h1 : s.methodNamed? y = some m) (h2 : s.vm.method? m = some meth) (h3 : meth.code = some c) (h4 : c.code = bytes)
    (h5 : (c.maxLocals == mx && c.exceptionTable.isEmpty && decide (c.maxStack ≤ mostOperands) && decide (meth.sig.returnType = rt) && !meth.locks && decide (parseMethodDescriptor y.desc = some meth.sig)) = true) : (Jvm.Cond.code y bytes mx rt).before a s = true := by
  simp only [Bool.and_eq_true, beq_iff_eq, Bool.not_eq_true', decide_eq_true_eq] at h5
  obtain ⟨⟨⟨⟨⟨g1, g2⟩, g3⟩, g4⟩, g5⟩, g6⟩ := h5
  simp [Cond.before, Cond.holds, Cond.value, h1, h2, h3, h4, g1, g2, g3, g4, g5, g6]
def isCode : Jvm.Cond → Bool
  | .code _ _ _ _ => true
  | _ => false
theorem all_split {L : List Jvm.Cond} {P : Jvm.Cond → Bool} (h1 : L.all (fun c => isCode c || P c) = true) (h2 : ∀ c ∈ L.filter isCode, P c = true) : L.all P = true := by
  refine List.all_eq_true.mpr fun c hc => ?_
  have h := List.all_eq_true.mp h1 c hc
  rcases Bool.eq_false_or_eq_true (isCode c) with hi | hi
  · exact h2 c (List.mem_filter.mpr ⟨hc, hi⟩)
  · simpa [hi] using h
set_option maxRecDepth 65536 in
theorem w_c0 : (Jvm.Cond.code x code maxLocals ret).before args0 about1 = true := code_word (m := ⟨1, 1⟩) (meth := k1m1) (c := k1c1) (by decide +kernel) rfl rfl rfl (by decide +kernel)
set_option maxRecDepth 65536 in
theorem w_c1 : (Jvm.Cond.code ({ cls := "java/lang/String", name := "valueOf", desc := "(C)Ljava/lang/String;" } : Jvm.MethodName) jdk_42_method_139_code (1 : Nat) (Option.some (Jvm.ClassFile.FieldType.object "java/lang/String"))).before args0 about1 = true := code_word (m := ⟨7, 5⟩) (meth := k7m5) (c := k7c5) (by decide +kernel) rfl rfl rfl (by decide +kernel)
set_option maxRecDepth 65536 in
theorem w_c2 : (Jvm.Cond.code ({ cls := "java/lang/StringLatin1", name := "canEncode", desc := "(C)Z" } : Jvm.MethodName) jdk_43_method_3_code (1 : Nat) (Option.some Jvm.ClassFile.FieldType.boolean)).before args0 about1 = true := code_word (m := ⟨8, 2⟩) (meth := k8m2) (c := k8c2) (by decide +kernel) rfl rfl rfl (by decide +kernel)
set_option maxRecDepth 65536 in
theorem w_c3 : (Jvm.Cond.code ({ cls := "java/lang/StringLatin1", name := "toBytes", desc := "(C)[B" } : Jvm.MethodName) jdk_43_method_46_code (1 : Nat) (Option.some (Jvm.ClassFile.FieldType.array Jvm.ClassFile.FieldType.byte))).before args0 about1 = true := code_word (m := ⟨8, 3⟩) (meth := k8m3) (c := k8c3) (by decide +kernel) rfl rfl rfl (by decide +kernel)
set_option maxRecDepth 65536 in
theorem w_c4 : (Jvm.Cond.code ({ cls := "java/lang/String", name := "<init>", desc := "([BB)V" } : Jvm.MethodName) jdk_42_method_151_code (3 : Nat) (Option.none : Option Jvm.ClassFile.FieldType)).before args0 about1 = true := code_word (m := ⟨7, 9⟩) (meth := k7m9) (c := k7c9) (by decide +kernel) rfl rfl rfl (by decide +kernel)
set_option maxRecDepth 65536 in
theorem w_c5 : (Jvm.Cond.code ({ cls := "java/lang/Object", name := "<init>", desc := "()V" } : Jvm.MethodName) object_method_1_code (1 : Nat) (Option.none : Option Jvm.ClassFile.FieldType)).before args0 about1 = true := code_word (m := ⟨0, 0⟩) (meth := k0m0) (c := k0c0) (by decide +kernel) rfl rfl rfl (by decide +kernel)
set_option maxRecDepth 65536 in
theorem w_c6 : (Jvm.Cond.code ({ cls := "com/example/shardpick/shardpick/NumberedNamesNamePinLaw", name := "width", desc := "(I)I" } : Jvm.MethodName) method_3_code (1 : Nat) (Option.some Jvm.ClassFile.FieldType.int)).before args0 about1 = true := code_word (m := ⟨1, 2⟩) (meth := k1m2) (c := k1c2) (by decide +kernel) rfl rfl rfl (by decide +kernel)
set_option maxRecDepth 65536 in
theorem w_c7 : (Jvm.Cond.code ({ cls := "com/example/shardpick/shardpick/NumberedNames", name := "<init>", desc := "(Ljava/lang/String;I)V" } : Jvm.MethodName) prog_5_method_1_code (3 : Nat) (Option.none : Option Jvm.ClassFile.FieldType)).before args0 about1 = true := code_word (m := ⟨9, 0⟩) (meth := k9m0) (c := k9c0) (by decide +kernel) rfl rfl rfl (by decide +kernel)
set_option maxRecDepth 65536 in
theorem w_c8 : (Jvm.Cond.code ({ cls := "java/lang/Integer", name := "toString", desc := "(I)Ljava/lang/String;" } : Jvm.MethodName) jdk_33_method_10_code (3 : Nat) (Option.some (Jvm.ClassFile.FieldType.object "java/lang/String"))).before args0 about1 = true := code_word (m := ⟨11, 0⟩) (meth := k11m0) (c := k11c0) (by decide +kernel) rfl rfl rfl (by decide +kernel)
set_option maxRecDepth 65536 in
theorem w_c9 : (Jvm.Cond.code ({ cls := "java/lang/Integer", name := "stringSize", desc := "(I)I" } : Jvm.MethodName) jdk_33_method_13_code (4 : Nat) (Option.some Jvm.ClassFile.FieldType.int)).before args0 about1 = true := code_word (m := ⟨11, 2⟩) (meth := k11m2) (c := k11c2) (by decide +kernel) rfl rfl rfl (by decide +kernel)
set_option maxRecDepth 65536 in
theorem w_c10 : (Jvm.Cond.code ({ cls := "java/lang/Integer", name := "getChars", desc := "(II[B)I" } : Jvm.MethodName) jdk_33_method_12_code (7 : Nat) (Option.some Jvm.ClassFile.FieldType.int)).before args0 about1 = true := code_word (m := ⟨11, 1⟩) (meth := k11m1) (c := k11c1) (by decide +kernel) rfl rfl rfl (by decide +kernel)
set_option maxRecDepth 65536 in
theorem w_c11 : (Jvm.Cond.code ({ cls := "java/lang/String", name := "length", desc := "()I" } : Jvm.MethodName) jdk_42_method_54_code (1 : Nat) (Option.some Jvm.ClassFile.FieldType.int)).before args0 about1 = true := code_word (m := ⟨7, 3⟩) (meth := k7m3) (c := k7c3) (by decide +kernel) rfl rfl rfl (by decide +kernel)
set_option maxRecDepth 65536 in
theorem w_c12 : (Jvm.Cond.code ({ cls := "java/lang/String", name := "coder", desc := "()B" } : Jvm.MethodName) jdk_42_method_152_code (1 : Nat) (Option.some Jvm.ClassFile.FieldType.byte)).before args0 about1 = true := code_word (m := ⟨7, 10⟩) (meth := k7m10) (c := k7c10) (by decide +kernel) rfl rfl rfl (by decide +kernel)
set_option maxRecDepth 65536 in
theorem w_c13 : (Jvm.Cond.code ({ cls := "com/example/shardpick/shardpick/NumberedNames", name := "name", desc := "(I)Ljava/lang/String;" } : Jvm.MethodName) prog_5_method_2_code (5 : Nat) (Option.some (Jvm.ClassFile.FieldType.object "java/lang/String"))).before args0 about1 = true := code_word (m := ⟨9, 1⟩) (meth := k9m1) (c := k9c1) (by decide +kernel) rfl rfl rfl (by decide +kernel)
set_option maxRecDepth 65536 in
theorem w_c14 : (Jvm.Cond.code ({ cls := "java/lang/StringBuilder", name := "<init>", desc := "(I)V" } : Jvm.MethodName) jdk_67_method_2_code (2 : Nat) (Option.none : Option Jvm.ClassFile.FieldType)).before args0 about1 = true := code_word (m := ⟨14, 1⟩) (meth := k14m1) (c := k14c1) (by decide +kernel) rfl rfl rfl (by decide +kernel)
set_option maxRecDepth 65536 in
theorem w_c15 : (Jvm.Cond.code ({ cls := "java/lang/AbstractStringBuilder", name := "<init>", desc := "(I)V" } : Jvm.MethodName) jdk_68_method_2_code (2 : Nat) (Option.none : Option Jvm.ClassFile.FieldType)).before args0 about1 = true := code_word (m := ⟨13, 1⟩) (meth := k13m1) (c := k13c1) (by decide +kernel) rfl rfl rfl (by decide +kernel)
set_option maxRecDepth 65536 in
theorem w_c16 : (Jvm.Cond.code ({ cls := "java/lang/StringBuilder", name := "append", desc := "(Ljava/lang/String;)Ljava/lang/StringBuilder;" } : Jvm.MethodName) jdk_67_method_7_code (2 : Nat) (Option.some (Jvm.ClassFile.FieldType.object "java/lang/StringBuilder"))).before args0 about1 = true := code_word (m := ⟨14, 2⟩) (meth := k14m2) (c := k14c2) (by decide +kernel) rfl rfl rfl (by decide +kernel)
set_option maxRecDepth 65536 in
theorem w_c17 : (Jvm.Cond.code ({ cls := "java/lang/AbstractStringBuilder", name := "append", desc := "(Ljava/lang/String;)Ljava/lang/AbstractStringBuilder;" } : Jvm.MethodName) jdk_68_method_22_code (3 : Nat) (Option.some (Jvm.ClassFile.FieldType.object "java/lang/AbstractStringBuilder"))).before args0 about1 = true := code_word (m := ⟨13, 4⟩) (meth := k13m4) (c := k13c4) (by decide +kernel) rfl rfl rfl (by decide +kernel)
set_option maxRecDepth 65536 in
theorem w_c18 : (Jvm.Cond.code ({ cls := "java/lang/AbstractStringBuilder", name := "ensureCapacityInternal", desc := "(I)V" } : Jvm.MethodName) jdk_68_method_9_code (3 : Nat) (Option.none : Option Jvm.ClassFile.FieldType)).before args0 about1 = true := code_word (m := ⟨13, 3⟩) (meth := k13m3) (c := k13c3) (by decide +kernel) rfl rfl rfl (by decide +kernel)
set_option maxRecDepth 65536 in
theorem w_c19 : (Jvm.Cond.code ({ cls := "java/lang/AbstractStringBuilder", name := "putStringAt", desc := "(ILjava/lang/String;)V" } : Jvm.MethodName) jdk_68_method_73_code (3 : Nat) (Option.none : Option Jvm.ClassFile.FieldType)).before args0 about1 = true := code_word (m := ⟨13, 9⟩) (meth := k13m9) (c := k13c9) (by decide +kernel) rfl rfl rfl (by decide +kernel)
set_option maxRecDepth 65536 in
theorem w_c20 : (Jvm.Cond.code ({ cls := "java/lang/AbstractStringBuilder", name := "inflateIfNeededFor", desc := "(Ljava/lang/String;)V" } : Jvm.MethodName) jdk_68_method_71_code (2 : Nat) (Option.none : Option Jvm.ClassFile.FieldType)).before args0 about1 = true := code_word (m := ⟨13, 8⟩) (meth := k13m8) (c := k13c8) (by decide +kernel) rfl rfl rfl (by decide +kernel)
set_option maxRecDepth 65536 in
theorem w_c21 : (Jvm.Cond.code ({ cls := "java/lang/String", name := "getBytes", desc := "([BIB)V" } : Jvm.MethodName) jdk_42_method_147_code (4 : Nat) (Option.none : Option Jvm.ClassFile.FieldType)).before args0 about1 = true := code_word (m := ⟨7, 6⟩) (meth := k7m6) (c := k7c6) (by decide +kernel) rfl rfl rfl (by decide +kernel)
set_option maxRecDepth 65536 in
theorem w_c22 : (Jvm.Cond.code ({ cls := "java/lang/StringBuilder", name := "toString", desc := "()Ljava/lang/String;" } : Jvm.MethodName) jdk_67_method_42_code (1 : Nat) (Option.some (Jvm.ClassFile.FieldType.object "java/lang/String"))).before args0 about1 = true := code_word (m := ⟨14, 4⟩) (meth := k14m4) (c := k14c4) (by decide +kernel) rfl rfl rfl (by decide +kernel)
set_option maxRecDepth 65536 in
theorem w_c23 : (Jvm.Cond.code ({ cls := "java/lang/String", name := "<init>", desc := "(Ljava/lang/StringBuilder;)V" } : Jvm.MethodName) jdk_42_method_53_code (2 : Nat) (Option.none : Option Jvm.ClassFile.FieldType)).before args0 about1 = true := code_word (m := ⟨7, 2⟩) (meth := k7m2) (c := k7c2) (by decide +kernel) rfl rfl rfl (by decide +kernel)
set_option maxRecDepth 65536 in
theorem w_c24 : (Jvm.Cond.code ({ cls := "java/lang/String", name := "<init>", desc := "(Ljava/lang/AbstractStringBuilder;Ljava/lang/Void;)V" } : Jvm.MethodName) jdk_42_method_150_code (5 : Nat) (Option.none : Option Jvm.ClassFile.FieldType)).before args0 about1 = true := code_word (m := ⟨7, 8⟩) (meth := k7m8) (c := k7c8) (by decide +kernel) rfl rfl rfl (by decide +kernel)
set_option maxRecDepth 65536 in
theorem w_c25 : (Jvm.Cond.code ({ cls := "java/lang/AbstractStringBuilder", name := "getValue", desc := "()[B" } : Jvm.MethodName) jdk_68_method_64_code (1 : Nat) (Option.some (Jvm.ClassFile.FieldType.array Jvm.ClassFile.FieldType.byte))).before args0 about1 = true := code_word (m := ⟨13, 6⟩) (meth := k13m6) (c := k13c6) (by decide +kernel) rfl rfl rfl (by decide +kernel)
set_option maxRecDepth 65536 in
theorem w_c26 : (Jvm.Cond.code ({ cls := "java/lang/StringBuilder", name := "length", desc := "()I" } : Jvm.MethodName) jdk_67_method_93_code (1 : Nat) (Option.some Jvm.ClassFile.FieldType.int)).before args0 about1 = true := code_word (m := ⟨14, 5⟩) (meth := k14m5) (c := k14c5) (by decide +kernel) rfl rfl rfl (by decide +kernel)
set_option maxRecDepth 65536 in
theorem w_c27 : (Jvm.Cond.code ({ cls := "java/lang/AbstractStringBuilder", name := "length", desc := "()I" } : Jvm.MethodName) jdk_68_method_6_code (1 : Nat) (Option.some Jvm.ClassFile.FieldType.int)).before args0 about1 = true := code_word (m := ⟨13, 2⟩) (meth := k13m2) (c := k13c2) (by decide +kernel) rfl rfl rfl (by decide +kernel)
set_option maxRecDepth 65536 in
theorem w_c28 : (Jvm.Cond.code ({ cls := "java/lang/AbstractStringBuilder", name := "isLatin1", desc := "()Z" } : Jvm.MethodName) jdk_68_method_68_code (1 : Nat) (Option.some Jvm.ClassFile.FieldType.boolean)).before args0 about1 = true := code_word (m := ⟨13, 7⟩) (meth := k13m7) (c := k13c7) (by decide +kernel) rfl rfl rfl (by decide +kernel)
set_option maxRecDepth 65536 in
theorem w_c29 : (Jvm.Cond.code ({ cls := "java/util/Arrays", name := "copyOfRange", desc := "([BII)[B" } : Jvm.MethodName) jdk_65_method_132_code (3 : Nat) (Option.some (Jvm.ClassFile.FieldType.array Jvm.ClassFile.FieldType.byte))).before args0 about1 = true := code_word (m := ⟨16, 1⟩) (meth := k16m1) (c := k16c1) (by decide +kernel) rfl rfl rfl (by decide +kernel)
set_option maxRecDepth 65536 in
theorem w_c30 : (Jvm.Cond.code ({ cls := "com/example/shardpick/shardpick/NumberedNamesNamePinLaw", name := "at", desc := "(Ljava/lang/String;ILjava/lang/String;III)Z" } : Jvm.MethodName) method_5_code (10 : Nat) (Option.some Jvm.ClassFile.FieldType.boolean)).before args0 about1 = true := code_word (m := ⟨1, 4⟩) (meth := k1m4) (c := k1c4) (by decide +kernel) rfl rfl rfl (by decide +kernel)
set_option maxRecDepth 65536 in
theorem w_c31 : (Jvm.Cond.code ({ cls := "java/lang/String", name := "charAt", desc := "(I)C" } : Jvm.MethodName) jdk_42_method_56_code (2 : Nat) (Option.some Jvm.ClassFile.FieldType.char)).before args0 about1 = true := code_word (m := ⟨7, 4⟩) (meth := k7m4) (c := k7c4) (by decide +kernel) rfl rfl rfl (by decide +kernel)
set_option maxRecDepth 65536 in
theorem w_c32 : (Jvm.Cond.code ({ cls := "java/lang/String", name := "isLatin1", desc := "()Z" } : Jvm.MethodName) jdk_42_method_154_code (1 : Nat) (Option.some Jvm.ClassFile.FieldType.boolean)).before args0 about1 = true := code_word (m := ⟨7, 11⟩) (meth := k7m11) (c := k7c11) (by decide +kernel) rfl rfl rfl (by decide +kernel)
set_option maxRecDepth 65536 in
theorem w_c33 : (Jvm.Cond.code ({ cls := "java/lang/StringLatin1", name := "charAt", desc := "([BI)C" } : Jvm.MethodName) jdk_43_method_2_code (2 : Nat) (Option.some Jvm.ClassFile.FieldType.char)).before args0 about1 = true := code_word (m := ⟨8, 1⟩) (meth := k8m1) (c := k8c1) (by decide +kernel) rfl rfl rfl (by decide +kernel)
set_option maxRecDepth 65536 in
theorem w_c34 : (Jvm.Cond.code ({ cls := "java/lang/String", name := "checkIndex", desc := "(II)V" } : Jvm.MethodName) jdk_42_method_155_code (2 : Nat) (Option.none : Option Jvm.ClassFile.FieldType)).before args0 about1 = true := code_word (m := ⟨7, 12⟩) (meth := k7m12) (c := k7c12) (by decide +kernel) rfl rfl rfl (by decide +kernel)
set_option maxRecDepth 65536 in
theorem w_c35 : (Jvm.Cond.code ({ cls := "jdk/internal/util/Preconditions", name := "checkIndex", desc := "(IILjava/util/function/BiFunction;)I" } : Jvm.MethodName) jdk_41_method_11_code (3 : Nat) (Option.some Jvm.ClassFile.FieldType.int)).before args0 about1 = true := code_word (m := ⟨18, 1⟩) (meth := k18m1) (c := k18c1) (by decide +kernel) rfl rfl rfl (by decide +kernel)
set_option maxRecDepth 65536 in
theorem w_c36 : (Jvm.Cond.code ({ cls := "com/example/shardpick/shardpick/NumberedNamesNamePinLaw", name := "pow10", desc := "(I)J" } : Jvm.MethodName) method_4_code (1 : Nat) (Option.some Jvm.ClassFile.FieldType.long)).before args0 about1 = true := code_word (m := ⟨1, 3⟩) (meth := k1m3) (c := k1c3) (by decide +kernel) rfl rfl rfl (by decide +kernel)
set_option maxRecDepth 65536 in
theorem w_c37 : (Jvm.Cond.code ({ cls := "java/lang/String", name := "<init>", desc := "([C)V" } : Jvm.MethodName) jdk_42_method_3_code (2 : Nat) (Option.none : Option Jvm.ClassFile.FieldType)).before args0 about1 = true := code_word (m := ⟨7, 1⟩) (meth := k7m1) (c := k7c1) (by decide +kernel) rfl rfl rfl (by decide +kernel)
set_option maxRecDepth 65536 in
theorem w_c38 : (Jvm.Cond.code ({ cls := "java/lang/String", name := "<init>", desc := "([CIILjava/lang/Void;)V" } : Jvm.MethodName) jdk_42_method_149_code (6 : Nat) (Option.none : Option Jvm.ClassFile.FieldType)).before args0 about1 = true := code_word (m := ⟨7, 7⟩) (meth := k7m7) (c := k7c7) (by decide +kernel) rfl rfl rfl (by decide +kernel)
set_option maxRecDepth 65536 in
theorem w_c39 : (Jvm.Cond.code ({ cls := "java/lang/StringUTF16", name := "compress", desc := "([CII)[B" } : Jvm.MethodName) jdk_52_method_16_code (6 : Nat) (Option.some (Jvm.ClassFile.FieldType.array Jvm.ClassFile.FieldType.byte))).before args0 about1 = true := code_word (m := ⟨19, 2⟩) (meth := k19m2) (c := k19c2) (by decide +kernel) rfl rfl rfl (by decide +kernel)
set_option maxRecDepth 65536 in
theorem w_c40 : (Jvm.Cond.code ({ cls := "java/lang/StringUTF16", name := "compress", desc := "([CI[BII)I" } : Jvm.MethodName) jdk_52_method_21_code (7 : Nat) (Option.some Jvm.ClassFile.FieldType.int)).before args0 about1 = true := code_word (m := ⟨19, 3⟩) (meth := k19m3) (c := k19c3) (by decide +kernel) rfl rfl rfl (by decide +kernel)
set_option maxRecDepth 65536 in
theorem w_c41 : (Jvm.Cond.code ({ cls := "java/lang/StringUTF16", name := "coderFromArrayLen", desc := "([BI)B" } : Jvm.MethodName) jdk_52_method_15_code (2 : Nat) (Option.some Jvm.ClassFile.FieldType.byte)).before args0 about1 = true := code_word (m := ⟨19, 1⟩) (meth := k19m1) (c := k19c1) (by decide +kernel) rfl rfl rfl (by decide +kernel)
set_option maxRecDepth 65536 in
theorem w_c42 : (Jvm.Cond.code ({ cls := "java/lang/StringBuilder", name := "append", desc := "(C)Ljava/lang/StringBuilder;" } : Jvm.MethodName) jdk_67_method_14_code (2 : Nat) (Option.some (Jvm.ClassFile.FieldType.object "java/lang/StringBuilder"))).before args0 about1 = true := code_word (m := ⟨14, 3⟩) (meth := k14m3) (c := k14c3) (by decide +kernel) rfl rfl rfl (by decide +kernel)
set_option maxRecDepth 65536 in
theorem w_c43 : (Jvm.Cond.code ({ cls := "java/lang/AbstractStringBuilder", name := "append", desc := "(C)Ljava/lang/AbstractStringBuilder;" } : Jvm.MethodName) jdk_68_method_31_code (2 : Nat) (Option.some (Jvm.ClassFile.FieldType.object "java/lang/AbstractStringBuilder"))).before args0 about1 = true := code_word (m := ⟨13, 5⟩) (meth := k13m5) (c := k13c5) (by decide +kernel) rfl rfl rfl (by decide +kernel)
def codes1 : List Jvm.Cond := [Jvm.Cond.code x code maxLocals ret, Jvm.Cond.code ({ cls := "java/lang/String", name := "valueOf", desc := "(C)Ljava/lang/String;" } : Jvm.MethodName) jdk_42_method_139_code (1 : Nat) (Option.some (Jvm.ClassFile.FieldType.object "java/lang/String")), Jvm.Cond.code ({ cls := "java/lang/StringLatin1", name := "canEncode", desc := "(C)Z" } : Jvm.MethodName) jdk_43_method_3_code (1 : Nat) (Option.some Jvm.ClassFile.FieldType.boolean), Jvm.Cond.code ({ cls := "java/lang/StringLatin1", name := "toBytes", desc := "(C)[B" } : Jvm.MethodName) jdk_43_method_46_code (1 : Nat) (Option.some (Jvm.ClassFile.FieldType.array Jvm.ClassFile.FieldType.byte)), Jvm.Cond.code ({ cls := "java/lang/String", name := "<init>", desc := "([BB)V" } : Jvm.MethodName) jdk_42_method_151_code (3 : Nat) (Option.none : Option Jvm.ClassFile.FieldType), Jvm.Cond.code ({ cls := "java/lang/Object", name := "<init>", desc := "()V" } : Jvm.MethodName) object_method_1_code (1 : Nat) (Option.none : Option Jvm.ClassFile.FieldType), Jvm.Cond.code ({ cls := "com/example/shardpick/shardpick/NumberedNamesNamePinLaw", name := "width", desc := "(I)I" } : Jvm.MethodName) method_3_code (1 : Nat) (Option.some Jvm.ClassFile.FieldType.int), Jvm.Cond.code ({ cls := "com/example/shardpick/shardpick/NumberedNames", name := "<init>", desc := "(Ljava/lang/String;I)V" } : Jvm.MethodName) prog_5_method_1_code (3 : Nat) (Option.none : Option Jvm.ClassFile.FieldType), Jvm.Cond.code ({ cls := "java/lang/Integer", name := "toString", desc := "(I)Ljava/lang/String;" } : Jvm.MethodName) jdk_33_method_10_code (3 : Nat) (Option.some (Jvm.ClassFile.FieldType.object "java/lang/String")), Jvm.Cond.code ({ cls := "java/lang/Integer", name := "stringSize", desc := "(I)I" } : Jvm.MethodName) jdk_33_method_13_code (4 : Nat) (Option.some Jvm.ClassFile.FieldType.int), Jvm.Cond.code ({ cls := "java/lang/Integer", name := "getChars", desc := "(II[B)I" } : Jvm.MethodName) jdk_33_method_12_code (7 : Nat) (Option.some Jvm.ClassFile.FieldType.int), Jvm.Cond.code ({ cls := "java/lang/String", name := "length", desc := "()I" } : Jvm.MethodName) jdk_42_method_54_code (1 : Nat) (Option.some Jvm.ClassFile.FieldType.int), Jvm.Cond.code ({ cls := "java/lang/String", name := "coder", desc := "()B" } : Jvm.MethodName) jdk_42_method_152_code (1 : Nat) (Option.some Jvm.ClassFile.FieldType.byte), Jvm.Cond.code ({ cls := "com/example/shardpick/shardpick/NumberedNames", name := "name", desc := "(I)Ljava/lang/String;" } : Jvm.MethodName) prog_5_method_2_code (5 : Nat) (Option.some (Jvm.ClassFile.FieldType.object "java/lang/String")), Jvm.Cond.code ({ cls := "java/lang/StringBuilder", name := "<init>", desc := "(I)V" } : Jvm.MethodName) jdk_67_method_2_code (2 : Nat) (Option.none : Option Jvm.ClassFile.FieldType), Jvm.Cond.code ({ cls := "java/lang/AbstractStringBuilder", name := "<init>", desc := "(I)V" } : Jvm.MethodName) jdk_68_method_2_code (2 : Nat) (Option.none : Option Jvm.ClassFile.FieldType), Jvm.Cond.code ({ cls := "java/lang/StringBuilder", name := "append", desc := "(Ljava/lang/String;)Ljava/lang/StringBuilder;" } : Jvm.MethodName) jdk_67_method_7_code (2 : Nat) (Option.some (Jvm.ClassFile.FieldType.object "java/lang/StringBuilder")), Jvm.Cond.code ({ cls := "java/lang/AbstractStringBuilder", name := "append", desc := "(Ljava/lang/String;)Ljava/lang/AbstractStringBuilder;" } : Jvm.MethodName) jdk_68_method_22_code (3 : Nat) (Option.some (Jvm.ClassFile.FieldType.object "java/lang/AbstractStringBuilder")), Jvm.Cond.code ({ cls := "java/lang/AbstractStringBuilder", name := "ensureCapacityInternal", desc := "(I)V" } : Jvm.MethodName) jdk_68_method_9_code (3 : Nat) (Option.none : Option Jvm.ClassFile.FieldType), Jvm.Cond.code ({ cls := "java/lang/AbstractStringBuilder", name := "putStringAt", desc := "(ILjava/lang/String;)V" } : Jvm.MethodName) jdk_68_method_73_code (3 : Nat) (Option.none : Option Jvm.ClassFile.FieldType), Jvm.Cond.code ({ cls := "java/lang/AbstractStringBuilder", name := "inflateIfNeededFor", desc := "(Ljava/lang/String;)V" } : Jvm.MethodName) jdk_68_method_71_code (2 : Nat) (Option.none : Option Jvm.ClassFile.FieldType), Jvm.Cond.code ({ cls := "java/lang/String", name := "getBytes", desc := "([BIB)V" } : Jvm.MethodName) jdk_42_method_147_code (4 : Nat) (Option.none : Option Jvm.ClassFile.FieldType), Jvm.Cond.code ({ cls := "java/lang/StringBuilder", name := "toString", desc := "()Ljava/lang/String;" } : Jvm.MethodName) jdk_67_method_42_code (1 : Nat) (Option.some (Jvm.ClassFile.FieldType.object "java/lang/String")), Jvm.Cond.code ({ cls := "java/lang/String", name := "<init>", desc := "(Ljava/lang/StringBuilder;)V" } : Jvm.MethodName) jdk_42_method_53_code (2 : Nat) (Option.none : Option Jvm.ClassFile.FieldType), Jvm.Cond.code ({ cls := "java/lang/String", name := "<init>", desc := "(Ljava/lang/AbstractStringBuilder;Ljava/lang/Void;)V" } : Jvm.MethodName) jdk_42_method_150_code (5 : Nat) (Option.none : Option Jvm.ClassFile.FieldType), Jvm.Cond.code ({ cls := "java/lang/AbstractStringBuilder", name := "getValue", desc := "()[B" } : Jvm.MethodName) jdk_68_method_64_code (1 : Nat) (Option.some (Jvm.ClassFile.FieldType.array Jvm.ClassFile.FieldType.byte)), Jvm.Cond.code ({ cls := "java/lang/StringBuilder", name := "length", desc := "()I" } : Jvm.MethodName) jdk_67_method_93_code (1 : Nat) (Option.some Jvm.ClassFile.FieldType.int), Jvm.Cond.code ({ cls := "java/lang/AbstractStringBuilder", name := "length", desc := "()I" } : Jvm.MethodName) jdk_68_method_6_code (1 : Nat) (Option.some Jvm.ClassFile.FieldType.int), Jvm.Cond.code ({ cls := "java/lang/AbstractStringBuilder", name := "isLatin1", desc := "()Z" } : Jvm.MethodName) jdk_68_method_68_code (1 : Nat) (Option.some Jvm.ClassFile.FieldType.boolean), Jvm.Cond.code ({ cls := "java/util/Arrays", name := "copyOfRange", desc := "([BII)[B" } : Jvm.MethodName) jdk_65_method_132_code (3 : Nat) (Option.some (Jvm.ClassFile.FieldType.array Jvm.ClassFile.FieldType.byte)), Jvm.Cond.code ({ cls := "com/example/shardpick/shardpick/NumberedNamesNamePinLaw", name := "at", desc := "(Ljava/lang/String;ILjava/lang/String;III)Z" } : Jvm.MethodName) method_5_code (10 : Nat) (Option.some Jvm.ClassFile.FieldType.boolean), Jvm.Cond.code ({ cls := "java/lang/String", name := "charAt", desc := "(I)C" } : Jvm.MethodName) jdk_42_method_56_code (2 : Nat) (Option.some Jvm.ClassFile.FieldType.char), Jvm.Cond.code ({ cls := "java/lang/String", name := "isLatin1", desc := "()Z" } : Jvm.MethodName) jdk_42_method_154_code (1 : Nat) (Option.some Jvm.ClassFile.FieldType.boolean), Jvm.Cond.code ({ cls := "java/lang/StringLatin1", name := "charAt", desc := "([BI)C" } : Jvm.MethodName) jdk_43_method_2_code (2 : Nat) (Option.some Jvm.ClassFile.FieldType.char), Jvm.Cond.code ({ cls := "java/lang/String", name := "checkIndex", desc := "(II)V" } : Jvm.MethodName) jdk_42_method_155_code (2 : Nat) (Option.none : Option Jvm.ClassFile.FieldType), Jvm.Cond.code ({ cls := "jdk/internal/util/Preconditions", name := "checkIndex", desc := "(IILjava/util/function/BiFunction;)I" } : Jvm.MethodName) jdk_41_method_11_code (3 : Nat) (Option.some Jvm.ClassFile.FieldType.int), Jvm.Cond.code ({ cls := "com/example/shardpick/shardpick/NumberedNamesNamePinLaw", name := "pow10", desc := "(I)J" } : Jvm.MethodName) method_4_code (1 : Nat) (Option.some Jvm.ClassFile.FieldType.long), Jvm.Cond.code ({ cls := "java/lang/String", name := "<init>", desc := "([C)V" } : Jvm.MethodName) jdk_42_method_3_code (2 : Nat) (Option.none : Option Jvm.ClassFile.FieldType), Jvm.Cond.code ({ cls := "java/lang/String", name := "<init>", desc := "([CIILjava/lang/Void;)V" } : Jvm.MethodName) jdk_42_method_149_code (6 : Nat) (Option.none : Option Jvm.ClassFile.FieldType), Jvm.Cond.code ({ cls := "java/lang/StringUTF16", name := "compress", desc := "([CII)[B" } : Jvm.MethodName) jdk_52_method_16_code (6 : Nat) (Option.some (Jvm.ClassFile.FieldType.array Jvm.ClassFile.FieldType.byte)), Jvm.Cond.code ({ cls := "java/lang/StringUTF16", name := "compress", desc := "([CI[BII)I" } : Jvm.MethodName) jdk_52_method_21_code (7 : Nat) (Option.some Jvm.ClassFile.FieldType.int), Jvm.Cond.code ({ cls := "java/lang/StringUTF16", name := "coderFromArrayLen", desc := "([BI)B" } : Jvm.MethodName) jdk_52_method_15_code (2 : Nat) (Option.some Jvm.ClassFile.FieldType.byte), Jvm.Cond.code ({ cls := "java/lang/StringBuilder", name := "append", desc := "(C)Ljava/lang/StringBuilder;" } : Jvm.MethodName) jdk_67_method_14_code (2 : Nat) (Option.some (Jvm.ClassFile.FieldType.object "java/lang/StringBuilder")), Jvm.Cond.code ({ cls := "java/lang/AbstractStringBuilder", name := "append", desc := "(C)Ljava/lang/AbstractStringBuilder;" } : Jvm.MethodName) jdk_68_method_31_code (2 : Nat) (Option.some (Jvm.ClassFile.FieldType.object "java/lang/AbstractStringBuilder"))]
set_option maxRecDepth 65536 in
theorem codes_eq : words1.filter isCode = codes1 := rfl
theorem w_codes : ∀ c ∈ words1.filter isCode, c.before args0 about1 = true := by
  rw [codes_eq]
  intro c hc
  simp only [codes1, List.mem_cons, List.not_mem_nil, or_false] at hc
  rcases hc with rfl | rfl | rfl | rfl | rfl | rfl | rfl | rfl | rfl | rfl | rfl | rfl | rfl | rfl | rfl | rfl | rfl | rfl | rfl | rfl | rfl | rfl | rfl | rfl | rfl | rfl | rfl | rfl | rfl | rfl | rfl | rfl | rfl | rfl | rfl | rfl | rfl | rfl | rfl | rfl | rfl | rfl | rfl | rfl
  · exact w_c0
  · exact w_c1
  · exact w_c2
  · exact w_c3
  · exact w_c4
  · exact w_c5
  · exact w_c6
  · exact w_c7
  · exact w_c8
  · exact w_c9
  · exact w_c10
  · exact w_c11
  · exact w_c12
  · exact w_c13
  · exact w_c14
  · exact w_c15
  · exact w_c16
  · exact w_c17
  · exact w_c18
  · exact w_c19
  · exact w_c20
  · exact w_c21
  · exact w_c22
  · exact w_c23
  · exact w_c24
  · exact w_c25
  · exact w_c26
  · exact w_c27
  · exact w_c28
  · exact w_c29
  · exact w_c30
  · exact w_c31
  · exact w_c32
  · exact w_c33
  · exact w_c34
  · exact w_c35
  · exact w_c36
  · exact w_c37
  · exact w_c38
  · exact w_c39
  · exact w_c40
  · exact w_c41
  · exact w_c42
  · exact w_c43
set_option maxRecDepth 65536 in
theorem w_t1 : (words1.take 24).all (fun c => isCode c || c.before args0 about1) = true := by decide +kernel
set_option maxRecDepth 65536 in
theorem w_t2 : ((words1.drop 24).take 24).all (fun c => isCode c || c.before args0 about1) = true := by decide +kernel
set_option maxRecDepth 65536 in
theorem w_t3 : (((words1.drop 24).drop 24).take 24).all (fun c => isCode c || c.before args0 about1) = true := by decide +kernel
set_option maxRecDepth 65536 in
theorem w_t4 : ((((words1.drop 24).drop 24).drop 24).take 24).all (fun c => isCode c || c.before args0 about1) = true := by decide +kernel
set_option maxRecDepth 65536 in
theorem w_t5 : (((((words1.drop 24).drop 24).drop 24).drop 24).take 24).all (fun c => isCode c || c.before args0 about1) = true := by decide +kernel
set_option maxRecDepth 65536 in
theorem w_t6 : ((((((words1.drop 24).drop 24).drop 24).drop 24).drop 24).take 24).all (fun c => isCode c || c.before args0 about1) = true := by decide +kernel
set_option maxRecDepth 65536 in
theorem w_t7 : (((((((words1.drop 24).drop 24).drop 24).drop 24).drop 24).drop 24).take 24).all (fun c => isCode c || c.before args0 about1) = true := by decide +kernel
set_option maxRecDepth 65536 in
theorem w_t8 : ((((((((words1.drop 24).drop 24).drop 24).drop 24).drop 24).drop 24).drop 24).take 24).all (fun c => isCode c || c.before args0 about1) = true := by decide +kernel
set_option maxRecDepth 65536 in
theorem w_t9 : (((((((((words1.drop 24).drop 24).drop 24).drop 24).drop 24).drop 24).drop 24).drop 24).take 24).all (fun c => isCode c || c.before args0 about1) = true := by decide +kernel
set_option maxRecDepth 65536 in
theorem w_t10 : ((((((((((words1.drop 24).drop 24).drop 24).drop 24).drop 24).drop 24).drop 24).drop 24).drop 24).take 24).all (fun c => isCode c || c.before args0 about1) = true := by decide +kernel
set_option maxRecDepth 65536 in
theorem w_t11 : ((((((((((words1.drop 24).drop 24).drop 24).drop 24).drop 24).drop 24).drop 24).drop 24).drop 24).drop 24).all (fun c => isCode c || c.before args0 about1) = true := by decide +kernel
theorem w_tables : (allAtoms (Jvm.Cond.code x code maxLocals ret :: tables_1)).before args0 about1 = true := by
  rw [allAtoms_all]
  show words1.all (fun c => c.before args0 about1) = true
  refine all_split ?_ w_codes
  rw [← List.take_append_drop 24 words1, List.all_append, w_t1, ← List.take_append_drop 24 (words1.drop 24), List.all_append, w_t2, ← List.take_append_drop 24 ((words1.drop 24).drop 24), List.all_append, w_t3, ← List.take_append_drop 24 (((words1.drop 24).drop 24).drop 24), List.all_append, w_t4, ← List.take_append_drop 24 ((((words1.drop 24).drop 24).drop 24).drop 24), List.all_append, w_t5, ← List.take_append_drop 24 (((((words1.drop 24).drop 24).drop 24).drop 24).drop 24), List.all_append, w_t6, ← List.take_append_drop 24 ((((((words1.drop 24).drop 24).drop 24).drop 24).drop 24).drop 24), List.all_append, w_t7, ← List.take_append_drop 24 (((((((words1.drop 24).drop 24).drop 24).drop 24).drop 24).drop 24).drop 24), List.all_append, w_t8, ← List.take_append_drop 24 ((((((((words1.drop 24).drop 24).drop 24).drop 24).drop 24).drop 24).drop 24).drop 24), List.all_append, w_t9, ← List.take_append_drop 24 (((((((((words1.drop 24).drop 24).drop 24).drop 24).drop 24).drop 24).drop 24).drop 24).drop 24), List.all_append, w_t10, w_t11]
  rfl
set_option maxRecDepth 65536 in
theorem w_rest : rest_1_c.before args0 about1 = true := by decide +kernel
set_option maxRecDepth 65536 in
theorem w_case : (Jvm.Cond.and given_1 narrow_1).before args0 about1 = true := by decide +kernel
set_option maxRecDepth 65536 in
theorem w_consts : constsHeld consts_1 about1 := Jvm.Lit.constsHeldB_iff.mp (by decide +kernel)
theorem w_applies : (headSpec (Jvm.Cond.code x code maxLocals ret :: tables_1) room_1).applies x e0.platform about1 = true :=
  (Spec.applies_iff w_frames).mpr ⟨w_running, w_runnable, w_alone, w_named, w_hears, w_ripe, w_room, w_tables⟩
theorem atStart : AtStart classFile x code maxLocals ret World_1 tables_1 room_1 Calls_1 rest_1 Pre_1 launch0 p0 e0 about1 theMethod args0 below0 :=
  ⟨lists_1, trivial, launch0.admits_env _ _ _, launch0.least_env, fairChoices_fair.cas, fairChoices_fair.clock, w_frames, w_args, w_heap, w_applies, ⟨w_consts, trivial⟩, w_rest, w_case⟩
end start1
theorem witness_1 : WitnessClaimed_1 := ⟨start1.p0, start1.e0, start1.about1, start1.theMethod, start1.args0, start1.below0, start1.atStart⟩
end Jvm.Pilot.@@N@@
