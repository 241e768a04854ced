import JvmDerived
import JvmDerived.Pilot.@@N@@Statement
import JvmDerived.Pilot.@@N@@Code
set_option linter.unusedVariables false
set_option linter.unusedSimpArgs false
/- laws to paste: Road.backV, Road.eqW, Road.codOf (cut by pick.py; bodies as the Statement names them) -/
namespace Jvm.Pilot.@@N@@
namespace StrChars
open Jvm Sem ClassFile Op Lib Jvm.Stand Jvm.Free.XT Jvm.Free.ALB Jvm.Free.JM Jvm.Free
open Jvm.Lib.Cold (StaticIs)
/-- a char array whose places are chars -/
def Ch (a : Addr) (A : Cell) (U : State) : Prop := Arr .char a A U ∧ Typed .char A
theorem Ch.mv {a : Addr} {A : Cell} {U U' : State} (h : Ch a A U) (hal : U.vm.Alike U'.vm) (hh : U'.heap = U.heap) : Ch a A U' := ⟨h.1.mv hal hh, h.2⟩
theorem Ch.keep {a : Addr} {A : Cell} {U U' : State} (h : Ch a A U) (hal : U.vm.Alike U'.vm) (hk : U'.heap[a]? = some A) : Ch a A U' := ⟨h.1.keep hal hk, h.2⟩
/-- what place i of a char[]'s cell holds -/
def cv (A : Cell) (i : Nat) : Int32 := match A.slots[i]? with | some (.int x) => x | _ => 0
theorem Ch.get {a : Addr} {A : Cell} {U : State} (h : Ch a A U) {i : Nat} (hi : i < A.slots.size) : A.slots[i]? = some (.int (cv A i)) := by
  have e := Array.getElem?_eq_getElem hi
  have f := h.2 i _ e
  unfold cv; rw [e]
  generalize A.slots[i] = v at f
  cases v <;> simp [fits] at f ⊢
/-- the byte that i2b leaves of a char -/
def lo8 (x : Int32) : Int32 := x.toInt8.toInt32
theorem fits_lo8 (y : Int32) : fits .byte (.int (lo8 y)) = true := by
  have h1 := y.toInt8.le_toInt
  have h2 := y.toInt8.toInt_lt
  simp only [lo8, fits, Bool.and_eq_true, decide_eq_true_eq, Int32.le_iff_toInt_le, Int8.toInt_toInt32, show (-128 : Int32).toInt = -128 from by decide, show (127 : Int32).toInt = 127 from by decide]
  omega
/-- A' is A but that each place j of lo .. hi - 1 holds f j -/
def Laid (A A' : Cell) (lo hi : Nat) (f : Nat → Value) : Prop := A'.cls = A.cls ∧ A'.vm = A.vm ∧ A'.slots.size = A.slots.size ∧ ∀ i, A'.slots[i]? = if lo ≤ i ∧ i < hi then some (f i) else A.slots[i]?
theorem Laid.zero (A : Cell) (lo : Nat) (f : Nat → Value) : Laid A A lo (lo + 0) f := ⟨rfl, rfl, rfl, fun i => by rw [if_neg (by omega)]⟩
theorem Laid.step {A Ak : Cell} {lo k : Nat} {f : Nat → Value} {v : Value} (h : Laid A Ak lo k f) (hlo : lo ≤ k) (hk : k < Ak.slots.size) (hv : v = f k) : Laid A (Ak.setSlot k v) lo (k + 1) f := by
  refine ⟨h.1, h.2.1, by simpa [Cell.setSlot] using h.2.2.1, fun i => ?_⟩
  by_cases e : k = i
  · subst e; rw [Cell.slots_setSlot_self v hk, if_pos (by omega), hv]
  · rw [Cell.slots_setSlot_ne v e, h.2.2.2 i]
    by_cases q : lo ≤ i ∧ i < k
    · rw [if_pos q, if_pos (by omega)]
    · rw [if_neg q, if_neg (by omega)]
def U16 : String := "java/lang/StringUTF16"
namespace Cmp5
def yN : MethodName := ⟨"java/lang/StringUTF16", "compress", "([CI[BII)I"⟩
abbrev yB : ByteArray := jdk_52_method_21_code
theorem d0 : decode yB 0 = .ok (.iconst 0, 1) := by decide +kernel
theorem d1 : decode yB 1 = .ok (.istore 5, 2) := by decide +kernel
theorem d3 : decode yB 3 = .ok (.iload 5, 2) := by decide +kernel
theorem d5 : decode yB 5 = .ok (.iload 4, 2) := by decide +kernel
theorem d7 : decode yB 7 = .ok (.if_icmp (.ge) 37, 3) := by decide +kernel
theorem d10 : decode yB 10 = .ok (.aload_n 0, 1) := by decide +kernel
theorem d11 : decode yB 11 = .ok (.iload_n 1, 1) := by decide +kernel
theorem d12 : decode yB 12 = .ok (.caload, 1) := by decide +kernel
theorem d13 : decode yB 13 = .ok (.istore 6, 2) := by decide +kernel
theorem d15 : decode yB 15 = .ok (.iload 6, 2) := by decide +kernel
theorem d17 : decode yB 17 = .ok (.sipush 255, 3) := by decide +kernel
theorem d20 : decode yB 20 = .ok (.if_icmp (.le) 6, 3) := by decide +kernel
theorem d26 : decode yB 26 = .ok (.aload_n 2, 1) := by decide +kernel
theorem d27 : decode yB 27 = .ok (.iload_n 3, 1) := by decide +kernel
theorem d28 : decode yB 28 = .ok (.iload 6, 2) := by decide +kernel
theorem d30 : decode yB 30 = .ok (.i2b, 1) := by decide +kernel
theorem d31 : decode yB 31 = .ok (.bastore, 1) := by decide +kernel
theorem d32 : decode yB 32 = .ok (.iinc 1 1, 3) := by decide +kernel
theorem d35 : decode yB 35 = .ok (.iinc 3 1, 3) := by decide +kernel
theorem d38 : decode yB 38 = .ok (.iinc 5 1, 3) := by decide +kernel
theorem d41 : decode yB 41 = .ok (.goto (-38), 3) := by decide +kernel
theorem d44 : decode yB 44 = .ok (.iload 4, 2) := by decide +kernel
theorem d46 : decode yB 46 = .ok (.ireturn, 1) := by decide +kernel
def site : List Cond := []
def tab : Cond := tabOf yN yB 7 (some .int) site
def P (b : Addr) (A : Cell) (d : Addr) (B : Cell) (o q len : Nat) (args : Array Value) (s : State) : Prop := args = #[.ref b, .int (Int32.ofNat o), .ref d, .int (Int32.ofNat q), .int (Int32.ofNat len)] ∧ Ch b A s ∧ Arr .byte d B s ∧ b ≠ d ∧ o + len ≤ A.slots.size ∧ q + len ≤ B.slots.size ∧ ∀ i, i < len → ¬ 255 < cv A (o + i)
def E (b : Addr) (A : Cell) (d : Addr) (B : Cell) (o q len : Nat) (r : Option Value) (s u : State) : Prop := r = some (.int (Int32.ofNat len)) ∧ ∃ B', Put d B' s u ∧ Laid B B' q (q + len) (fun j => Value.int (lo8 (cv A (o + (j - q)))))
/-- no char of the range above 255: len; the places written hold each char's low byte -/
theorem law (l : Launch) (b : Addr) (A : Cell) (d : Addr) (B : Cell) (o q len : Nat) : Law l yN 5 5 0 0 yB 7 (some .int) site (P b A d B o q len) (E b A d B o q len) (copyLocs d q len) 0 0 := by
  refine Law.of_walk (plainFor_of_name (by decide +kernel)) (by decide +kernel) (by decide +kernel) (by decide) (fun _ _ h => by rw [h.1]; rfl) (fun _ U U' hal hh h => ⟨h.1, h.2.1.mv hal hh, h.2.2.1.mv hal hh, h.2.2.2⟩) (fun r U U' V V' h1 hal h2 h => ⟨h.1, h.2.elim fun B' q => ⟨B', q.1.mv h1 h2, q.2⟩⟩) ?_
  intro p e s m args below meth c s₁ X0 hexec hbytes hml hret hlk hnm hown hh0 W hP
  obtain ⟨rfl, hA, hB, hne, l1, l2, hp⟩ := hP
  have c1 : Steps p.tables e below (s₁.setTop (entryFrame m #[.ref b, .int (Int32.ofNat o), .ref d, .int (Int32.ofNat q), .int (Int32.ofNat len)] 7)) (s₁.setTop (mkF m 0 #[.val (.ref b), .val (.int (Int32.ofNat o)), .val (.ref d), .val (.int (Int32.ofNat q)), .val (.int (Int32.ofNat len)), .unset, .unset] [])) := entry rfl
  have hA0 := hA.1.mv X0.warmed.alike hh0
  have hB0 := hB.mv X0.warmed.alike hh0
  have a31 := hA.1.2.2.2
  have c2 : Steps p.tables e below (s₁.setTop (entryFrame m #[.ref b, .int (Int32.ofNat o), .ref d, .int (Int32.ofNat q), .int (Int32.ofNat len)] 7)) (s₁.setTop (mkF m 3 #[.val (.ref b), .val (.int (Int32.ofNat o)), .val (.ref d), .val (.int (Int32.ofNat q)), .val (.int (Int32.ofNat len)), .val (.int 0), .unset] [])) := c1.trans (by
    refine iconstV X0.here hexec rfl 0 (hb hbytes d0) (by decide) ?_
    refine XS.istore X0.here hexec rfl (hb hbytes d1) rfl rfl ?_
    exact Steps.refl _)
  have loop : ∀ (r i : Nat), i + r = len → ∀ (z : Slot), (z = .unset ∨ ∃ w, z = .val w ∧ w.category = 1) → ∀ (Tl : State) (Bk : Cell), Stand p l e { frames := 0, locals := 0, cells := 0, slots := 0 } s m #[.ref b, .int (Int32.ofNat o), .ref d, .int (Int32.ofNat q), .int (Int32.ofNat len)] below meth c Tl ([] ++ copyLocs d q i) 0 0 → Put d Bk s₁ Tl → Laid B Bk q (q + i) (fun j => Value.int (lo8 (cv A (o + (j - q))))) →
      Steps p.tables e below (s₁.setTop (entryFrame m #[.ref b, .int (Int32.ofNat o), .ref d, .int (Int32.ofNat q), .int (Int32.ofNat len)] 7)) (Tl.setTop (mkF m 3 #[.val (.ref b), .val (.int (Int32.ofNat (o + i))), .val (.ref d), .val (.int (Int32.ofNat (q + i))), .val (.int (Int32.ofNat len)), .val (.int (Int32.ofNat i)), z] [])) → ∃ (T' : State) (B' : Cell) (z' : Slot), Stand p l e { frames := 0, locals := 0, cells := 0, slots := 0 } s m #[.ref b, .int (Int32.ofNat o), .ref d, .int (Int32.ofNat q), .int (Int32.ofNat len)] below meth c T' ([] ++ copyLocs d q len) 0 0 ∧ Put d B' s₁ T' ∧ Laid B B' q (q + len) (fun j => Value.int (lo8 (cv A (o + (j - q))))) ∧
      Steps p.tables e below (s₁.setTop (entryFrame m #[.ref b, .int (Int32.ofNat o), .ref d, .int (Int32.ofNat q), .int (Int32.ofNat len)] 7)) (T'.setTop (mkF m 3 #[.val (.ref b), .val (.int (Int32.ofNat (o + len))), .val (.ref d), .val (.int (Int32.ofNat (q + len))), .val (.int (Int32.ofNat len)), .val (.int (Int32.ofNat len)), z'] [])) := by
    intro r
    induction r with
    | zero =>
      intro i hi z hz Tl Bk Xl pl fl cl
      have hil : i = len := by omega
      rw [hil] at Xl fl cl
      exact ⟨Tl, Bk, z, Xl, pl, fl, cl⟩
    | succ r ih =>
      intro i hi z hz Tl Bk Xl pl fl cl
      have all := X0.warmed.alike.symm.trans Xl.warmed.alike
      have hAl := hA0.keep all (pl.other hne hA0.1)
      have hBk := hB0.like all pl.1 fl.1 fl.2.1 fl.2.2.1
      have hlt : q + i < Bk.slots.size := by rw [fl.2.2.1]; omega
      have c3 : Steps p.tables e below (s₁.setTop (entryFrame m #[.ref b, .int (Int32.ofNat o), .ref d, .int (Int32.ofNat q), .int (Int32.ofNat len)] 7)) (Tl.setTop (mkF m 12 #[.val (.ref b), .val (.int (Int32.ofNat (o + i))), .val (.ref d), .val (.int (Int32.ofNat (q + i))), .val (.int (Int32.ofNat len)), .val (.int (Int32.ofNat i)), z] [.int (Int32.ofNat (o + i)), .ref b])) := cl.trans (by
        refine XS.iload Xl.here hexec rfl (hb hbytes d3) rfl ?_
        refine XS.iload Xl.here hexec rfl (hb hbytes d5) rfl ?_
        refine XS.icmpNo Xl.here hexec rfl (hb hbytes d7) rfl (ii_ge_f (lt32 (by omega) (by omega))) ?_
        refine XS.aloadN Xl.here hexec rfl (hb hbytes d10) rfl rfl ?_
        refine XS.iloadN Xl.here hexec rfl (hb hbytes d11) rfl ?_
        exact Steps.refl _)
      have c4 : Steps p.tables e below (s₁.setTop (entryFrame m #[.ref b, .int (Int32.ofNat o), .ref d, .int (Int32.ofNat q), .int (Int32.ofNat len)] 7)) (Tl.setTop (mkF m 13 #[.val (.ref b), .val (.int (Int32.ofNat (o + i))), .val (.ref d), .val (.int (Int32.ofNat (q + i))), .val (.int (Int32.ofNat len)), .val (.int (Int32.ofNat i)), z] [.int (cv A (o + i))])) := c3.trans (by
        refine Xl.aget hexec hAl rfl (hA.get (i := o + i) (by omega)) rfl rfl (hb hbytes d12) ?_
        exact Steps.refl _)
      have c5 : Steps p.tables e below (s₁.setTop (entryFrame m #[.ref b, .int (Int32.ofNat o), .ref d, .int (Int32.ofNat q), .int (Int32.ofNat len)] 7)) (Tl.setTop (mkF m 15 #[.val (.ref b), .val (.int (Int32.ofNat (o + i))), .val (.ref d), .val (.int (Int32.ofNat (q + i))), .val (.int (Int32.ofNat len)), .val (.int (Int32.ofNat i)), .val (.int (cv A (o + i)))] [])) := c4.trans (by
        refine XS.istoreS Xl.here hexec rfl (hb hbytes d13) rfl rfl hz ?_
        exact Steps.refl _)
      have c6 : Steps p.tables e below (s₁.setTop (entryFrame m #[.ref b, .int (Int32.ofNat o), .ref d, .int (Int32.ofNat q), .int (Int32.ofNat len)] 7)) (Tl.setTop (mkF m 31 #[.val (.ref b), .val (.int (Int32.ofNat (o + i))), .val (.ref d), .val (.int (Int32.ofNat (q + i))), .val (.int (Int32.ofNat len)), .val (.int (Int32.ofNat i)), .val (.int (cv A (o + i)))] [.int (lo8 (cv A (o + i))), .int (Int32.ofNat (q + i)), .ref d])) := c5.trans (by
        refine XS.iload Xl.here hexec rfl (hb hbytes d15) rfl ?_
        refine sipushV Xl.here hexec rfl 255 (hb hbytes d17) (by decide) ?_
        refine XS.icmpYes Xl.here hexec rfl (pc0 := 20) rfl (hb hbytes d20) rfl (ii_le_t (hp i (by omega))) (by decide) rfl ?_
        refine XS.aloadN Xl.here hexec rfl (hb hbytes d26) rfl rfl ?_
        refine XS.iloadN Xl.here hexec rfl (hb hbytes d27) rfl ?_
        refine XS.iload Xl.here hexec rfl (hb hbytes d28) rfl ?_
        refine i2b Xl.here hexec rfl (hb hbytes d30) rfl ?_
        exact Steps.refl _)
      obtain ⟨T7, X7, p7, st7⟩ := Xl.aput hexec hBk rfl hlt rfl (fits_lo8 (cv A (o + i))) (g := (mkF m 31 #[.val (.ref b), .val (.int (Int32.ofNat (o + i))), .val (.ref d), .val (.int (Int32.ofNat (q + i))), .val (.int (Int32.ofNat len)), .val (.int (Int32.ofNat i)), .val (.int (cv A (o + i)))] [.int (lo8 (cv A (o + i))), .int (Int32.ofNat (q + i)), .ref d])) rfl (rest := []) rfl (hb hbytes d31)
      have c8 : Steps p.tables e below (s₁.setTop (entryFrame m #[.ref b, .int (Int32.ofNat o), .ref d, .int (Int32.ofNat q), .int (Int32.ofNat len)] 7)) (T7.setTop (mkF m 32 #[.val (.ref b), .val (.int (Int32.ofNat (o + i))), .val (.ref d), .val (.int (Int32.ofNat (q + i))), .val (.int (Int32.ofNat len)), .val (.int (Int32.ofNat i)), .val (.int (cv A (o + i)))] [])) := c6.trans (st7 _ (Steps.refl _))
      have c9 : Steps p.tables e below (s₁.setTop (entryFrame m #[.ref b, .int (Int32.ofNat o), .ref d, .int (Int32.ofNat q), .int (Int32.ofNat len)] 7)) (T7.setTop (mkF m 3 #[.val (.ref b), .val (.int (Int32.ofNat (o + i) + 1)), .val (.ref d), .val (.int (Int32.ofNat (q + i) + 1)), .val (.int (Int32.ofNat len)), .val (.int (Int32.ofNat i + 1)), .val (.int (cv A (o + i)))] [])) := c8.trans (by
        refine iincV X7.here hexec rfl 1 (hb hbytes d32) (by decide) rfl rfl ?_
        refine iincV X7.here hexec rfl 1 (hb hbytes d35) (by decide) rfl rfl ?_
        refine iincV X7.here hexec rfl 1 (hb hbytes d38) (by decide) rfl rfl ?_
        refine XS.goto X7.here hexec rfl (pc0 := 41) rfl (hb hbytes d41) (by decide) rfl ?_
        exact Steps.refl _)
      have c10 : Steps p.tables e below (s₁.setTop (entryFrame m #[.ref b, .int (Int32.ofNat o), .ref d, .int (Int32.ofNat q), .int (Int32.ofNat len)] 7)) (T7.setTop (mkF m 3 #[.val (.ref b), .val (.int (Int32.ofNat (o + (i + 1)))), .val (.ref d), .val (.int (Int32.ofNat (q + (i + 1)))), .val (.int (Int32.ofNat len)), .val (.int (Int32.ofNat (i + 1))), .val (.int (cv A (o + i)))] [])) := by
        have := c9
        rw [succ32, succ32, succ32] at this
        exact this
      exact ih (i + 1) (by omega) _ (Or.inr ⟨_, rfl, rfl⟩) T7 _ (by rw [copyLocs_step, ← List.append_assoc]; exact X7) (pl.trans p7) (fl.step (by omega) hlt (by simp)) c10
  obtain ⟨T9, B9, z9, X9, p9, f9, g9⟩ := loop len 0 (by omega) .unset (Or.inl rfl) s₁ B (by simpa [copyLocs] using X0) ⟨hB0.1, fun _ _ => rfl, rfl⟩ (Laid.zero _ _ _) c2
  have c11 : Steps p.tables e below (s₁.setTop (entryFrame m #[.ref b, .int (Int32.ofNat o), .ref d, .int (Int32.ofNat q), .int (Int32.ofNat len)] 7)) (T9.setTop (mkF m 46 #[.val (.ref b), .val (.int (Int32.ofNat (o + len))), .val (.ref d), .val (.int (Int32.ofNat (q + len))), .val (.int (Int32.ofNat len)), .val (.int (Int32.ofNat len)), z9] [.int (Int32.ofNat len)])) := g9.trans (by
    refine XS.iload X9.here hexec rfl (hb hbytes d3) rfl ?_
    refine XS.iload X9.here hexec rfl (hb hbytes d5) rfl ?_
    refine XS.icmpYes X9.here hexec rfl (pc0 := 7) rfl (hb hbytes d7) rfl (ii_ge_t (nlt32 (by omega) (Nat.le_refl _))) (by decide) rfl ?_
    refine XS.iload X9.here hexec rfl (hb hbytes d44) rfl ?_
    exact Steps.refl _)
  exact ⟨T9, some (.int (Int32.ofNat len)), _, _, _, X9, by simp, rfl, rfl, (fun h => by cases h), ⟨rfl, B9, p9.from hh0, f9⟩, fun fs hl => c11.trans (X9.ireturnOut hexec hret rfl (Or.inl rfl) (hb hbytes d46) hl)⟩
end Cmp5
namespace Cmp3
def yN : MethodName := ⟨"java/lang/StringUTF16", "compress", "([CII)[B"⟩
abbrev yB : ByteArray := jdk_52_method_16_code
theorem d0 : decode yB 0 = .ok (.iload_n 2, 1) := by decide +kernel
theorem d1 : decode yB 1 = .ok (.newarray .byte, 2) := by decide +kernel
theorem d3 : decode yB 3 = .ok (.astore_n 3, 1) := by decide +kernel
theorem d4 : decode yB 4 = .ok (.aload_n 0, 1) := by decide +kernel
theorem d5 : decode yB 5 = .ok (.iload_n 1, 1) := by decide +kernel
theorem d6 : decode yB 6 = .ok (.aload_n 3, 1) := by decide +kernel
theorem d7 : decode yB 7 = .ok (.iconst 0, 1) := by decide +kernel
theorem d8 : decode yB 8 = .ok (.iload_n 2, 1) := by decide +kernel
theorem d9 : decode yB 9 = .ok (.invokestatic 115, 3) := by decide +kernel
theorem d12 : decode yB 12 = .ok (.istore 4, 2) := by decide +kernel
theorem d14 : decode yB 14 = .ok (.iload 4, 2) := by decide +kernel
theorem d16 : decode yB 16 = .ok (.iload_n 2, 1) := by decide +kernel
theorem d17 : decode yB 17 = .ok (.if_icmp (.eq) 40, 3) := by decide +kernel
theorem d57 : decode yB 57 = .ok (.aload_n 3, 1) := by decide +kernel
theorem d58 : decode yB 58 = .ok (.areturn, 1) := by decide +kernel
def site : List Cond := [.arrayClass .byte, Cmp5.tab] ++ staticW U16 115 Cmp5.yN
def tab : Cond := tabOf yN yB 6 (some (.array .byte)) site
def P (b : Addr) (A : Cell) (o len : Nat) (args : Array Value) (s : State) : Prop := args = #[.ref b, .int (Int32.ofNat o), .int (Int32.ofNat len)] ∧ Ch b A s ∧ o + len ≤ A.slots.size ∧ len ≤ 536870912 ∧ ∀ i, i < len → ¬ 255 < cv A (o + i)
def E (b : Addr) (A : Cell) (o len : Nat) (r : Option Value) (s u : State) : Prop := NewArr .byte "[B" len (fun j => .int (lo8 (cv A (o + j)))) r s u ∧ u.heap.size = s.heap.size + 1
/-- no char of the range above 255: a new byte[] of their low bytes -/
theorem law (l : Launch) (b : Addr) (A : Cell) (o len : Nat) : Law l yN 3 3 1 18 yB 6 (some (.array .byte)) site (P b A o len) (E b A o len) [] 1 len := by
  refine Law.of_walk (plainFor_of_name (by decide +kernel)) (by decide +kernel) (by decide +kernel) (by decide) (fun _ _ h => by rw [h.1]; rfl) (fun _ U U' hal hh h => ⟨h.1, h.2.1.mv hal hh, h.2.2⟩) (fun r U U' V V' h1 hal h2 h => ⟨NewArr.mv r U U' V V' h1 hal h2 h.1, by rw [h1, h2]; exact h.2⟩) ?_
  intro p e s m args below meth c s₁ X0 hexec hbytes hml hret hlk hnm hown hh0 W hP
  obtain ⟨rfl, hA, l1, l2, hp⟩ := hP
  have a31 := hA.1.2.2.2
  have c1 : Steps p.tables e below (s₁.setTop (entryFrame m #[.ref b, .int (Int32.ofNat o), .int (Int32.ofNat len)] 6)) (s₁.setTop (mkF m 0 #[.val (.ref b), .val (.int (Int32.ofNat o)), .val (.int (Int32.ofNat len)), .unset, .unset, .unset] [])) := entry rfl
  have c2 : Steps p.tables e below (s₁.setTop (entryFrame m #[.ref b, .int (Int32.ofNat o), .int (Int32.ofNat len)] 6)) (s₁.setTop (mkF m 1 #[.val (.ref b), .val (.int (Int32.ofNat o)), .val (.int (Int32.ofNat len)), .unset, .unset, .unset] [.int (Int32.ofNat len)])) := c1.trans (by
    refine XS.iloadN X0.here hexec rfl (hb hbytes d0) rfl ?_
    exact Steps.refl _)
  obtain ⟨T3, B3, X3, ba3, bs3, bv3, bh3, bf3, st3⟩ := X0.anew hexec (atype := .byte) (wk W (.arrayClass .byte)) rfl (by show len * 1 ≤ _; omega) (by omega) (g := (mkF m 1 #[.val (.ref b), .val (.int (Int32.ofNat o)), .val (.int (Int32.ofNat len)), .unset, .unset, .unset] [.int (Int32.ofNat len)])) rfl (hb hbytes d1) (rest := []) rfl (Nat.le_refl _) (by show 0 + len ≤ len; omega)
  rw [hh0] at ba3 st3
  have kp3 : XT.Kept s T3 := (XT.Kept.of_eq hh0).push bh3
  have hA3 := hA.keep X3.warmed.alike (kp3 _ _ hA.1.1)
  have hne : b ≠ s.heap.size := hA.1.ne
  have c4 : Steps p.tables e below (s₁.setTop (entryFrame m #[.ref b, .int (Int32.ofNat o), .int (Int32.ofNat len)] 6)) (T3.setTop (mkF m 3 #[.val (.ref b), .val (.int (Int32.ofNat o)), .val (.int (Int32.ofNat len)), .unset, .unset, .unset] [.ref s.heap.size])) := c2.trans (st3 _ (Steps.refl _))
  have c5 : Steps p.tables e below (s₁.setTop (entryFrame m #[.ref b, .int (Int32.ofNat o), .int (Int32.ofNat len)] 6)) (T3.setTop (mkF m 9 #[.val (.ref b), .val (.int (Int32.ofNat o)), .val (.int (Int32.ofNat len)), .val (.ref s.heap.size), .unset, .unset] [.int (Int32.ofNat len), .int 0, .ref s.heap.size, .int (Int32.ofNat o), .ref b])) := c4.trans (by
    refine XS.astoreN X3.here hexec rfl (hb hbytes d3) rfl rfl rfl ?_
    refine XS.aloadN X3.here hexec rfl (hb hbytes d4) rfl rfl ?_
    refine XS.iloadN X3.here hexec rfl (hb hbytes d5) rfl ?_
    refine XS.aloadN X3.here hexec rfl (hb hbytes d6) rfl rfl ?_
    refine iconstV X3.here hexec rfl 0 (hb hbytes d7) (by decide) ?_
    refine XS.iloadN X3.here hexec rfl (hb hbytes d8) rfl ?_
    exact Steps.refl _)
  obtain ⟨v6, T6, X6, E6, g6⟩ := X3.callS hexec (Cmp5.law l b A s.heap.size B3 o 0 len) hown (wks W (staticW U16 115 Cmp5.yN)) (wk W Cmp5.tab) (W := 0) (Nat.le_of_ble_eq_true rfl) (Nat.le_of_ble_eq_true rfl) (Nat.le_refl _) (by show 0 + len + 0 ≤ len; omega) (g := (mkF m 9 #[.val (.ref b), .val (.int (Int32.ofNat o)), .val (.int (Int32.ofNat len)), .val (.ref s.heap.size), .unset, .unset] [.int (Int32.ofNat len), .int (Int32.ofNat 0), .ref s.heap.size, .int (Int32.ofNat o), .ref b])) rfl (by rw [hml]; rfl) c5 (argsL := [.ref b, .int (Int32.ofNat o), .ref s.heap.size, .int (Int32.ofNat 0), .int (Int32.ofNat len)]) (rest := []) rfl rfl (by show 2 * 0 + 0 ≤ _; decide) (hb hbytes d9) (⟨rfl, hA3, ba3, hne, l1, by rw [bs3]; simp, hp⟩)
  obtain ⟨rfl, B6, p6, f6⟩ := E6
  have c7 : Steps p.tables e below (s₁.setTop (entryFrame m #[.ref b, .int (Int32.ofNat o), .int (Int32.ofNat len)] 6)) (T6.setTop (mkF m 12 #[.val (.ref b), .val (.int (Int32.ofNat o)), .val (.int (Int32.ofNat len)), .val (.ref s.heap.size), .unset, .unset] [.int (Int32.ofNat len)])) := g6
  have c8 : Steps p.tables e below (s₁.setTop (entryFrame m #[.ref b, .int (Int32.ofNat o), .int (Int32.ofNat len)] 6)) (T6.setTop (mkF m 58 #[.val (.ref b), .val (.int (Int32.ofNat o)), .val (.int (Int32.ofNat len)), .val (.ref s.heap.size), .val (.int (Int32.ofNat len)), .unset] [.ref s.heap.size])) := c7.trans (by
    refine XS.istore X6.here hexec rfl (hb hbytes d12) rfl rfl ?_
    refine XS.iload X6.here hexec rfl (hb hbytes d14) rfl ?_
    refine XS.iloadN X6.here hexec rfl (hb hbytes d16) rfl ?_
    refine XS.icmpYes X6.here hexec rfl (pc0 := 17) rfl (hb hbytes d17) rfl (ii_eq_t rfl) (by decide) rfl ?_
    refine XS.aloadN X6.here hexec rfl (hb hbytes d57) rfl rfl ?_
    exact Steps.refl _)
  have X8 := X6.wide (L' := []) (cells' := 1) (slots' := len) (fun x hx hlt => by
    simp only [List.nil_append, copyLocs, List.mem_map, List.mem_range] at hx
    obtain ⟨i, -, rfl⟩ := hx
    exact absurd hlt (Nat.lt_irrefl _)) (Nat.le_refl _) (by omega)
  exact ⟨T6, some (.ref s.heap.size), _, _, _, X8, rfl, rfl, rfl, (fun h => by cases h), ⟨⟨rfl, B6, ba3.like (X3.warmed.alike.symm.trans X6.warmed.alike) p6.1 f6.1 f6.2.1 f6.2.2.1, f6.2.1.trans bv3, by rw [X6.warmed.alike.findClass, f6.1]; exact bf3, by rw [f6.2.2.1, bs3]; simp, fun j hj => by rw [f6.2.2.2 j, if_pos (by omega)]; rfl, kp3.put p6 (Nat.le_refl _)⟩, by rw [p6.2.2, bh3, hh0]; simp⟩, fun fs hl => c8.trans (X8.areturnOut hexec rfl hret rfl (hb hbytes d58) hl)⟩
end Cmp3
namespace CodL
def yN : MethodName := ⟨"java/lang/StringUTF16", "coderFromArrayLen", "([BI)B"⟩
abbrev yB : ByteArray := jdk_52_method_15_code
theorem d0 : decode yB 0 = .ok (.iload_n 1, 1) := by decide +kernel
theorem d1 : decode yB 1 = .ok (.aload_n 0, 1) := by decide +kernel
theorem d2 : decode yB 2 = .ok (.arraylength, 1) := by decide +kernel
theorem d3 : decode yB 3 = .ok (.isub, 1) := by decide +kernel
theorem d4 : decode yB 4 = .ok (.bipush 31, 2) := by decide +kernel
theorem d6 : decode yB 6 = .ok (.iushr, 1) := by decide +kernel
theorem d7 : decode yB 7 = .ok (.i2b, 1) := by decide +kernel
theorem d8 : decode yB 8 = .ok (.ireturn, 1) := by decide +kernel
def site : List Cond := []
def tab : Cond := tabOf yN yB 2 (some .byte) site
def P (d : Addr) (B : Cell) (args : Array Value) (s : State) : Prop := args = #[.ref d, .int (Int32.ofNat B.slots.size)] ∧ Arr .byte d B s
def E (r : Option Value) (s u : State) : Prop := XT.PureE (some (.int 0)) r s u
/-- an array as long as the number of chars: LATIN1 -/
theorem law (l : Launch) (d : Addr) (B : Cell) : Law l yN 2 2 0 0 yB 2 (some .byte) site (P d B) E [] 0 0 := by
  refine Law.of_walk (plainFor_of_name (by decide +kernel)) (by decide +kernel) (by decide +kernel) (by decide) (fun _ _ h => by rw [h.1]; rfl) (fun _ U U' hal hh h => ⟨h.1, h.2.mv hal hh⟩) (fun r U U' V V' h1 hal h2 h => XT.PureE.mv r U U' V V' h1 hal h2 h) ?_
  intro p e s m args below meth c s₁ X0 hexec hbytes hml hret hlk hnm hown hh0 W hP
  obtain ⟨rfl, hB⟩ := hP
  have hB0 := hB.mv X0.warmed.alike hh0
  have c1 : Steps p.tables e below (s₁.setTop (entryFrame m #[.ref d, .int (Int32.ofNat B.slots.size)] 2)) (s₁.setTop (mkF m 0 #[.val (.ref d), .val (.int (Int32.ofNat B.slots.size))] [])) := entry rfl
  have c2 : Steps p.tables e below (s₁.setTop (entryFrame m #[.ref d, .int (Int32.ofNat B.slots.size)] 2)) (s₁.setTop (mkF m 2 #[.val (.ref d), .val (.int (Int32.ofNat B.slots.size))] [.ref d, .int (Int32.ofNat B.slots.size)])) := c1.trans (by
    refine XS.iloadN X0.here hexec rfl (hb hbytes d0) rfl ?_
    refine XS.aloadN X0.here hexec rfl (hb hbytes d1) rfl rfl ?_
    exact Steps.refl _)
  have c3 : Steps p.tables e below (s₁.setTop (entryFrame m #[.ref d, .int (Int32.ofNat B.slots.size)] 2)) (s₁.setTop (mkF m 8 #[.val (.ref d), .val (.int (Int32.ofNat B.slots.size))] [.int (lo8 (ushr (Int32.ofNat B.slots.size - Int32.ofNat B.slots.size) 31))])) := c2.trans (by
    refine X0.alen hexec hB0 rfl rfl (hb hbytes d2) ?_
    refine XS.isub X0.here hexec rfl (hb hbytes d3) rfl ?_
    refine bipushV X0.here hexec rfl 31 (hb hbytes d4) (by decide) ?_
    refine iushr X0.here hexec rfl (hb hbytes d6) rfl ?_
    refine i2b X0.here hexec rfl (hb hbytes d7) rfl ?_
    exact Steps.refl _)
  have e0 : lo8 (ushr (Int32.ofNat B.slots.size - Int32.ofNat B.slots.size) 31) = 0 := by rw [Int32.sub_self]; decide
  rw [e0] at c3
  exact ⟨s₁, some (.int 0), _, _, _, X0, rfl, rfl, rfl, (fun h => by cases h), ⟨rfl, hh0⟩, fun fs hl => c3.trans (X0.ireturnOut hexec hret rfl (Or.inr (Or.inr (Or.inl rfl))) (hb hbytes d8) hl)⟩
end CodL
/-- the String at a is Latin-1 over a new byte[] (the heap's one new cell): the low bytes of the len chars of A from o on; every cell but a is kept -/
def Got (a : Addr) (D : Cell) (fV fC : Field) (A : Cell) (o len : Nat) (r : Option Value) (s u : State) : Prop := r = none ∧ ∃ D' V : Cell, Blank "java/lang/String" a D' u ∧ Same D D' [fV.slot, fC.slot] ∧ D'.slots[fV.slot]? = some (.ref s.heap.size) ∧ D'.slots[fC.slot]? = some (.int 0) ∧ Arr .byte s.heap.size V u ∧ V.vm = .none ∧ u.vm.findClass "[B" = some V.cls ∧ V.slots.size = len ∧ (∀ j, j < len → V.slots[j]? = some (.int (lo8 (cv A (o + j))))) ∧ (∀ (y : Addr) (c : Cell), y ≠ a → s.heap[y]? = some c → u.heap[y]? = some c) ∧ u.heap.size = s.heap.size + 1
theorem Got.mv {a : Addr} {D A : Cell} {fV fC : Field} {o len : Nat} : ∀ r (U U' V V' : State), U'.heap = U.heap → V.vm.Alike V'.vm → V'.heap = V.heap → Got a D fV fC A o len r U V → Got a D fV fC A o len r U' V' :=
  fun r U U' V V' h1 hal h2 ⟨e0, D', X, a1, a2, a3, a4, a5, a6, a7, a8, a9, a10, a11⟩ => ⟨e0, D', X, a1.mv hal h2, a2, by rw [h1]; exact a3, a4, by rw [h1]; exact a5.mv hal h2, a6, by rw [hal.findClass]; exact a7, a8, a9, by rw [h1, h2]; exact a10, by rw [h1, h2]; exact a11⟩
namespace New4
def yN : MethodName := ⟨"java/lang/String", "<init>", "([CIILjava/lang/Void;)V"⟩
abbrev yB : ByteArray := jdk_42_method_149_code
theorem d0 : decode yB 0 = .ok (.aload_n 0, 1) := by decide +kernel
theorem d1 : decode yB 1 = .ok (.invokespecial 1, 3) := by decide +kernel
theorem d4 : decode yB 4 = .ok (.iload_n 3, 1) := by decide +kernel
theorem d5 : decode yB 5 = .ok (.ifCond (.ne) 22, 3) := by decide +kernel
theorem d27 : decode yB 27 = .ok (.getstatic 38, 3) := by decide +kernel
theorem d30 : decode yB 30 = .ok (.ifCond (.eq) 28, 3) := by decide +kernel
theorem d33 : decode yB 33 = .ok (.aload_n 1, 1) := by decide +kernel
theorem d34 : decode yB 34 = .ok (.iload_n 2, 1) := by decide +kernel
theorem d35 : decode yB 35 = .ok (.iload_n 3, 1) := by decide +kernel
theorem d36 : decode yB 36 = .ok (.invokestatic 177, 3) := by decide +kernel
theorem d39 : decode yB 39 = .ok (.astore 5, 2) := by decide +kernel
theorem d41 : decode yB 41 = .ok (.aload_n 0, 1) := by decide +kernel
theorem d42 : decode yB 42 = .ok (.aload 5, 2) := by decide +kernel
theorem d44 : decode yB 44 = .ok (.iload_n 3, 1) := by decide +kernel
theorem d45 : decode yB 45 = .ok (.invokestatic 47, 3) := by decide +kernel
theorem d48 : decode yB 48 = .ok (.putfield 15, 3) := by decide +kernel
theorem d51 : decode yB 51 = .ok (.aload_n 0, 1) := by decide +kernel
theorem d52 : decode yB 52 = .ok (.aload 5, 2) := by decide +kernel
theorem d54 : decode yB 54 = .ok (.putfield 9, 3) := by decide +kernel
theorem d57 : decode yB 57 = .ok (.return_, 1) := by decide +kernel
def site : List Cond := [.fieldLink "java/lang/String" 38 "java/lang/String" "COMPACT_STRINGS" "Z", Cmp3.tab, CodL.tab, .laysFinal "java/lang/String" "java/lang/String" "value" "[B", .fieldLink "java/lang/String" 9 "java/lang/String" "value" "[B", .laysFinal "java/lang/String" "java/lang/String" "coder" "B", .fieldLink "java/lang/String" 15 "java/lang/String" "coder" "B"] ++ objW "java/lang/String" 1 ++ staticW "java/lang/String" 177 Cmp3.yN ++ staticW "java/lang/String" 47 CodL.yN
def tab : Cond := tabOf yN yB 6 none site
def P (a : Addr) (D : Cell) (fV fC : Field) (b : Addr) (A : Cell) (z : Int32) (o len : Nat) (args : Array Value) (s : State) : Prop := args = #[.ref a, .ref b, .int (Int32.ofNat o), .int (Int32.ofNat len), .null] ∧ Blank "java/lang/String" a D s ∧ Found "java/lang/String" "value" "[B" fV s ∧ Found "java/lang/String" "coder" "B" fC s ∧ Ch b A s ∧ StaticIs s "java/lang/String" "COMPACT_STRINGS" "Z" (.int z) ∧ ¬ z = 0 ∧ 0 < len ∧ o + len ≤ A.slots.size ∧ len ≤ 536870912 ∧ ∀ i, i < len → ¬ 255 < cv A (o + i)
def E (a : Addr) (D : Cell) (fV fC : Field) (A : Cell) (o len : Nat) (r : Option Value) (s u : State) : Prop := Got a D fV fC A o len r s u
/-- len > 0, no char of the range above 255: a Latin-1 String of their low bytes -/
theorem law (l : Launch) (a : Addr) (D : Cell) (fV fC : Field) (b : Addr) (A : Cell) (z : Int32) (o len : Nat) : Law l yN 5 4 2 35 yB 6 none site (P a D fV fC b A z o len) (E a D fV fC A o len) [⟨a, fC.slot⟩, ⟨a, fV.slot⟩] 1 len := by
  refine Law.of_walk (plainFor_of_name (by decide +kernel)) (by decide +kernel) (by decide +kernel) (by decide) (fun _ _ h => by rw [h.1]; rfl) (fun _ U U' hal hh h => ⟨h.1, h.2.1.mv hal hh, h.2.2.1.al hal, h.2.2.2.1.al hal, h.2.2.2.2.1.mv hal hh, h.2.2.2.2.2.1.there hal hh, h.2.2.2.2.2.2⟩) (fun r U U' V V' h1 hal h2 h => Got.mv r U U' V V' h1 hal h2 h) ?_
  intro p e s m args below meth c s₁ X0 hexec hbytes hml hret hlk hnm hown hh0 W hP
  obtain ⟨rfl, hB, f1, f2, hA, s1, hz, l0, l1, l2, hp⟩ := hP
  have a31 := hA.1.2.2.2
  have c1 : Steps p.tables e below (s₁.setTop (entryFrame m #[.ref a, .ref b, .int (Int32.ofNat o), .int (Int32.ofNat len), .null] 6)) (s₁.setTop (mkF m 0 #[.val (.ref a), .val (.ref b), .val (.int (Int32.ofNat o)), .val (.int (Int32.ofNat len)), .val .null, .unset] [])) := entry rfl
  have c2 : Steps p.tables e below (s₁.setTop (entryFrame m #[.ref a, .ref b, .int (Int32.ofNat o), .int (Int32.ofNat len), .null] 6)) (s₁.setTop (mkF m 1 #[.val (.ref a), .val (.ref b), .val (.int (Int32.ofNat o)), .val (.int (Int32.ofNat len)), .val .null, .unset] [.ref a])) := c1.trans (by
    refine XS.aloadN X0.here hexec rfl (hb hbytes d0) rfl rfl ?_
    exact Steps.refl _)
  obtain ⟨T3, X3, q3, st3⟩ := X0.oinit hexec hown (wks W (objW "java/lang/String" 1)) (g := (mkF m 1 #[.val (.ref a), .val (.ref b), .val (.int (Int32.ofNat o)), .val (.int (Int32.ofNat len)), .val .null, .unset] [.ref a])) rfl (by rw [hml]; rfl) (rest := []) rfl (hb hbytes d1) (W := 0) (by show 2 * 0 + 0 ≤ _; decide) (Nat.le_of_ble_eq_true rfl) (Nat.le_of_ble_eq_true rfl)
  have hh3 := q3.trans hh0
  have c4 : Steps p.tables e below (s₁.setTop (entryFrame m #[.ref a, .ref b, .int (Int32.ofNat o), .int (Int32.ofNat len), .null] 6)) (T3.setTop (mkF m 27 #[.val (.ref a), .val (.ref b), .val (.int (Int32.ofNat o)), .val (.int (Int32.ofNat len)), .val .null, .unset] [])) := (c2.trans (st3 _ (Steps.refl _))).trans (by
    refine XS.iloadN X3.here hexec rfl (hb hbytes d4) rfl ?_
    refine XS.ifYes X3.here hexec rfl (pc0 := 5) rfl (hb hbytes d5) rfl (i0_ne_t (nz32 (by omega) l0)) (by decide) rfl ?_
    exact Steps.refl _)
  obtain ⟨T5, X5, q5, st5⟩ := X3.sget hexec hown (wk W (.fieldLink "java/lang/String" 38 "java/lang/String" "COMPACT_STRINGS" "Z")) s1 (fun _ _ h => by rw [hh3]; exact h) (g := (mkF m 27 #[.val (.ref a), .val (.ref b), .val (.int (Int32.ofNat o)), .val (.int (Int32.ofNat len)), .val .null, .unset] [])) rfl (hb hbytes d27)
  have hh5 := q5.trans hh3
  have c6 : Steps p.tables e below (s₁.setTop (entryFrame m #[.ref a, .ref b, .int (Int32.ofNat o), .int (Int32.ofNat len), .null] 6)) (T5.setTop (mkF m 30 #[.val (.ref a), .val (.ref b), .val (.int (Int32.ofNat o)), .val (.int (Int32.ofNat len)), .val .null, .unset] [.int z])) := c4.trans (st5 _ (Steps.refl _))
  have c7 : Steps p.tables e below (s₁.setTop (entryFrame m #[.ref a, .ref b, .int (Int32.ofNat o), .int (Int32.ofNat len), .null] 6)) (T5.setTop (mkF m 36 #[.val (.ref a), .val (.ref b), .val (.int (Int32.ofNat o)), .val (.int (Int32.ofNat len)), .val .null, .unset] [.int (Int32.ofNat len), .int (Int32.ofNat o), .ref b])) := c6.trans (by
    refine XS.ifNo X5.here hexec rfl (hb hbytes d30) rfl (i0_eq_f hz) ?_
    refine XS.aloadN X5.here hexec rfl (hb hbytes d33) rfl rfl ?_
    refine XS.iloadN X5.here hexec rfl (hb hbytes d34) rfl ?_
    refine XS.iloadN X5.here hexec rfl (hb hbytes d35) rfl ?_
    exact Steps.refl _)
  obtain ⟨v8, T8, X8, E8, g8⟩ := X5.callS hexec (Cmp3.law l b A o len) hown (wks W (staticW "java/lang/String" 177 Cmp3.yN)) (wk W Cmp3.tab) (W := 0) (Nat.le_of_ble_eq_true rfl) (Nat.le_of_ble_eq_true rfl) (Nat.le_refl _) (by show 0 + len ≤ len; omega) (g := (mkF m 36 #[.val (.ref a), .val (.ref b), .val (.int (Int32.ofNat o)), .val (.int (Int32.ofNat len)), .val .null, .unset] [.int (Int32.ofNat len), .int (Int32.ofNat o), .ref b])) rfl (by rw [hml]; rfl) c7 (argsL := [.ref b, .int (Int32.ofNat o), .int (Int32.ofNat len)]) (rest := []) rfl rfl (by show 2 * 0 + 0 ≤ _; decide) (hb hbytes d36) (⟨rfl, hA.mv X5.warmed.alike hh5, l1, l2, hp⟩)
  obtain ⟨e8, z8⟩ := E8
  obtain ⟨rfl, N, n1, n2, n3, n4, n5, n6⟩ := NewArr.mv _ T5 s _ _ hh5.symm (Vm.Alike.refl _) rfl e8
  rw [hh5] at z8
  have hB1 := hB.keep X8.warmed.alike (n6 _ _ hB.1)
  have hne : s.heap.size ≠ a := (Nat.ne_of_lt (Array.getElem?_eq_some_iff.mp hB.1).1).symm
  have c9 : Steps p.tables e below (s₁.setTop (entryFrame m #[.ref a, .ref b, .int (Int32.ofNat o), .int (Int32.ofNat len), .null] 6)) (T8.setTop (mkF m 39 #[.val (.ref a), .val (.ref b), .val (.int (Int32.ofNat o)), .val (.int (Int32.ofNat len)), .val .null, .unset] [.ref s.heap.size])) := g8
  have c10 : Steps p.tables e below (s₁.setTop (entryFrame m #[.ref a, .ref b, .int (Int32.ofNat o), .int (Int32.ofNat len), .null] 6)) (T8.setTop (mkF m 45 #[.val (.ref a), .val (.ref b), .val (.int (Int32.ofNat o)), .val (.int (Int32.ofNat len)), .val .null, .val (.ref s.heap.size)] [.int (Int32.ofNat N.slots.size), .ref s.heap.size, .ref a])) := by
    have hc : Steps p.tables e below (s₁.setTop (entryFrame m #[.ref a, .ref b, .int (Int32.ofNat o), .int (Int32.ofNat len), .null] 6)) (T8.setTop (mkF m 45 #[.val (.ref a), .val (.ref b), .val (.int (Int32.ofNat o)), .val (.int (Int32.ofNat len)), .val .null, .val (.ref s.heap.size)] [.int (Int32.ofNat len), .ref s.heap.size, .ref a])) := c9.trans (by
      refine XS.astore X8.here hexec rfl (hb hbytes d39) rfl rfl rfl ?_
      refine XS.aloadN X8.here hexec rfl (hb hbytes d41) rfl rfl ?_
      refine XS.aload X8.here hexec rfl (hb hbytes d42) rfl rfl ?_
      refine XS.iloadN X8.here hexec rfl (hb hbytes d44) rfl ?_
      exact Steps.refl _)
    rw [n4]; exact hc
  obtain ⟨v11, T11, X11, E11, g11⟩ := X8.callS hexec (CodL.law l s.heap.size N) hown (wks W (staticW "java/lang/String" 47 CodL.yN)) (wk W CodL.tab) (W := 1) (Nat.le_of_ble_eq_true rfl) (Nat.le_of_ble_eq_true rfl) (Nat.le_refl _) (by show 0 + len + 0 ≤ len; omega) (g := (mkF m 45 #[.val (.ref a), .val (.ref b), .val (.int (Int32.ofNat o)), .val (.int (Int32.ofNat len)), .val .null, .val (.ref s.heap.size)] [.int (Int32.ofNat N.slots.size), .ref s.heap.size, .ref a])) rfl (by rw [hml]; rfl) c10 (argsL := [.ref s.heap.size, .int (Int32.ofNat N.slots.size)]) (rest := [.ref a]) rfl rfl (by show 2 * 0 + (1 + 0) ≤ _; decide) (hb hbytes d45) (⟨rfl, n1⟩)
  obtain ⟨rfl, q11⟩ := E11
  have hB11 := hB1.mv (X8.warmed.alike.symm.trans X11.warmed.alike) q11
  have c12 : Steps p.tables e below (s₁.setTop (entryFrame m #[.ref a, .ref b, .int (Int32.ofNat o), .int (Int32.ofNat len), .null] 6)) (T11.setTop (mkF m 48 #[.val (.ref a), .val (.ref b), .val (.int (Int32.ofNat o)), .val (.int (Int32.ofNat len)), .val .null, .val (.ref s.heap.size)] [.int 0, .ref a])) := g11
  obtain ⟨T13, X13, p13, bl13, sl13, st13⟩ := X11.finit hexec hown (wk W (.fieldLink "java/lang/String" 15 "java/lang/String" "coder" "B")) (Or.inr ⟨_, (wk W (.laysFinal "java/lang/String" "java/lang/String" "coder" "B"))⟩) (Or.inl ⟨rfl, hnm⟩) f2 (Or.inl rfl) hB11 (t := .byte) (by decide +kernel) rfl (g := (mkF m 48 #[.val (.ref a), .val (.ref b), .val (.int (Int32.ofNat o)), .val (.int (Int32.ofNat len)), .val .null, .val (.ref s.heap.size)] [.int 0, .ref a])) rfl (rest := []) rfl (hb hbytes d48)
  have c14 : Steps p.tables e below (s₁.setTop (entryFrame m #[.ref a, .ref b, .int (Int32.ofNat o), .int (Int32.ofNat len), .null] 6)) (T13.setTop (mkF m 54 #[.val (.ref a), .val (.ref b), .val (.int (Int32.ofNat o)), .val (.int (Int32.ofNat len)), .val .null, .val (.ref s.heap.size)] [.ref s.heap.size, .ref a])) := (c12.trans (st13 _ (Steps.refl _))).trans (by
    refine XS.aloadN X13.here hexec rfl (hb hbytes d51) rfl rfl ?_
    refine XS.aload X13.here hexec rfl (hb hbytes d52) rfl rfl ?_
    exact Steps.refl _)
  obtain ⟨T15, X15, p15, bl15, sl15, st15⟩ := X13.finit hexec hown (wk W (.fieldLink "java/lang/String" 9 "java/lang/String" "value" "[B")) (Or.inr ⟨_, (wk W (.laysFinal "java/lang/String" "java/lang/String" "value" "[B"))⟩) (Or.inl ⟨rfl, hnm⟩) f1 (Or.inl rfl) bl13 (t := (.array .byte)) (by decide +kernel) rfl (g := (mkF m 54 #[.val (.ref a), .val (.ref b), .val (.int (Int32.ofNat o)), .val (.int (Int32.ofNat len)), .val .null, .val (.ref s.heap.size)] [.ref s.heap.size, .ref a])) rfl (rest := []) rfl (hb hbytes d54)
  have c16 : Steps p.tables e below (s₁.setTop (entryFrame m #[.ref a, .ref b, .int (Int32.ofNat o), .int (Int32.ofNat len), .null] 6)) (T15.setTop (mkF m 57 #[.val (.ref a), .val (.ref b), .val (.int (Int32.ofNat o)), .val (.int (Int32.ofNat len)), .val .null, .val (.ref s.heap.size)] [])) := c14.trans (st15 _ (Steps.refl _))
  have ap := apart (Or.inr ⟨_, (wk W (.laysFinal "java/lang/String" "java/lang/String" "value" "[B"))⟩) (Or.inr ⟨_, (wk W (.laysFinal "java/lang/String" "java/lang/String" "coder" "B"))⟩) f1 f2 (t₁ := .array .byte) (t₂ := .byte) (by decide +kernel) (by decide +kernel) (by decide)
  have al := X8.warmed.alike.symm.trans X15.warmed.alike
  have n7 : T11.heap[s.heap.size]? = some N := by rw [q11]; exact n1.1
  exact ⟨T15, none, _, _, _, X15, by simp, rfl, by omega, (fun _ => rfl), ⟨rfl, _, N, bl15, ((Same.refl D _).set _ (by simp)).set _ (by simp), sl15, (Cell.slots_setSlot_ne _ ap).trans sl13, n1.keep al (p15.other hne (p13.other hne n7)), n2, by rw [al.findClass]; exact n3, n4, n5, fun y c h1 h2 => p15.other h1 (p13.other h1 (by rw [q11]; exact n6 y c h2)), by rw [p15.2.2, p13.2.2, q11]; exact z8⟩, fun fs hl => c16.trans (X15.returnOut hexec hret (hb hbytes d57) hl)⟩
end New4
namespace New1
def yN : MethodName := ⟨"java/lang/String", "<init>", "([C)V"⟩
abbrev yB : ByteArray := jdk_42_method_3_code
theorem d0 : decode yB 0 = .ok (.aload_n 0, 1) := by decide +kernel
theorem d1 : decode yB 1 = .ok (.aload_n 1, 1) := by decide +kernel
theorem d2 : decode yB 2 = .ok (.iconst 0, 1) := by decide +kernel
theorem d3 : decode yB 3 = .ok (.aload_n 1, 1) := by decide +kernel
theorem d4 : decode yB 4 = .ok (.arraylength, 1) := by decide +kernel
theorem d5 : decode yB 5 = .ok (.aconst_null, 1) := by decide +kernel
theorem d6 : decode yB 6 = .ok (.invokespecial 27, 3) := by decide +kernel
theorem d9 : decode yB 9 = .ok (.return_, 1) := by decide +kernel
def site : List Cond := [New4.tab] ++ initW "java/lang/String" 27 New4.yN
def tab : Cond := tabOf yN yB 2 none site
def P (a : Addr) (D : Cell) (fV fC : Field) (b : Addr) (A : Cell) (z : Int32) (args : Array Value) (s : State) : Prop := args = #[.ref a, .ref b] ∧ Blank "java/lang/String" a D s ∧ Found "java/lang/String" "value" "[B" fV s ∧ Found "java/lang/String" "coder" "B" fC s ∧ Ch b A s ∧ StaticIs s "java/lang/String" "COMPACT_STRINGS" "Z" (.int z) ∧ ¬ z = 0 ∧ 0 < A.slots.size ∧ A.slots.size ≤ 536870912 ∧ ∀ i, i < A.slots.size → ¬ 255 < cv A i
def E (a : Addr) (D : Cell) (fV fC : Field) (A : Cell) (r : Option Value) (s u : State) : Prop := Got a D fV fC A 0 A.slots.size r s u
/-- new String(chars), not empty, no char above 255: a Latin-1 String of their low bytes -/
theorem law (l : Launch) (a : Addr) (D : Cell) (fV fC : Field) (b : Addr) (A : Cell) (z : Int32) : Law l yN 2 1 3 52 yB 2 none site (P a D fV fC b A z) (E a D fV fC A) [⟨a, fC.slot⟩, ⟨a, fV.slot⟩] 1 A.slots.size := by
  refine Law.of_walk (plainFor_of_name (by decide +kernel)) (by decide +kernel) (by decide +kernel) (by decide) (fun _ _ h => by rw [h.1]; rfl) (fun _ U U' hal hh h => ⟨h.1, h.2.1.mv hal hh, h.2.2.1.al hal, h.2.2.2.1.al hal, h.2.2.2.2.1.mv hal hh, h.2.2.2.2.2.1.there hal hh, h.2.2.2.2.2.2⟩) (fun r U U' V V' h1 hal h2 h => Got.mv r U U' V V' h1 hal h2 h) ?_
  intro p e s m args below meth c s₁ X0 hexec hbytes hml hret hlk hnm hown hh0 W hP
  obtain ⟨rfl, hB, f1, f2, hA, s1, hz, l0, l2, hp⟩ := hP
  have c1 : Steps p.tables e below (s₁.setTop (entryFrame m #[.ref a, .ref b] 2)) (s₁.setTop (mkF m 0 #[.val (.ref a), .val (.ref b)] [])) := entry rfl
  have c2 : Steps p.tables e below (s₁.setTop (entryFrame m #[.ref a, .ref b] 2)) (s₁.setTop (mkF m 6 #[.val (.ref a), .val (.ref b)] [.null, .int (Int32.ofNat A.slots.size), .int 0, .ref b, .ref a])) := c1.trans (by
    refine XS.aloadN X0.here hexec rfl (hb hbytes d0) rfl rfl ?_
    refine XS.aloadN X0.here hexec rfl (hb hbytes d1) rfl rfl ?_
    refine iconstV X0.here hexec rfl 0 (hb hbytes d2) (by decide) ?_
    refine XS.aloadN X0.here hexec rfl (hb hbytes d3) rfl rfl ?_
    refine X0.alen hexec (hA.1.mv X0.warmed.alike hh0) rfl rfl (hb hbytes d4) ?_
    refine XS.aconstNull X0.here hexec rfl (hb hbytes d5) ?_
    exact Steps.refl _)
  obtain ⟨v3, T3, X3, E3, g3⟩ := X0.callN hexec (New4.law l a D fV fC b A z 0 A.slots.size) rfl hown (wks W (initW "java/lang/String" 27 New4.yN)) (W New4.tab (by simp only [site, List.mem_cons, List.mem_append, true_or, or_true])) (W := 0) (Nat.le_of_ble_eq_true rfl) (Nat.le_of_ble_eq_true rfl) (Nat.le_refl _) (by show 0 + A.slots.size ≤ A.slots.size; omega) (g := (mkF m 6 #[.val (.ref a), .val (.ref b)] [.null, .int (Int32.ofNat A.slots.size), .int (Int32.ofNat 0), .ref b, .ref a])) rfl (by rw [hml]; rfl) c2 (argsL := [.ref b, .int (Int32.ofNat 0), .int (Int32.ofNat A.slots.size), .null]) (rest := []) rfl rfl (by show 2 * 0 + 0 ≤ _; decide) (hb hbytes d6) (⟨rfl, hB.mv X0.warmed.alike hh0, f1.al X0.warmed.alike, f2.al X0.warmed.alike, hA.mv X0.warmed.alike hh0, s1.there X0.warmed.alike hh0, hz, l0, by omega, l2, fun i hi => by rw [Nat.zero_add]; exact hp i hi⟩)
  have e0 := Got.mv _ s₁ s _ _ hh0.symm (Vm.Alike.refl _) rfl E3
  obtain rfl := e0.1
  have c4 : Steps p.tables e below (s₁.setTop (entryFrame m #[.ref a, .ref b] 2)) (T3.setTop (mkF m 9 #[.val (.ref a), .val (.ref b)] [])) := g3
  exact ⟨T3, none, _, _, _, X3, by simp, rfl, by omega, (fun _ => rfl), e0, fun fs hl => c4.trans (X3.returnOut hexec hret (hb hbytes d9) hl)⟩
theorem pays {l : Launch} {R : Room} {p : Program} {e : Env} {below : List Frame} {s : State} {sargs : Array Value} {len W : Nat} (a : Addr) (D : Cell) (fV fC : Field) (b : Addr) (A : Cell) (z : Int32) (htab : tab.before sargs s = true) (hfr : 4 ≤ R.frames) (hlo : W + 65 ≤ R.locals) :
    Back l R p e below s sargs yN len W (fun A₁ a₁ => A₁.cells + 1 ≤ R.cells ∧ A₁.slots + A.slots.size ≤ R.slots ∧ P a D fV fC b A z a₁ A₁.U) (fun A₁ _ v₁ B₁ => E a D fV fC A v₁ A₁.U B₁.U ∧ B₁.locs = A₁.locs ++ [⟨a, fC.slot⟩, ⟨a, fV.slot⟩] ∧ B₁.cells = A₁.cells + 1 ∧ B₁.slots = A₁.slots + A.slots.size) :=
  (law l a D fV fC b A z).pays htab hfr (by omega)
end New1
/-- the byte, read back as charAt reads it, is the char -/
theorem lo8_mask {x : Int32} (h0 : ¬ x < 0) (h1 : ¬ 255 < x) : lo8 x &&& 255 = x := by
  have t : ∀ k : Fin 256, lo8 (Int32.ofNat k.val) &&& 255 = Int32.ofNat k.val := by decide +kernel
  rw [Int32.lt_iff_toInt_lt] at h0 h1
  have e0 : (0 : Int32).toInt = 0 := rfl
  have e1 : (255 : Int32).toInt = 255 := rfl
  obtain ⟨k, hk⟩ : ∃ k : Nat, x.toInt = k := ⟨x.toInt.toNat, by omega⟩
  have hx : x = Int32.ofNat k := Int32.toInt_inj.mp (by rw [hk, Int32.toInt_ofNat_small (by omega)])
  rw [hx]
  exact t ⟨k, by omega⟩
end StrChars
namespace StrChars.Road
open Jvm Sem ClassFile Op Lib Jvm.Stand Jvm.Free Jvm.Free.XT
open Jvm.Lib.Cold (StaticIs)
abbrev ST : String := "java/lang/String"
/-- every table word that New1's law asks, flat -/
abbrev words : List Jvm.Cond := [.code New1.yN New1.yB 2 none, .initialized ST, .methodLink ST 27 New4.yN, .instanceMethod New4.yN,
  .code New4.yN New4.yB 6 none, .fieldLink ST 38 ST "COMPACT_STRINGS" "Z", .laysFinal ST ST "value" "[B", .fieldLink ST 9 ST "value" "[B", .laysFinal ST ST "coder" "B", .fieldLink ST 15 ST "coder" "B",
  .methodLink ST 1 Lib.objectInit, .instanceMethod Lib.objectInit, .code Lib.objectInit ⟨#[0xb1]⟩ 1 none, .methodLink ST 177 Cmp3.yN, .static Cmp3.yN, .methodLink ST 47 CodL.yN, .static CodL.yN,
  .code Cmp3.yN Cmp3.yB 6 (some (.array .byte)), .initialized U16, .arrayClass .byte, .methodLink U16 115 Cmp5.yN, .static Cmp5.yN, .code Cmp5.yN Cmp5.yB 7 (some .int), .code CodL.yN CodL.yB 2 (some .byte)]
theorem tab_of {a : Array Value} {s : State} (h : ∀ w ∈ words, w.before a s = true) : New1.tab.before a s = true := by
  have h5 : Cmp5.tab.before a s = true := unparts (wk h (.code Cmp5.yN Cmp5.yB 7 (some .int))) (wks h (.initialized Cmp5.yN.cls :: Cmp5.site))
  have hc : CodL.tab.before a s = true := unparts (wk h (.code CodL.yN CodL.yB 2 (some .byte))) (wks h (.initialized CodL.yN.cls :: CodL.site))
  have q5 : ∀ w ∈ Cmp5.tab :: words, w.before a s = true := fun w hw => (List.mem_cons.mp hw).elim (fun e => e ▸ h5) (h w)
  have h3 : Cmp3.tab.before a s = true := unparts (wk q5 (.code Cmp3.yN Cmp3.yB 6 (some (.array .byte)))) (wks q5 (.initialized Cmp3.yN.cls :: Cmp3.site))
  have q3 : ∀ w ∈ Cmp3.tab :: CodL.tab :: words, w.before a s = true := fun w hw => (List.mem_cons.mp hw).elim (fun e => e ▸ h3) fun hw => (List.mem_cons.mp hw).elim (fun e => e ▸ hc) (h w)
  have h4 : New4.tab.before a s = true := unparts (wk q3 (.code New4.yN New4.yB 6 none)) (wks q3 (.initialized New4.yN.cls :: New4.site))
  have q4 : ∀ w ∈ New4.tab :: words, w.before a s = true := fun w hw => (List.mem_cons.mp hw).elim (fun e => e ▸ h4) (h w)
  exact unparts (wk q4 (.code New1.yN New1.yB 2 none)) (wks q4 (.initialized New1.yN.cls :: New1.site))
/-- the words ride from the start Z to the walk's own state -/
theorem moved {Z s : State} {a0 args : Array Value} (hZ : Z.Warmed39 s.vm) (hw : ∀ d ∈ words, d.before a0 Z = true) : ∀ d ∈ words, d.before args s = true := fun d hd => by
  have q := hw d hd
  have t : ∀ d ∈ words, d = .arrayClass .byte ∨ (d.onTables && d.keepsFace) = true := by decide +kernel
  rcases t d hd with rfl | t
  · exact RoadKit.mvA hZ q
  · exact RoadKit.mv hZ q t
/-- WHAT COMES BACK, over the tables of the start Z: h the heap at the call, h' behind it -/
def Q (Z : State) (x : Addr) (A : Cell) (h : Heap) (v : Option Value) (h' : Heap) (L : List Loc) : Prop := v = none ∧ (∀ y ∈ L, y.base = x) ∧ RoadKit.Keep h h' [x] ∧ h'.size = h.size + 1 ∧ RoadKit.Exa Z h' x ST ∧ RoadKit.Fld Z h' x ST "value" "[B" (.ref h.size) ∧ RoadKit.Fld Z h' x ST "coder" "B" (.int 0) ∧
  (∃ V : Cell, RoadKit.Arr Z h' h.size V .byte ∧ V.vm = .none ∧ Z.vm.findClass "[B" = some V.cls ∧ V.slots.size = A.slots.size ∧ ∀ j, j < A.slots.size → V.slots[j]? = some (.int (lo8 (cv A j)))) ∧
  ∀ (O n d : String) (w : Value), RoadKit.Fld Z h x O n d w → RoadKit.slotOf Z O n d ≠ RoadKit.slotOf Z ST "value" "[B" → RoadKit.slotOf Z O n d ≠ RoadKit.slotOf Z ST "coder" "B" → RoadKit.Fld Z h' x O n d w
/-- **new String(chars) AT A CALL, IN THE ROAD'S FORM**: for specialBack behind newO: x the fresh String, b the char[] with the cell A -/
theorem back {p : Program} {l : Launch} {e : Env} {R : Room} {s : State} {args : Array Value} {below : List Frame} {len W : Nat} {Z : State} {a0 : Array Value} {h : Heap} (hZ : Z.Warmed39 s.vm) (hw : ∀ d ∈ words, d.before a0 Z = true) {kI : Nat} (wi : (Jvm.Cond.instantiable ST kI).before a0 Z = true)
    {x b : Addr} {A : Cell} {z : Int32} {v0 c0 : Value} (E : RoadKit.Exa Z h x ST) (V : RoadKit.Fld Z h x ST "value" "[B" v0) (C : RoadKit.Fld Z h x ST "coder" "B" c0) (K : RoadKit.Arr Z h b A .char) (hty : Typed .char A) (S : RoadKit.Sta Z h ST "COMPACT_STRINGS" "Z" (.int z)) (hz : ¬ z = 0)
    (l0 : 0 < A.slots.size) (l2 : A.slots.size ≤ 536870912) (hp : ∀ i, i < A.slots.size → ¬ 255 < cv A i) (hfr : 4 ≤ R.frames) (hlo : W + 65 ≤ R.locals) :
    Back l R p e below s args New1.yN len W (fun P a => a = #[.ref x, .ref b] ∧ P.U.heap = h ∧ P.cells + 1 ≤ R.cells ∧ P.slots + A.slots.size ≤ R.slots)
      (fun P _ v B => ∃ L, Q Z x A h v B.U.heap L ∧ B.locs = P.locs ++ L ∧ B.cells = P.cells + 1 ∧ B.slots = P.slots + A.slots.size) := by
  intro m meth c P g ig mk a X hg hsize hdg hW hn hp'
  obtain ⟨rfl, rfl, r1, r2⟩ := hp'
  have al : Z.vm.Alike P.U.vm := hZ.alike.trans X.warmed.alike
  obtain ⟨D, cfV, kV, iV, fV, hD, gV, stV, knV, obV, asV, slV⟩ := id V
  obtain ⟨D', cfC, kC, iC, fC, hD', gC, stC, -, -, asC, slC⟩ := id C
  cases hD.symm.trans hD'
  obtain ⟨D2, kD, e1, e2, e3, e4, e5⟩ := id E
  cases hD.symm.trans e1
  obtain ⟨c2, k2, i1, i2, i3, -⟩ := Cond.instantiable_spec wi
  cases e2.symm.trans i1
  cases e3.symm.trans i2
  obtain ⟨kU, u1, u2⟩ := al.2.2 _ _ e3
  have hB : Blank ST x D P.U := ⟨hD, ⟨knV, fun q hq => by rw [hq] at obV; cases obV⟩, by rw [al.findClass]; exact e2, kU, u1, by rw [u2]; exact i3, by rw [u2]; exact e5 i3⟩
  have F1 : Found ST "value" "[B" fV P.U := ⟨SBG.found_only al ⟨cfV, kV, iV, gV⟩, stV⟩
  have F2 : Found ST "coder" "B" fC P.U := ⟨SBG.found_only al ⟨cfC, kC, iC, gC⟩, stC⟩
  have hA : Ch b A P.U := ⟨⟨K.1, State.isArrayOf_alike al K.2.1, K.2.2, by omega⟩, hty⟩
  have hS : StaticIs P.U ST "COMPACT_STRINGS" "Z" (.int z) := by
    obtain ⟨cfS, iS, kS, fS, st, cS, t1, t2, t3, t4, t5, t6, t7⟩ := S
    exact StaticIs.there (s := { Z with heap := P.U.heap }) ⟨cfS, iS, kS, fS, st, cS, t1, t2, t3, t4, t5, (fun q => by rw [q] at t6; cases t6), t7⟩ al rfl
  obtain ⟨v, B, X', ⟨⟨hv, E', V', q1, q2, q3, q4, q5, q6, q7, q8, q9, q10, q11⟩, hl, hc, hs⟩, st⟩ := New1.pays x D fV fC b A z (tab_of (moved hZ hw)) hfr hlo m meth c P g ig mk _ X hg hsize hdg hW hn ⟨r1, r2, rfl, hB, F1, F2, hA, hS, hz, l0, l2, hp⟩
  have al' : Z.vm.Alike B.U.vm := hZ.alike.trans X'.warmed.alike
  have hsz : E'.slots.size = D.slots.size := by
    obtain ⟨-, -, -, kB, w1, w2, w3⟩ := q1
    obtain ⟨kB', y1, y2⟩ := al'.2.2 _ _ e3
    rw [q2.2.1] at w1
    cases w1.symm.trans y1
    rw [w3, e5 i3, y2]
  refine ⟨v, B, X', ⟨_, ⟨hv, ?_, ⟨by omega, fun y cy hy hn' => q10 y cy (by simpa using hn') hy, fun y cy hy => ?_⟩, q11, ⟨E', _, q1.1, by rw [q2.2.1]; exact e2, by rw [q2.2.1]; exact e3, by rw [q2.1]; exact obV, fun _ => by rw [hsz]; exact e5 i3⟩,
    ⟨E', cfV, kV, iV, fV, q1.1, gV, stV, by rw [q2.1]; exact knV, by rw [q2.1]; exact obV, by rw [q2.2.1]; exact asV, q3⟩, ⟨E', cfC, kC, iC, fC, q1.1, gC, stC, by rw [q2.1]; exact knV, by rw [q2.1]; exact obV, by rw [q2.2.1]; exact asC, q4⟩,
    ⟨V', ⟨q5.1, State.isArrayOf_alike al'.symm q5.2.1, q5.2.2.1⟩, q6, by rw [← al'.findClass]; exact q7, q8, fun j hj => by have := q9 j hj; rwa [Nat.zero_add] at this⟩, fun O n d w F n1 n2 => ?_⟩, hl, hc, hs⟩, st⟩
  · intro y hy
    simp only [List.mem_cons, List.not_mem_nil, or_false] at hy
    rcases hy with rfl | rfl <;> rfl
  · by_cases q : y = x
    · subst q
      cases hD.symm.trans hy
      exact ⟨E', q1.1, q2.2.1, q2.1, hsz⟩
    · exact ⟨cy, q10 y cy q hy, rfl, rfl, rfl⟩
  · obtain ⟨D3, cf, k, i, f, g1, g2, g3, g4, g5, g6, g7⟩ := F
    cases hD.symm.trans g1
    simp only [RoadKit.slotOf, g2, gV, gC, Option.map_some, Option.getD_some] at n1 n2
    exact ⟨E', cf, k, i, f, q1.1, g2, g3, by rw [q2.1]; exact g4, by rw [q2.1]; exact g5, by rw [q2.2.1]; exact g6, by rw [q2.2.2 f.slot (by simp [n1, n2])]; exact g7⟩
end StrChars.Road
namespace StrChars.Road
open Jvm Sem ClassFile Op Lib Jvm.Stand Jvm.Free Jvm.Free.XT
/-- WHAT COMES BACK, the byte[] as a list of values -/
def QA (Z : State) (x : Addr) (zn : Int32) (cs : List Int32) (h : Heap) (v : Option Value) (h' : Heap) (L : List Loc) : Prop := v = none ∧ (∀ y ∈ L, y.base = x) ∧ RoadKit.Keep h h' [x] ∧ h'.size = h.size + 1 ∧ RoadKit.Exa Z h' x ST ∧ RoadKit.Fld Z h' x ST "value" "[B" (.ref h.size) ∧ RoadKit.Fld Z h' x ST "coder" "B" (.int 0) ∧
  (∃ kb, Z.vm.findClass "[B" = some kb ∧ RoadKit.Arv Z h' h.size kb .byte zn (cs.map fun c => .int (lo8 c)) (.int 0)) ∧
  ∀ (O n d : String) (w : Value), RoadKit.Fld Z h x O n d w → RoadKit.slotOf Z O n d ≠ RoadKit.slotOf Z ST "value" "[B" → RoadKit.slotOf Z O n d ≠ RoadKit.slotOf Z ST "coder" "B" → RoadKit.Fld Z h' x O n d w
/-- **new String(chars) AT A CALL, THE ARRAYS AS LISTS**: the char[] at b holds cs, not empty, no char above 255 -/
theorem backArv {p : Program} {l : Launch} {e : Env} {R : Room} {s : State} {args : Array Value} {below : List Frame} {len W : Nat} {Z : State} {a0 : Array Value} {h : Heap} (hZ : Z.Warmed39 s.vm) (hw : ∀ d ∈ words, d.before a0 Z = true) {kI : Nat} (wi : (Jvm.Cond.instantiable ST kI).before a0 Z = true)
    {x b : Addr} {k : ClassId} {zn z : Int32} {cs : List Int32} {dv v0 c0 : Value} (E : RoadKit.Exa Z h x ST) (V : RoadKit.Fld Z h x ST "value" "[B" v0) (C : RoadKit.Fld Z h x ST "coder" "B" c0) (K : RoadKit.Arv Z h b k .char zn (cs.map Value.int) dv) (S : RoadKit.Sta Z h ST "COMPACT_STRINGS" "Z" (.int z)) (hz : ¬ z = 0)
    (hlen : zn.toNatClampNeg = cs.length) (h0 : 0 < cs.length) (hbig : cs.length ≤ 536870912) (hall : ∀ c ∈ cs, ¬ 255 < c) (hfr : 4 ≤ R.frames) (hlo : W + 65 ≤ R.locals) :
    Back l R p e below s args New1.yN len W (fun P a => a = #[.ref x, .ref b] ∧ P.U.heap = h ∧ P.cells + 1 ≤ R.cells ∧ P.slots + cs.length ≤ R.slots)
      (fun P _ v B => ∃ L, QA Z x zn cs h v B.U.heap L ∧ B.locs = P.locs ++ L ∧ B.cells = P.cells + 1 ∧ B.slots = P.slots + cs.length) := by
  obtain ⟨A, K1, K2, K3, K4, K5, K6⟩ := K
  have e : A.slots.size = cs.length := K3.trans hlen
  have hat : ∀ (i : Nat) (hi : i < cs.length), A.slots[i]? = some (.int cs[i]) := fun i hi => by rw [K5 i (by omega)]; simp [List.getD_eq_getElem?_getD, hi]
  have hcv : ∀ (i : Nat) (hi : i < cs.length), cv A i = cs[i] := fun i hi => by unfold cv; rw [hat i hi]
  have hty : Typed .char A := fun i v hv => by
    have hi : i < A.slots.size := (Array.getElem?_eq_some_iff.mp hv).1
    have q := K5 i hi
    rw [hv] at q
    rw [Option.some.inj q]
    exact K6 i hi
  refine Back.mono (back hZ hw wi E V C K1 hty S hz (by omega) (by omega) (fun i hi => by rw [hcv i (by omega)]; exact hall _ (List.getElem_mem _)) hfr hlo) (fun P a hp => ⟨hp.1, hp.2.1, hp.2.2.1, by rw [e]; exact hp.2.2.2⟩) (fun P a v B hp hq => ?_)
  obtain ⟨L, ⟨q1, q2, q3, q4, q5, q6, q7, ⟨V', v1, v2, v3, v4, v5⟩, q9⟩, hl, hc, hs⟩ := hq
  refine ⟨L, ⟨q1, q2, q3, q4, q5, q6, q7, ⟨V'.cls, v3, V', v1, rfl, by rw [v4, e, hlen], K4, fun i hi => ?_, fun i hi => ?_⟩, q9⟩, hl, hc, by rw [hs, e]⟩
  · have hi' : i < cs.length := by omega
    rw [v5 i (by omega), hcv i hi']; simp [List.getD_eq_getElem?_getD, hi']
  · have hi' : i < cs.length := by omega
    simp only [List.getD_eq_getElem?_getD, List.getElem?_map, List.getElem?_eq_getElem hi', Option.map_some, Option.getD_some]
    exact fits_lo8 _
end StrChars.Road
namespace StrChars.Road
open Jvm Sem ClassFile Op Lib Jvm.Stand Jvm.Free Jvm.Free.XT
/-- WHAT COMES BACK, in the writer's own shape -/
def QV (Z : State) (x : Addr) (N : Int32) (bs : List Int32) (h : Heap) (n0 : Nat) (v : Option Value) (h' : Heap) (L : List Loc) : Prop := v = none ∧ RoadKit.Fr n0 L ∧ RoadKit.Keep h h' [x] ∧ RoadKit.Exa Z h' x ST ∧ RoadKit.Fld Z h' x ST "coder" "B" (.int 0) ∧
  ∃ (t : Addr) (kb : ClassId), n0 ≤ t ∧ h.size ≤ t ∧ ¬ t = x ∧ RoadKit.Fld Z h' x ST "value" "[B" (.ref t) ∧ RoadKit.Arv Z h' t kb .byte N (bs.map Value.int) (.int 0)
/-- **new String(chars) AT A CALL, FOR THE WRITER**: a char[] of n known ints, each 0 to 255 -/
theorem backV {p : Program} {l : Launch} {e : Env} {R : Room} {s : State} {args : Array Value} {below : List Frame} {len W : Nat} {Z : State} {a0 : Array Value} {h : Heap} (hZ : Z.Warmed39 s.vm) (hw : ∀ d ∈ words, d.before a0 Z = true) {kI : Nat} (wi : (Jvm.Cond.instantiable ST kI).before a0 Z = true)
    {x b : Addr} {kC : ClassId} {cs bs : List Int32} {d v0 c0 : Value} {z N : Int32} {n n0 : Nat} (hx0 : n0 ≤ x) (hh0 : n0 ≤ h.size) (E : RoadKit.Exa Z h x ST) (V : RoadKit.Fld Z h x ST "value" "[B" v0) (C : RoadKit.Fld Z h x ST "coder" "B" c0) (K : RoadKit.Arv Z h b kC .char N (cs.map Value.int) d) (S : RoadKit.Sta Z h ST "COMPACT_STRINGS" "Z" (.int z)) (hz : ¬ z = 0)
    (hn : cs.length = n) (hN : N = Int32.ofNat n) (l0 : 0 < n) (l2 : n ≤ 4000) (hp : ∀ c ∈ cs, ¬ c < 0 ∧ ¬ (255 : Int32) < c) (hb : bs = cs.map (fun c => c.toInt8.toInt32)) (hfr : 4 ≤ R.frames) (hlo : W + 65 ≤ R.locals) :
    Back l R p e below s args (⟨"java/lang/String", "<init>", "([C)V"⟩ : MethodName) len W (fun P a => a = #[.ref x, .ref b] ∧ P.U.heap = h ∧ P.cells + 1 ≤ R.cells ∧ P.slots + n ≤ R.slots)
      (fun P _ v B => ∃ L, QV Z x N bs h n0 v B.U.heap L ∧ B.locs = P.locs ++ L ∧ B.cells = P.cells + 1 ∧ B.slots = P.slots + n) := by
  subst hn hN hb
  refine Back.mono (backArv hZ hw wi E V C K S hz (n32 (by omega)) l0 (by omega) (fun c hc => (hp c hc).2) hfr hlo) (fun P a hp => hp) (fun P a v B hp hq => ?_)
  obtain ⟨L, ⟨q1, q2, q3, q4, q5, q6, q7, ⟨kb, v1, v2⟩, q9⟩, hl, hc, hs⟩ := hq
  exact ⟨L, ⟨q1, fun y hy => by rw [q2 y hy]; exact hx0, q3, q5, q7, h.size, kb, hh0, Nat.le_refl _, Nat.ne_of_gt E.lt, q6, by rw [List.map_map]; exact v2⟩, hl, hc, hs⟩
end StrChars.Road
namespace StrChars
open Jvm Sem ClassFile Op Lib Jvm.Stand Jvm.Free.XT Jvm.Free.ALB Jvm.Free.JM Jvm.Free
open Jvm.Lib.Cold (StaticIs)
def hi8 (x : Int32) : Int32 := lo8 (x >>> ((8 : Int32) &&& 31))
/-- what StringUTF16.getChar makes of two bytes -/
def pairCh (u v : Int32) : Int32 := (((u &&& 255) <<< ((0 : Int32) &&& 31)) ||| ((v &&& 255) <<< ((8 : Int32) &&& 31))).toUInt32.toUInt16.toUInt32.toInt32
theorem lo8_and (x : Int32) : (lo8 x &&& 255).toBitVec.toNat = x.toBitVec.toNat % 256 := by
  have h : (lo8 x).toBitVec = (x.toBitVec.signExtend 8).signExtend 32 := by rw [lo8, Int8.toBitVec_toInt32, Int32.toBitVec_toInt8]
  rw [Int32.toBitVec_and, BitVec.toNat_and, h]
  have e : ((x.toBitVec.signExtend 8).signExtend 32).toNat % 256 = x.toBitVec.toNat % 256 := by
    rw [BitVec.toNat_signExtend]
    have hlt := x.toBitVec.isLt
    simp only [BitVec.toNat_setWidth, BitVec.toNat_signExtend]
    split <;> split <;> omega
  rw [← e]
  exact Nat.and_two_pow_sub_one_eq_mod _ 8
theorem pair_says {c : Int32} (h0 : ¬ c < 0) (h1 : ¬ 65535 < c) : pairCh (lo8 c) (hi8 c) = c := by
  rw [Int32.lt_iff_toInt_lt] at h0 h1
  have e0 : (0 : Int32).toInt = 0 := rfl
  have e1 : (65535 : Int32).toInt = 65535 := rfl
  have hc : c.toInt = c.toBitVec.toNat := by
    have := c.toBitVec.isLt
    have e : c.toInt = c.toBitVec.toInt := rfl
    rw [e] at h0 h1
    rw [e]
    rw [BitVec.toInt_eq_toNat_cond] at h0 h1 ⊢
    split at h0 <;> split <;> omega
  have hn : c.toBitVec.toNat < 65536 := by omega
  have a1 := lo8_and c
  have a2 : (hi8 c &&& 255).toBitVec.toNat = c.toBitVec.toNat / 256 := by
    rw [hi8, lo8_and]
    have e : ((8 : Int32) &&& 31) = 8 := by decide
    rw [e, Int32.toBitVec_shiftRight]
    have e2 : ((8 : Int32).toBitVec.smod 32) = 8#32 := by decide
    rw [e2, BitVec.sshiftRight_eq', BitVec.toNat_sshiftRight_of_msb_false (by rw [BitVec.msb_eq_false_iff_two_mul_lt]; omega)]
    show c.toBitVec.toNat >>> 8 % 256 = _
    rw [Nat.shiftRight_eq_div_pow]
    omega
  unfold pairCh
  apply Int32.toBitVec_inj.mp
  apply BitVec.eq_of_toNat_eq
  have f0 : ((0 : Int32) &&& 31) = 0 := by decide
  have f8 : ((8 : Int32) &&& 31) = 8 := by decide
  rw [f0, f8]
  have g : (((lo8 c &&& 255) <<< (0 : Int32)) ||| ((hi8 c &&& 255) <<< (8 : Int32))).toBitVec.toNat = c.toBitVec.toNat := by
    rw [Int32.toBitVec_or, Int32.toBitVec_shiftLeft, Int32.toBitVec_shiftLeft]
    have s0 : ((0 : Int32).toBitVec.smod 32) = 0#32 := by decide
    have s8 : ((8 : Int32).toBitVec.smod 32) = 8#32 := by decide
    rw [s0, s8, BitVec.toNat_or]
    simp only [BitVec.shiftLeft_eq', BitVec.toNat_shiftLeft, a1, a2]
    show (c.toBitVec.toNat % 256) <<< 0 % 2 ^ 32 ||| (c.toBitVec.toNat / 256) <<< 8 % 2 ^ 32 = _
    rw [Nat.shiftLeft_zero, Nat.mod_eq_of_lt (show c.toBitVec.toNat % 256 < 2 ^ 32 by omega), Nat.mod_eq_of_lt (show (c.toBitVec.toNat / 256) <<< 8 < 2 ^ 32 by rw [Nat.shiftLeft_eq]; omega), Nat.or_comm, ← Nat.shiftLeft_add_eq_or_of_lt (by omega), Nat.shiftLeft_eq]
    omega
  show BitVec.toNat (((((lo8 c &&& 255) <<< (0 : Int32)) ||| ((hi8 c &&& 255) <<< (8 : Int32))).toBitVec.setWidth 16).setWidth 32) = _
  rw [BitVec.toNat_setWidth, BitVec.toNat_setWidth, g]
  omega
end StrChars
namespace StrChars
open Jvm Sem ClassFile Op Lib Jvm.Stand Jvm.Free.XT Jvm.Free.ALB Jvm.Free.JM Jvm.Free
open Jvm.Lib.Cold (StaticIs)
/-- the array's cell V codes the n chars f 0 .. f (n - 1) by the coder cd, as the JDK does: coder 1 just where some char is above 255 -/
def Cod (cd : Int32) (n : Nat) (f : Nat → Int32) (V : Cell) : Prop := (cd = 0 ∧ V.slots.size = n ∧ ∀ j, j < n → V.slots[j]? = some (.int (lo8 (f j))) ∧ ¬ 255 < f j) ∨ (cd = 1 ∧ V.slots.size = 2 * n ∧ (∀ j, j < n → V.slots[2 * j]? = some (.int (lo8 (f j))) ∧ V.slots[2 * j + 1]? = some (.int (hi8 (f j)))) ∧ ∃ j, j < n ∧ 255 < f j)
/-- **x is a String of the n chars f 0 .. f (n - 1)**, Latin-1 or UTF-16; its array at t has the cell V -/
def Txt (x t : Addr) (V : Cell) (cd : Int32) (n : Nat) (f : Nat → Int32) (U : State) : Prop := Exact "java/lang/String" x U ∧ Has x "java/lang/String" "value" "[B" (.ref t) U ∧ Has x "java/lang/String" "coder" "B" (.int cd) U ∧ XT.Arr .byte t V U ∧ Cod cd n f V ∧ ∀ j, j < n → ¬ f j < 0 ∧ ¬ 65535 < f j
theorem Txt.mv {x t : Addr} {V : Cell} {cd : Int32} {n : Nat} {f : Nat → Int32} {U U' : State} (h : Txt x t V cd n f U) (hal : U.vm.Alike U'.vm) (hh : U'.heap = U.heap) : Txt x t V cd n f U' := ⟨h.1.mv hal hh, h.2.1.mv hal hh, h.2.2.1.mv hal hh, h.2.2.2.1.mv hal hh, h.2.2.2.2⟩
end StrChars
namespace StrChars.Road
open Jvm Sem ClassFile Op Lib Jvm.Stand Jvm.Free Jvm.Free.XT
open Jvm.Lib.Cold (StaticIs)
theorem consq {a : Array Value} {s : State} {c : Jvm.Cond} {L : List Jvm.Cond} (h0 : c.before a s = true) (h : ∀ w ∈ L, w.before a s = true) : ∀ w ∈ c :: L, w.before a s = true := fun w hw => (List.mem_cons.mp hw).elim (fun e => e ▸ h0) (h w)
/-- the bytes of the chars cs, low before high -/
def wideBytes : List Int32 → List Value
  | [] => []
  | c :: cs => .int (lo8 c) :: .int (hi8 c) :: wideBytes cs
theorem wide_lo (d : Value) : ∀ (cs : List Int32) (j : Nat), j < cs.length → (wideBytes cs).getD (2 * j) d = .int (lo8 (cs.getD j 0))
  | [], j, h => absurd h (Nat.not_lt_zero j)
  | c :: cs, 0, _ => rfl
  | c :: cs, j + 1, h => by
    have q := wide_lo d cs j (by simpa using h)
    rw [show 2 * (j + 1) = 2 * j + 1 + 1 from by omega]
    simpa [wideBytes] using q
theorem wide_hi (d : Value) : ∀ (cs : List Int32) (j : Nat), j < cs.length → (wideBytes cs).getD (2 * j + 1) d = .int (hi8 (cs.getD j 0))
  | [], j, h => absurd h (Nat.not_lt_zero j)
  | c :: cs, 0, _ => rfl
  | c :: cs, j + 1, h => by
    have q := wide_hi d cs j (by simpa using h)
    rw [show 2 * (j + 1) + 1 = 2 * j + 1 + 1 + 1 from by omega]
    simpa [wideBytes] using q
theorem low_at (d : Value) (cs : List Int32) (j : Nat) (h : j < cs.length) : (cs.map fun c => Value.int (lo8 c)).getD j d = .int (lo8 (cs.getD j 0)) := by
  simp [List.getD_eq_getElem?_getD, h]
/-- an array of N2 bytes vs codes the chars cs by the coder cd -/
def CodA (cs : List Int32) (cd N2 : Int32) (vs : List Value) : Prop := (cd = 0 ∧ N2 = Int32.ofNat cs.length ∧ vs = (cs.map fun c => Value.int (lo8 c)) ∧ ∀ c ∈ cs, ¬ 255 < c) ∨ (cd = 1 ∧ N2 = Int32.ofNat (2 * cs.length) ∧ vs = wideBytes cs ∧ ∃ c ∈ cs, 255 < c)
theorem CodA.cod {cs : List Int32} {cd N2 : Int32} {vs : List Value} {V : Cell} (h : CodA cs cd N2 vs) (hn : 2 * cs.length < 2 ^ 31) (hs : V.slots.size = N2.toNatClampNeg) (hv : RoadKit.Has V vs (.int 0)) : Cod cd cs.length (fun j => cs.getD j 0) V := by
  rcases h with ⟨rfl, rfl, rfl, h⟩ | ⟨rfl, rfl, rfl, c, hc, hw⟩
  · rw [n32 (by omega)] at hs
    exact Or.inl ⟨rfl, hs, fun j hj => ⟨by rw [hv j (by omega), low_at _ _ _ hj], by
      have e : cs.getD j 0 = cs[j] := by simp [List.getD_eq_getElem?_getD, hj]
      show ¬ 255 < cs.getD j 0
      rw [e]; exact h _ (List.getElem_mem _)⟩⟩
  · rw [n32 (by omega)] at hs
    obtain ⟨j, hj, rfl⟩ := List.getElem_of_mem hc
    exact Or.inr ⟨rfl, hs, fun j hj => ⟨by rw [hv _ (by omega), wide_lo _ _ _ hj], by rw [hv _ (by omega), wide_hi _ _ _ hj]⟩, j, hj, by
      have e : cs.getD j 0 = cs[j] := by simp [List.getD_eq_getElem?_getD, hj]
      show 255 < cs.getD j 0
      rw [e]; exact hw⟩
/-- an object of exactly java/lang/String, its two fields found: as the laws ask it -/
theorem strObj {Z U : State} {a0 : Array Value} {kI : Nat} (wi : (Jvm.Cond.instantiable ST kI).before a0 Z = true) (al : Z.vm.Alike U.vm) {x : Addr} {v0 c0 : Value} (E : RoadKit.Exa Z U.heap x ST) (V : RoadKit.Fld Z U.heap x ST "value" "[B" v0) (C : RoadKit.Fld Z U.heap x ST "coder" "B" c0) :
    ∃ (D : Cell) (fV fC : Field), Blank ST x D U ∧ Found ST "value" "[B" fV U ∧ Found ST "coder" "B" fC U ∧ D.slots[fV.slot]? = some v0 ∧ D.slots[fC.slot]? = some c0 ∧ RoadKit.slotOf Z ST "value" "[B" = fV.slot ∧ RoadKit.slotOf Z ST "coder" "B" = fC.slot := by
  obtain ⟨D, cfV, kV, iV, fV, hD, gV, stV, knV, obV, asV, slV⟩ := V
  obtain ⟨D', cfC, kC, iC, fC, hD', gC, stC, -, -, asC, slC⟩ := C
  cases hD.symm.trans hD'
  obtain ⟨D2, kD, e1, e2, e3, e4, e5⟩ := E
  cases hD.symm.trans e1
  obtain ⟨c2, k2, i1, i2, i3, -⟩ := Cond.instantiable_spec wi
  cases e2.symm.trans i1
  cases e3.symm.trans i2
  obtain ⟨kU, u1, u2⟩ := al.2.2 _ _ e3
  exact ⟨D, fV, fC, ⟨hD, ⟨knV, fun q hq => by rw [hq] at obV; cases obV⟩, by rw [al.findClass]; exact e2, kU, u1, by rw [u2]; exact i3, by rw [u2]; exact e5 i3⟩, ⟨SBG.found_only al ⟨cfV, kV, iV, gV⟩, stV⟩, ⟨SBG.found_only al ⟨cfC, kC, iC, gC⟩, stC⟩, slV, slC, by simp [RoadKit.slotOf, gV], by simp [RoadKit.slotOf, gC]⟩
theorem sta_is {Z U : State} (al : Z.vm.Alike U.vm) {C n d : String} {v : Value} (S : RoadKit.Sta Z U.heap C n d v) : StaticIs U C n d v := by
  obtain ⟨cfS, iS, kS, fS, st, cS, t1, t2, t3, t4, t5, t6, t7⟩ := S
  exact StaticIs.there (s := { Z with heap := U.heap }) ⟨cfS, iS, kS, fS, st, cS, t1, t2, t3, t4, t5, (fun q => by rw [q] at t6; cases t6), t7⟩ al rfl
end StrChars.Road
namespace StrChars
open Jvm Sem ClassFile Op Lib Jvm.Stand Jvm.Free.XT Jvm.Free.ALB Jvm.Free.JM Jvm.Free
open Jvm.Lib.Cold (StaticIs)
/-- what place i of a byte[]'s cell holds -/
def yv (A : Cell) (i : Nat) : Int32 := match A.slots[i]? with | some (.int x) => x | _ => 0
theorem yv_get {a : Addr} {A : Cell} {U : State} (h : XT.Arr .byte a A U) (ht : Typed .byte A) {i : Nat} (hi : i < A.slots.size) : A.slots[i]? = some (.int (yv A i)) := by
  have e := Array.getElem?_eq_getElem hi
  have f := ht i _ e
  unfold yv; rw [e]
  generalize A.slots[i] = v at f
  cases v <;> simp [fits] at f ⊢
/-- the two arrays are equal, place for place -/
def EqC (A B : Cell) : Prop := A.slots.size = B.slots.size ∧ ∀ i, i < A.slots.size → yv A i = yv B i
/-- a boolean that says whether p -/
def Says01 (q : Prop) (r : Option Value) (s u : State) : Prop := ∃ v : Int32, r = some (.int v) ∧ u.heap = s.heap ∧ ((v = 1 ∧ q) ∨ (v = 0 ∧ ¬ q))
theorem Says01.mv {q : Prop} : ∀ r (U U' V V' : State), U'.heap = U.heap → V.vm.Alike V'.vm → V'.heap = V.heap → Says01 q r U V → Says01 q r U' V' :=
  fun r U U' V V' h1 _ h2 ⟨v, a, b, c⟩ => ⟨v, a, by rw [h1, h2]; exact b, c⟩
namespace LEq
def yN : MethodName := ⟨"java/lang/StringLatin1", "equals", "([B[B)Z"⟩
abbrev yB : ByteArray := jdk_43_method_13_code
theorem d0 : decode yB 0 = .ok (.aload_n 0, 1) := by decide +kernel
theorem d1 : decode yB 1 = .ok (.arraylength, 1) := by decide +kernel
theorem d2 : decode yB 2 = .ok (.aload_n 1, 1) := by decide +kernel
theorem d3 : decode yB 3 = .ok (.arraylength, 1) := by decide +kernel
theorem d4 : decode yB 4 = .ok (.if_icmp (.ne) 30, 3) := by decide +kernel
theorem d7 : decode yB 7 = .ok (.iconst 0, 1) := by decide +kernel
theorem d8 : decode yB 8 = .ok (.istore_n 2, 1) := by decide +kernel
theorem d9 : decode yB 9 = .ok (.iload_n 2, 1) := by decide +kernel
theorem d10 : decode yB 10 = .ok (.aload_n 0, 1) := by decide +kernel
theorem d11 : decode yB 11 = .ok (.arraylength, 1) := by decide +kernel
theorem d12 : decode yB 12 = .ok (.if_icmp (.ge) 20, 3) := by decide +kernel
theorem d15 : decode yB 15 = .ok (.aload_n 0, 1) := by decide +kernel
theorem d16 : decode yB 16 = .ok (.iload_n 2, 1) := by decide +kernel
theorem d17 : decode yB 17 = .ok (.baload, 1) := by decide +kernel
theorem d18 : decode yB 18 = .ok (.aload_n 1, 1) := by decide +kernel
theorem d19 : decode yB 19 = .ok (.iload_n 2, 1) := by decide +kernel
theorem d20 : decode yB 20 = .ok (.baload, 1) := by decide +kernel
theorem d21 : decode yB 21 = .ok (.if_icmp (.eq) 5, 3) := by decide +kernel
theorem d24 : decode yB 24 = .ok (.iconst 0, 1) := by decide +kernel
theorem d25 : decode yB 25 = .ok (.ireturn, 1) := by decide +kernel
theorem d26 : decode yB 26 = .ok (.iinc 2 1, 3) := by decide +kernel
theorem d29 : decode yB 29 = .ok (.goto (-20), 3) := by decide +kernel
theorem d32 : decode yB 32 = .ok (.iconst 1, 1) := by decide +kernel
theorem d33 : decode yB 33 = .ok (.ireturn, 1) := by decide +kernel
theorem d34 : decode yB 34 = .ok (.iconst 0, 1) := by decide +kernel
theorem d35 : decode yB 35 = .ok (.ireturn, 1) := by decide +kernel
def site : List Cond := []
def tab : Cond := tabOf yN yB 3 (some .boolean) site
def P (a : Addr) (A : Cell) (b : Addr) (B : Cell) (args : Array Value) (s : State) : Prop := args = #[.ref a, .ref b] ∧ XT.Arr .byte a A s ∧ Typed .byte A ∧ XT.Arr .byte b B s ∧ Typed .byte B
/-- whether two byte[] are equal, place for place -/
theorem law (l : Launch) (a : Addr) (A : Cell) (b : Addr) (B : Cell) : Law l yN 2 2 0 0 yB 3 (some .boolean) site (P a A b B) (Says01 (EqC A B)) [] 0 0 := by
  refine Law.of_walk (plainFor_of_name (by decide +kernel)) (by decide +kernel) (by decide +kernel) (by decide) (fun _ _ h => by rw [h.1]; rfl) (fun _ U U' hal hh h => ⟨h.1, h.2.1.mv hal hh, h.2.2.1, h.2.2.2.1.mv hal hh, h.2.2.2.2⟩) (fun r U U' V V' h1 hal h2 h => Says01.mv r U U' V V' h1 hal h2 h) ?_
  intro p e s m args below meth c s₁ X0 hexec hbytes hml hret hlk hnm hown hh0 W hP
  obtain ⟨rfl, hA, tA, hB, tB⟩ := hP
  have a31 := hA.2.2.2
  have b31 := hB.2.2.2
  have hA0 := hA.mv X0.warmed.alike hh0
  have hB0 := hB.mv X0.warmed.alike hh0
  have c1 : Steps p.tables e below (s₁.setTop (entryFrame m #[.ref a, .ref b] 3)) (s₁.setTop (mkF m 0 #[.val (.ref a), .val (.ref b), .unset] [])) := entry rfl
  have c2 : Steps p.tables e below (s₁.setTop (entryFrame m #[.ref a, .ref b] 3)) (s₁.setTop (mkF m 4 #[.val (.ref a), .val (.ref b), .unset] [.int (Int32.ofNat B.slots.size), .int (Int32.ofNat A.slots.size)])) := c1.trans (by
    refine XS.aloadN X0.here hexec rfl (hb hbytes d0) rfl rfl ?_
    refine X0.alen hexec hA0 rfl rfl (hb hbytes d1) ?_
    refine XS.aloadN X0.here hexec rfl (hb hbytes d2) rfl rfl ?_
    refine X0.alen hexec hB0 rfl rfl (hb hbytes d3) ?_
    exact Steps.refl _)
  by_cases hs : A.slots.size = B.slots.size
  · have c3 : Steps p.tables e below (s₁.setTop (entryFrame m #[.ref a, .ref b] 3)) (s₁.setTop (mkF m 9 #[.val (.ref a), .val (.ref b), .val (.int 0)] [])) := c2.trans (by
      refine XS.icmpNo X0.here hexec rfl (hb hbytes d4) rfl (ii_ne_f (by rw [hs])) ?_
      refine iconstV X0.here hexec rfl 0 (hb hbytes d7) (by decide) ?_
      refine XS.istoreN X0.here hexec rfl (hb hbytes d8) rfl rfl ?_
      exact Steps.refl _)
    have loop : ∀ (r i : Nat), i + r = A.slots.size → (∀ j, j < i → yv A j = yv B j) → Steps p.tables e below (s₁.setTop (entryFrame m #[.ref a, .ref b] 3)) (s₁.setTop (mkF m 9 #[.val (.ref a), .val (.ref b), .val (.int (Int32.ofNat i))] [])) → ∃ (pc : Nat) (Ls : Array Slot) (v : Int32), (pc = 25 ∨ pc = 33) ∧ ((v = 1 ∧ EqC A B) ∨ (v = 0 ∧ ¬ EqC A B)) ∧ Steps p.tables e below (s₁.setTop (entryFrame m #[.ref a, .ref b] 3)) (s₁.setTop (mkF m pc Ls [.int v])) := by
      intro r
      induction r with
      | zero =>
        intro i hi he cl
        exact ⟨33, _, 1, Or.inr rfl, Or.inl ⟨rfl, hs, fun j hj => he j (by omega)⟩, cl.trans (by
          refine XS.iloadN X0.here hexec rfl (hb hbytes d9) rfl ?_
          refine XS.aloadN X0.here hexec rfl (hb hbytes d10) rfl rfl ?_
          refine X0.alen hexec hA0 rfl rfl (hb hbytes d11) ?_
          refine XS.icmpYes X0.here hexec rfl (pc0 := 12) rfl (hb hbytes d12) rfl (ii_ge_t (nlt32 (by omega) (by omega))) (by decide) rfl ?_
          refine iconstV X0.here hexec rfl 1 (hb hbytes d32) (by decide) ?_
          exact Steps.refl _)⟩
      | succ r ih =>
        intro i hi he cl
        have c4 : Steps p.tables e below (s₁.setTop (entryFrame m #[.ref a, .ref b] 3)) (s₁.setTop (mkF m 21 #[.val (.ref a), .val (.ref b), .val (.int (Int32.ofNat i))] [.int (yv B i), .int (yv A i)])) := cl.trans (by
          refine XS.iloadN X0.here hexec rfl (hb hbytes d9) rfl ?_
          refine XS.aloadN X0.here hexec rfl (hb hbytes d10) rfl rfl ?_
          refine X0.alen hexec hA0 rfl rfl (hb hbytes d11) ?_
          refine XS.icmpNo X0.here hexec rfl (hb hbytes d12) rfl (ii_ge_f (lt32 (by omega) (by omega))) ?_
          refine XS.aloadN X0.here hexec rfl (hb hbytes d15) rfl rfl ?_
          refine XS.iloadN X0.here hexec rfl (hb hbytes d16) rfl ?_
          refine X0.aget hexec hA0 rfl (yv_get hA tA (i := i) (by omega)) rfl rfl (hb hbytes d17) ?_
          refine XS.aloadN X0.here hexec rfl (hb hbytes d18) rfl rfl ?_
          refine XS.iloadN X0.here hexec rfl (hb hbytes d19) rfl ?_
          refine X0.aget hexec hB0 rfl (yv_get hB tB (i := i) (by omega)) rfl rfl (hb hbytes d20) ?_
          exact Steps.refl _)
        by_cases hv : yv A i = yv B i
        · have c5 : Steps p.tables e below (s₁.setTop (entryFrame m #[.ref a, .ref b] 3)) (s₁.setTop (mkF m 9 #[.val (.ref a), .val (.ref b), .val (.int (Int32.ofNat i + 1))] [])) := c4.trans (by
            refine XS.icmpYes X0.here hexec rfl (pc0 := 21) rfl (hb hbytes d21) rfl (ii_eq_t hv) (by decide) rfl ?_
            refine iincV X0.here hexec rfl 1 (hb hbytes d26) (by decide) rfl rfl ?_
            refine XS.goto X0.here hexec rfl (pc0 := 29) rfl (hb hbytes d29) (by decide) rfl ?_
            exact Steps.refl _)
          rw [succ32] at c5
          exact ih (i + 1) (by omega) (fun j hj => by
            by_cases e : j = i
            · rw [e]; exact hv
            · exact he j (by omega)) c5
        · exact ⟨25, _, 0, Or.inl rfl, Or.inr ⟨rfl, fun q => hv (q.2 i (by omega))⟩, c4.trans (by
            refine XS.icmpNo X0.here hexec rfl (hb hbytes d21) rfl (ii_eq_f hv) ?_
            refine iconstV X0.here hexec rfl 0 (hb hbytes d24) (by decide) ?_
            exact Steps.refl _)⟩
    obtain ⟨pc, Ls, v, hpc, hv, cz⟩ := loop A.slots.size 0 (by omega) (fun j hj => absurd hj (Nat.not_lt_zero j)) c3
    have nv : narrow .boolean (.int v) = .int v := by rcases hv with ⟨rfl, -⟩ | ⟨rfl, -⟩ <;> rfl
    rcases hpc with rfl | rfl
    · exact ⟨s₁, some (.int v), _, _, _, X0, rfl, rfl, rfl, (fun h => by cases h), ⟨v, rfl, hh0, hv⟩, fun fs hl => cz.trans (X0.ireturnOut hexec hret nv (Or.inr (Or.inl rfl)) (hb hbytes d25) hl)⟩
    · exact ⟨s₁, some (.int v), _, _, _, X0, rfl, rfl, rfl, (fun h => by cases h), ⟨v, rfl, hh0, hv⟩, fun fs hl => cz.trans (X0.ireturnOut hexec hret nv (Or.inr (Or.inl rfl)) (hb hbytes d33) hl)⟩
  · have c3 : Steps p.tables e below (s₁.setTop (entryFrame m #[.ref a, .ref b] 3)) (s₁.setTop (mkF m 35 #[.val (.ref a), .val (.ref b), .unset] [.int 0])) := c2.trans (by
      refine XS.icmpYes X0.here hexec rfl (pc0 := 4) rfl (hb hbytes d4) rfl (ii_ne_t (ne32 a31 b31 hs)) (by decide) rfl ?_
      refine iconstV X0.here hexec rfl 0 (hb hbytes d34) (by decide) ?_
      exact Steps.refl _)
    exact ⟨s₁, some (.int 0), _, _, _, X0, rfl, rfl, rfl, (fun h => by cases h), ⟨0, rfl, hh0, Or.inr ⟨rfl, fun q => hs q.1⟩⟩, fun fs hl => c3.trans (X0.ireturnOut hexec hret rfl (Or.inr (Or.inl rfl)) (hb hbytes d35) hl)⟩
end LEq
theorem Cod.ty {cd : Int32} {n : Nat} {f : Nat → Int32} {V : Cell} (h : Cod cd n f V) : Typed .byte V := fun i v hv => by
  have hi : i < V.slots.size := (Array.getElem?_eq_some_iff.mp hv).1
  rcases h with ⟨-, k1, k2⟩ | ⟨-, k1, k2, -⟩
  · rw [(k2 i (by omega)).1] at hv; cases hv; exact fits_lo8 _
  · rcases Nat.mod_two_eq_zero_or_one i with e | e
    · obtain ⟨j, rfl⟩ : ∃ j, i = 2 * j := ⟨i / 2, by omega⟩
      rw [(k2 j (by omega)).1] at hv; cases hv; exact fits_lo8 _
    · obtain ⟨j, rfl⟩ : ∃ j, i = 2 * j + 1 := ⟨i / 2, by omega⟩
      rw [(k2 j (by omega)).2] at hv; cases hv; exact fits_lo8 _
/-- the same text -/
def SameT (n : Nat) (f : Nat → Int32) (k : Nat) (g : Nat → Int32) : Prop := n = k ∧ ∀ j, j < n → f j = g j
theorem lo8_inj {x y : Int32} (h0 : ¬ x < 0) (h1 : ¬ 255 < x) (k0 : ¬ y < 0) (k1 : ¬ 255 < y) (h : lo8 x = lo8 y) : x = y := by
  rw [← lo8_mask h0 h1, ← lo8_mask k0 k1, h]
/-- arrays coded by one coder are equal just where the texts are -/
theorem Cod.eqv {cd : Int32} {n k : Nat} {f g : Nat → Int32} {V V' : Cell} (h : Cod cd n f V) (h' : Cod cd k g V') (hf : ∀ j, j < n → ¬ f j < 0 ∧ ¬ 65535 < f j) (hg : ∀ j, j < k → ¬ g j < 0 ∧ ¬ 65535 < g j) : EqC V V' ↔ SameT n f k g := by
  have yvv : ∀ {W : Cell} {i : Nat} {x : Int32}, W.slots[i]? = some (.int x) → yv W i = x := fun q => by unfold yv; rw [q]
  rcases h with ⟨rfl, k1, k2⟩ | ⟨rfl, k1, k2, -⟩
  · rcases h' with ⟨-, m1, m2⟩ | ⟨e, -⟩
    · constructor
      · rintro ⟨e1, e2⟩
        refine ⟨by omega, fun j hj => ?_⟩
        have q := e2 j (by omega)
        rw [yvv (k2 j hj).1, yvv (m2 j (by omega)).1] at q
        exact lo8_inj (hf j hj).1 (k2 j hj).2 (hg j (by omega)).1 (m2 j (by omega)).2 q
      · rintro ⟨rfl, e2⟩
        refine ⟨by omega, fun j hj => ?_⟩
        rw [yvv (k2 j (by omega)).1, yvv (m2 j (by omega)).1, e2 j (by omega)]
    · exact absurd e (by decide)
  · rcases h' with ⟨e, -⟩ | ⟨-, m1, m2, -⟩
    · exact absurd e (by decide)
    · constructor
      · rintro ⟨e1, e2⟩
        refine ⟨by omega, fun j hj => ?_⟩
        have q1 := e2 (2 * j) (by omega)
        have q2 := e2 (2 * j + 1) (by omega)
        rw [yvv (k2 j hj).1, yvv (m2 j (by omega)).1] at q1
        rw [yvv (k2 j hj).2, yvv (m2 j (by omega)).2] at q2
        rw [← pair_says (hf j hj).1 (hf j hj).2, ← pair_says (hg j (by omega)).1 (hg j (by omega)).2, q1, q2]
      · rintro ⟨rfl, e2⟩
        refine ⟨by omega, fun i hi => ?_⟩
        rcases Nat.mod_two_eq_zero_or_one i with e | e
        · obtain ⟨j, rfl⟩ : ∃ j, i = 2 * j := ⟨i / 2, by omega⟩
          rw [yvv (k2 j (by omega)).1, yvv (m2 j (by omega)).1, e2 j (by omega)]
        · obtain ⟨j, rfl⟩ : ∃ j, i = 2 * j + 1 := ⟨i / 2, by omega⟩
          rw [yvv (k2 j (by omega)).2, yvv (m2 j (by omega)).2, e2 j (by omega)]
/-- two codings differ: so do the texts -/
theorem Cod.dif {cd cd' : Int32} {n k : Nat} {f g : Nat → Int32} {V V' : Cell} (h : Cod cd n f V) (h' : Cod cd' k g V') (hne : ¬ cd = cd') : ¬ SameT n f k g := by
  rintro ⟨rfl, e⟩
  rcases h with ⟨rfl, -, k2⟩ | ⟨rfl, -, -, j, hj, hw⟩
  · rcases h' with ⟨rfl, -⟩ | ⟨-, -, -, j, hj, hw⟩
    · exact hne rfl
    · exact (k2 j hj).2 (by rw [e j hj]; exact hw)
  · rcases h' with ⟨-, -, m2⟩ | ⟨rfl, -⟩
    · exact (m2 j hj).2 (by rw [← e j hj]; exact hw)
    · exact hne rfl
/-- an object of exactly C is an instance of C -/
theorem cinst {p : Program} {l : Launch} {e : Env} {R : Room} {s : State} {m : MethodId} {args : Array Value} {below : List Frame} {meth : Method} {c : Code} {T : State} {locs : List Loc} {cells slots : Nat} (X : Stand p l e R s m args below meth c T locs cells slots) (hexec : p.tables.exec = Jvm.exec) {own C : String} {index : Nat} (hown : s.vm.findClass own = some m.cls) (hlink : (Cond.classLink own index C).before args s = true) {a : Addr} (hE : Exact C a T)
    {g : JFrame} (hg : g.method = m) {rest : List Value} (hstack : g.stack = .ref a :: rest) (hdg : decode c.code g.pc = .ok (.instanceof index, 3)) :
    ∃ T', Stand p l e R s m args below meth c T' locs cells slots ∧ T'.heap = T.heap ∧ ∀ target, Steps p.tables e below (T'.setTop { g with pc := g.pc + 3, stack := .int 1 :: rest }) target → Steps p.tables e below (T.setTop g) target := by
  obtain ⟨cB, h1, D, h2, h3, h4⟩ := hE
  have h1' : s.vm.findClass C = some cB := by rw [← X.warmed.alike.findClass]; exact h1
  obtain ⟨vm', X', st⟩ := X.instanceofYes hexec hown hlink h2 h4 h1' (by rw [h3]; exact Jvm.Free.SB.assignable_self _ _) hg hstack hdg
  exact ⟨_, X', rfl, st⟩
theorem cself {p : Program} {l : Launch} {e : Env} {R : Room} {s : State} {m : MethodId} {args : Array Value} {below : List Frame} {meth : Method} {c : Code} {T : State} {locs : List Loc} {cells slots : Nat} (X : Stand p l e R s m args below meth c T locs cells slots) (hexec : p.tables.exec = Jvm.exec) {own C : String} {index : Nat} (hown : s.vm.findClass own = some m.cls) (hlink : (Cond.classLink own index C).before args s = true) {a : Addr} (hE : Exact C a T)
    {g : JFrame} (hg : g.method = m) {rest : List Value} (hstack : g.stack = .ref a :: rest) (hdg : decode c.code g.pc = .ok (.checkcast index, 3)) :
    ∃ T', Stand p l e R s m args below meth c T' locs cells slots ∧ T'.heap = T.heap ∧ ∀ target, Steps p.tables e below (T'.setTop { g with pc := g.pc + 3, stack := .ref a :: rest }) target → Steps p.tables e below (T.setTop g) target := by
  obtain ⟨cB, h1, D, h2, h3, h4⟩ := hE
  have h1' : s.vm.findClass C = some cB := by rw [← X.warmed.alike.findClass]; exact h1
  obtain ⟨vm', X', st⟩ := X.checkcastYes hexec hown hlink h2 h4 h1' (by rw [h3]; exact Jvm.Free.SB.assignable_self _ _) hg hstack hdg
  exact ⟨_, X', rfl, fun t h => st t (by rw [← hstack] at h; exact h)⟩
namespace SEq
def yN : MethodName := ⟨"java/lang/String", "equals", "(Ljava/lang/Object;)Z"⟩
abbrev yB : ByteArray := jdk_42_method_66_code
theorem d0 : decode yB 0 = .ok (.aload_n 0, 1) := by decide +kernel
theorem d1 : decode yB 1 = .ok (.aload_n 1, 1) := by decide +kernel
theorem d2 : decode yB 2 = .ok (.if_acmp (.ne) 5, 3) := by decide +kernel
theorem d5 : decode yB 5 = .ok (.iconst 1, 1) := by decide +kernel
theorem d6 : decode yB 6 = .ok (.ireturn, 1) := by decide +kernel
theorem d7 : decode yB 7 = .ok (.aload_n 1, 1) := by decide +kernel
theorem d8 : decode yB 8 = .ok (.instanceof 10, 3) := by decide +kernel
theorem d11 : decode yB 11 = .ok (.ifCond (.eq) 43, 3) := by decide +kernel
theorem d14 : decode yB 14 = .ok (.aload_n 1, 1) := by decide +kernel
theorem d15 : decode yB 15 = .ok (.checkcast 10, 3) := by decide +kernel
theorem d18 : decode yB 18 = .ok (.astore_n 2, 1) := by decide +kernel
theorem d19 : decode yB 19 = .ok (.getstatic 38, 3) := by decide +kernel
theorem d22 : decode yB 22 = .ok (.ifCond (.eq) 14, 3) := by decide +kernel
theorem d25 : decode yB 25 = .ok (.aload_n 0, 1) := by decide +kernel
theorem d26 : decode yB 26 = .ok (.getfield 15, 3) := by decide +kernel
theorem d29 : decode yB 29 = .ok (.aload_n 2, 1) := by decide +kernel
theorem d30 : decode yB 30 = .ok (.getfield 15, 3) := by decide +kernel
theorem d33 : decode yB 33 = .ok (.if_icmp (.ne) 21, 3) := by decide +kernel
theorem d36 : decode yB 36 = .ok (.aload_n 0, 1) := by decide +kernel
theorem d37 : decode yB 37 = .ok (.getfield 9, 3) := by decide +kernel
theorem d40 : decode yB 40 = .ok (.aload_n 2, 1) := by decide +kernel
theorem d41 : decode yB 41 = .ok (.getfield 9, 3) := by decide +kernel
theorem d44 : decode yB 44 = .ok (.invokestatic 541, 3) := by decide +kernel
theorem d47 : decode yB 47 = .ok (.ifCond (.eq) 7, 3) := by decide +kernel
theorem d50 : decode yB 50 = .ok (.iconst 1, 1) := by decide +kernel
theorem d51 : decode yB 51 = .ok (.goto 4, 3) := by decide +kernel
theorem d54 : decode yB 54 = .ok (.iconst 0, 1) := by decide +kernel
theorem d55 : decode yB 55 = .ok (.ireturn, 1) := by decide +kernel
def site : List Cond := [.classLink "java/lang/String" 10 "java/lang/String", .fieldLink "java/lang/String" 38 "java/lang/String" "COMPACT_STRINGS" "Z", .fieldLink "java/lang/String" 15 "java/lang/String" "coder" "B", .fieldLink "java/lang/String" 9 "java/lang/String" "value" "[B", LEq.tab] ++ staticW "java/lang/String" 541 LEq.yN
def tab : Cond := tabOf yN yB 3 (some .boolean) site
def P (x t : Addr) (V : Cell) (cd : Int32) (n : Nat) (f : Nat → Int32) (y t' : Addr) (V' : Cell) (cd' : Int32) (k : Nat) (g : Nat → Int32) (z : Int32) (args : Array Value) (s : State) : Prop := args = #[.ref x, .ref y] ∧ Txt x t V cd n f s ∧ Txt y t' V' cd' k g s ∧ StaticIs s "java/lang/String" "COMPACT_STRINGS" "Z" (.int z) ∧ ¬ z = 0
/-- equals(Object) of two Strings: whether the texts are the same -/
theorem law (l : Launch) (x t : Addr) (V : Cell) (cd : Int32) (n : Nat) (f : Nat → Int32) (y t' : Addr) (V' : Cell) (cd' : Int32) (k : Nat) (g : Nat → Int32) (z : Int32) : Law l yN 2 1 1 14 yB 3 (some .boolean) site (P x t V cd n f y t' V' cd' k g z) (Says01 (SameT n f k g)) [] 0 0 := by
  refine Law.of_walk (plainFor_of_name (by decide +kernel)) (by decide +kernel) (by decide +kernel) (by decide) (fun _ _ h => by rw [h.1]; rfl) (fun _ U U' hal hh h => ⟨h.1, h.2.1.mv hal hh, h.2.2.1.mv hal hh, h.2.2.2.1.there hal hh, h.2.2.2.2⟩) (fun r U U' V V' h1 hal h2 h => Says01.mv r U U' V V' h1 hal h2 h) ?_
  intro p e s m args below meth c s₁ X0 hexec hbytes hml hret hlk hnm hown hh0 W hP
  obtain ⟨rfl, hx, hy, s1, hz⟩ := hP
  have c1 : Steps p.tables e below (s₁.setTop (entryFrame m #[.ref x, .ref y] 3)) (s₁.setTop (mkF m 2 #[.val (.ref x), .val (.ref y), .unset] [.ref y, .ref x])) := Steps.trans (entry rfl) (by
    show Steps p.tables e below (s₁.setTop (mkF m 0 #[.val (.ref x), .val (.ref y), .unset] [])) _
    refine XS.aloadN X0.here hexec rfl (hb hbytes d0) rfl rfl ?_
    refine XS.aloadN X0.here hexec rfl (hb hbytes d1) rfl rfl ?_
    exact Steps.refl _)
  by_cases hxy : x = y
  · have c2 : Steps p.tables e below (s₁.setTop (entryFrame m #[.ref x, .ref y] 3)) (s₁.setTop (mkF m 6 #[.val (.ref x), .val (.ref y), .unset] [.int 1])) := c1.trans (by
      refine acmpNo X0.here hexec rfl (hb hbytes d2) rfl rfl rfl (by simp [acmp, hxy]) ?_
      refine iconstV X0.here hexec rfl 1 (hb hbytes d5) (by decide) ?_
      exact Steps.refl _)
    subst hxy
    have ec : cd = cd' := by
      obtain ⟨D, fd, a1, a2, a3⟩ := hx.2.2.1
      obtain ⟨D', fd', b1, b2, b3⟩ := hy.2.2.1
      cases a1.symm.trans b1
      obtain ⟨q1, q2, q3, q4⟩ := a2.1
      obtain ⟨r1, r2, r3, r4⟩ := b2.1
      cases q4.symm.trans r4
      cases a3.symm.trans b3; rfl
    have et : t = t' := by
      obtain ⟨D, fd, a1, a2, a3⟩ := hx.2.1
      obtain ⟨D', fd', b1, b2, b3⟩ := hy.2.1
      cases a1.symm.trans b1
      obtain ⟨q1, q2, q3, q4⟩ := a2.1
      obtain ⟨r1, r2, r3, r4⟩ := b2.1
      cases q4.symm.trans r4
      cases a3.symm.trans b3; rfl
    subst ec et
    have ev : V = V' := by cases hx.2.2.2.1.1.symm.trans hy.2.2.2.1.1; rfl
    subst ev
    have hs : SameT n f k g := (Cod.eqv hx.2.2.2.2.1 hy.2.2.2.2.1 hx.2.2.2.2.2 hy.2.2.2.2.2).mp ⟨rfl, fun _ _ => rfl⟩
    exact ⟨s₁, some (.int 1), _, _, _, X0, rfl, rfl, rfl, (fun h => by cases h), ⟨1, rfl, hh0, Or.inl ⟨rfl, hs⟩⟩, fun fs hl => c2.trans (X0.ireturnOut hexec hret rfl (Or.inr (Or.inl rfl)) (hb hbytes d6) hl)⟩
  · have c2 : Steps p.tables e below (s₁.setTop (entryFrame m #[.ref x, .ref y] 3)) (s₁.setTop (mkF m 8 #[.val (.ref x), .val (.ref y), .unset] [.ref y])) := c1.trans (by
      refine acmpYes X0.here hexec rfl (pc0 := 2) rfl (hb hbytes d2) rfl rfl rfl (by simp [acmp, hxy]) (by decide) rfl ?_
      refine XS.aloadN X0.here hexec rfl (hb hbytes d7) rfl rfl ?_
      exact Steps.refl _)
    obtain ⟨T3, X3, q3, st3⟩ := cinst X0 hexec hown (wk W (.classLink "java/lang/String" 10 "java/lang/String")) (hy.mv X0.warmed.alike hh0).1 (g := (mkF m 8 #[.val (.ref x), .val (.ref y), .unset] [.ref y])) rfl (rest := []) rfl (hb hbytes d8)
    have hh3 := q3.trans hh0
    have c4 : Steps p.tables e below (s₁.setTop (entryFrame m #[.ref x, .ref y] 3)) (T3.setTop (mkF m 15 #[.val (.ref x), .val (.ref y), .unset] [.ref y])) := (c2.trans (st3 _ (Steps.refl _))).trans (by
      refine XS.ifNo X3.here hexec rfl (hb hbytes d11) rfl (i0_eq_f (by decide)) ?_
      refine XS.aloadN X3.here hexec rfl (hb hbytes d14) rfl rfl ?_
      exact Steps.refl _)
    obtain ⟨T5, X5, q5, st5⟩ := cself X3 hexec hown (wk W (.classLink "java/lang/String" 10 "java/lang/String")) (hy.mv X3.warmed.alike hh3).1 (g := (mkF m 15 #[.val (.ref x), .val (.ref y), .unset] [.ref y])) rfl (rest := []) rfl (hb hbytes d15)
    have hh5 := q5.trans hh3
    have c6 : Steps p.tables e below (s₁.setTop (entryFrame m #[.ref x, .ref y] 3)) (T5.setTop (mkF m 19 #[.val (.ref x), .val (.ref y), .val (.ref y)] [])) := (c4.trans (st5 _ (Steps.refl _))).trans (by
      refine XS.astoreN X5.here hexec rfl (hb hbytes d18) rfl rfl rfl ?_
      exact Steps.refl _)
    obtain ⟨T7, X7, q7, st7⟩ := X5.sget hexec hown (wk W (.fieldLink "java/lang/String" 38 "java/lang/String" "COMPACT_STRINGS" "Z")) s1 (fun _ _ h => by rw [hh5]; exact h) (g := (mkF m 19 #[.val (.ref x), .val (.ref y), .val (.ref y)] [])) rfl (hb hbytes d19)
    have hh7 := q7.trans hh5
    have c8 : Steps p.tables e below (s₁.setTop (entryFrame m #[.ref x, .ref y] 3)) (T7.setTop (mkF m 26 #[.val (.ref x), .val (.ref y), .val (.ref y)] [.ref x])) := (c6.trans (st7 _ (Steps.refl _))).trans (by
      refine XS.ifNo X7.here hexec rfl (hb hbytes d22) rfl (i0_eq_f hz) ?_
      refine XS.aloadN X7.here hexec rfl (hb hbytes d25) rfl rfl ?_
      exact Steps.refl _)
    obtain ⟨T9, X9, q9, st9⟩ := X7.hget hexec hown (wk W (.fieldLink "java/lang/String" 15 "java/lang/String" "coder" "B")) (hx.mv X7.warmed.alike hh7).2.2.1 (g := (mkF m 26 #[.val (.ref x), .val (.ref y), .val (.ref y)] [.ref x])) rfl (rest := []) rfl (hb hbytes d26)
    have hh9 := q9.trans hh7
    have c10 : Steps p.tables e below (s₁.setTop (entryFrame m #[.ref x, .ref y] 3)) (T9.setTop (mkF m 30 #[.val (.ref x), .val (.ref y), .val (.ref y)] [.ref y, .int cd])) := (c8.trans (st9 _ (Steps.refl _))).trans (by
      refine XS.aloadN X9.here hexec rfl (hb hbytes d29) rfl rfl ?_
      exact Steps.refl _)
    obtain ⟨T11, X11, q11, st11⟩ := X9.hget hexec hown (wk W (.fieldLink "java/lang/String" 15 "java/lang/String" "coder" "B")) (hy.mv X9.warmed.alike hh9).2.2.1 (g := (mkF m 30 #[.val (.ref x), .val (.ref y), .val (.ref y)] [.ref y, .int cd])) rfl (rest := [.int cd]) rfl (hb hbytes d30)
    have hh11 := q11.trans hh9
    have c12 : Steps p.tables e below (s₁.setTop (entryFrame m #[.ref x, .ref y] 3)) (T11.setTop (mkF m 33 #[.val (.ref x), .val (.ref y), .val (.ref y)] [.int cd', .int cd])) := c10.trans (st11 _ (Steps.refl _))
    by_cases hcd : cd = cd'
    · subst hcd
      have c13 : Steps p.tables e below (s₁.setTop (entryFrame m #[.ref x, .ref y] 3)) (T11.setTop (mkF m 37 #[.val (.ref x), .val (.ref y), .val (.ref y)] [.ref x])) := c12.trans (by
        refine XS.icmpNo X11.here hexec rfl (hb hbytes d33) rfl (ii_ne_f rfl) ?_
        refine XS.aloadN X11.here hexec rfl (hb hbytes d36) rfl rfl ?_
        exact Steps.refl _)
      obtain ⟨T14, X14, q14, st14⟩ := X11.hget hexec hown (wk W (.fieldLink "java/lang/String" 9 "java/lang/String" "value" "[B")) (hx.mv X11.warmed.alike hh11).2.1 (g := (mkF m 37 #[.val (.ref x), .val (.ref y), .val (.ref y)] [.ref x])) rfl (rest := []) rfl (hb hbytes d37)
      have hh14 := q14.trans hh11
      have c15 : Steps p.tables e below (s₁.setTop (entryFrame m #[.ref x, .ref y] 3)) (T14.setTop (mkF m 41 #[.val (.ref x), .val (.ref y), .val (.ref y)] [.ref y, .ref t])) := (c13.trans (st14 _ (Steps.refl _))).trans (by
        refine XS.aloadN X14.here hexec rfl (hb hbytes d40) rfl rfl ?_
        exact Steps.refl _)
      obtain ⟨T16, X16, q16, st16⟩ := X14.hget hexec hown (wk W (.fieldLink "java/lang/String" 9 "java/lang/String" "value" "[B")) (hy.mv X14.warmed.alike hh14).2.1 (g := (mkF m 41 #[.val (.ref x), .val (.ref y), .val (.ref y)] [.ref y, .ref t])) rfl (rest := [.ref t]) rfl (hb hbytes d41)
      have hh16 := q16.trans hh14
      have c17 : Steps p.tables e below (s₁.setTop (entryFrame m #[.ref x, .ref y] 3)) (T16.setTop (mkF m 44 #[.val (.ref x), .val (.ref y), .val (.ref y)] [.ref t', .ref t])) := c15.trans (st16 _ (Steps.refl _))
      obtain ⟨v18, T18, X18, E18, g18⟩ := X16.callS hexec (LEq.law l t V t' V') hown (wks W (staticW "java/lang/String" 541 LEq.yN)) (wk W LEq.tab) (W := 0) (Nat.le_of_ble_eq_true rfl) (Nat.le_of_ble_eq_true rfl) (Nat.le_refl _) (Nat.le_refl _) (g := (mkF m 44 #[.val (.ref x), .val (.ref y), .val (.ref y)] [.ref t', .ref t])) rfl (by rw [hml]; rfl) c17 (argsL := [.ref t, .ref t']) (rest := []) rfl rfl (by show 2 * 0 + 0 ≤ _; decide) (hb hbytes d44) (⟨rfl, hx.2.2.2.1.mv X16.warmed.alike hh16, hx.2.2.2.2.1.ty, hy.2.2.2.1.mv X16.warmed.alike hh16, hy.2.2.2.2.1.ty⟩)
      obtain ⟨v, rfl, q18, hv⟩ := E18
      have iff := Cod.eqv hx.2.2.2.2.1 hy.2.2.2.2.1 hx.2.2.2.2.2 hy.2.2.2.2.2
      rcases hv with ⟨rfl, he⟩ | ⟨rfl, he⟩
      · have c19 : Steps p.tables e below (s₁.setTop (entryFrame m #[.ref x, .ref y] 3)) (T18.setTop (mkF m 55 #[.val (.ref x), .val (.ref y), .val (.ref y)] [.int 1])) := Steps.trans g18 (by
          refine XS.ifNo X18.here hexec rfl (hb hbytes d47) rfl (i0_eq_f (by decide)) ?_
          refine iconstV X18.here hexec rfl 1 (hb hbytes d50) (by decide) ?_
          refine XS.goto X18.here hexec rfl (pc0 := 51) rfl (hb hbytes d51) (by decide) rfl ?_
          exact Steps.refl _)
        exact ⟨T18, some (.int 1), _, _, _, X18, rfl, rfl, rfl, (fun h => by cases h), ⟨1, rfl, q18.trans hh16, Or.inl ⟨rfl, iff.mp he⟩⟩, fun fs hl => c19.trans (X18.ireturnOut hexec hret rfl (Or.inr (Or.inl rfl)) (hb hbytes d55) hl)⟩
      · have c19 : Steps p.tables e below (s₁.setTop (entryFrame m #[.ref x, .ref y] 3)) (T18.setTop (mkF m 55 #[.val (.ref x), .val (.ref y), .val (.ref y)] [.int 0])) := Steps.trans g18 (by
          refine XS.ifYes X18.here hexec rfl (pc0 := 47) rfl (hb hbytes d47) rfl (i0_eq_t rfl) (by decide) rfl ?_
          refine iconstV X18.here hexec rfl 0 (hb hbytes d54) (by decide) ?_
          exact Steps.refl _)
        exact ⟨T18, some (.int 0), _, _, _, X18, rfl, rfl, rfl, (fun h => by cases h), ⟨0, rfl, q18.trans hh16, Or.inr ⟨rfl, fun q => he (iff.mpr q)⟩⟩, fun fs hl => c19.trans (X18.ireturnOut hexec hret rfl (Or.inr (Or.inl rfl)) (hb hbytes d55) hl)⟩
    · have c13 : Steps p.tables e below (s₁.setTop (entryFrame m #[.ref x, .ref y] 3)) (T11.setTop (mkF m 55 #[.val (.ref x), .val (.ref y), .val (.ref y)] [.int 0])) := c12.trans (by
        refine XS.icmpYes X11.here hexec rfl (pc0 := 33) rfl (hb hbytes d33) rfl (ii_ne_t hcd) (by decide) rfl ?_
        refine iconstV X11.here hexec rfl 0 (hb hbytes d54) (by decide) ?_
        exact Steps.refl _)
      exact ⟨T11, some (.int 0), _, _, _, X11, rfl, rfl, rfl, (fun h => by cases h), ⟨0, rfl, hh11, Or.inr ⟨rfl, Cod.dif hx.2.2.2.2.1 hy.2.2.2.2.1 hcd⟩⟩, fun fs hl => c13.trans (X11.ireturnOut hexec hret rfl (Or.inr (Or.inl rfl)) (hb hbytes d55) hl)⟩
theorem pays {l : Launch} {R : Room} {p : Program} {e : Env} {below : List Frame} {s : State} {sargs : Array Value} {len W : Nat} (x t : Addr) (V : Cell) (cd : Int32) (n : Nat) (f : Nat → Int32) (y t' : Addr) (V' : Cell) (cd' : Int32) (k : Nat) (g : Nat → Int32) (z : Int32) (htab : tab.before sargs s = true) (hfr : 2 ≤ R.frames) (hlo : W + 28 ≤ R.locals) :
    Back l R p e below s sargs yN len W (fun A₁ a₁ => A₁.cells + 0 ≤ R.cells ∧ A₁.slots + 0 ≤ R.slots ∧ P x t V cd n f y t' V' cd' k g z a₁ A₁.U) (fun A₁ _ v₁ B₁ => Says01 (SameT n f k g) v₁ A₁.U B₁.U ∧ B₁.locs = A₁.locs ++ [] ∧ B₁.cells = A₁.cells + 0 ∧ B₁.slots = A₁.slots + 0) :=
  (law l x t V cd n f y t' V' cd' k g z).pays htab hfr (by omega)
end SEq
end StrChars
namespace StrChars.Road
open Jvm Sem ClassFile Op Lib Jvm.Stand Jvm.Free Jvm.Free.XT
open Jvm.Lib.Cold (StaticIs)
/-- the words of String.equals(Object) -/
abbrev wordsEq : List Jvm.Cond := [.code SEq.yN SEq.yB 3 (some .boolean), .initialized ST, .classLink ST 10 ST, .fieldLink ST 38 ST "COMPACT_STRINGS" "Z", .fieldLink ST 15 ST "coder" "B", .fieldLink ST 9 ST "value" "[B", .methodLink ST 541 LEq.yN, .static LEq.yN, .code LEq.yN LEq.yB 3 (some .boolean), .initialized "java/lang/StringLatin1"]
theorem tabEq_of {a : Array Value} {s : State} (h : ∀ w ∈ wordsEq, w.before a s = true) : SEq.tab.before a s = true := by
  have hl : LEq.tab.before a s = true := unparts (wk h (.code LEq.yN LEq.yB 3 (some .boolean))) (wks h (.initialized LEq.yN.cls :: LEq.site))
  have q := consq hl h
  exact unparts (wk q (.code SEq.yN SEq.yB 3 (some .boolean))) (wks q (.initialized SEq.yN.cls :: SEq.site))
theorem movedEq {Z s : State} {a0 args : Array Value} (hZ : Z.Warmed39 s.vm) (hw : ∀ d ∈ wordsEq, d.before a0 Z = true) : ∀ d ∈ wordsEq, d.before args s = true := fun d hd => by
  have t : ∀ d ∈ wordsEq, (d.onTables && d.keepsFace) = true := by decide +kernel
  exact RoadKit.mv hZ (hw d hd) (t d hd)
/-- the road's facts of a String, as the laws ask it -/
theorem txt_of {Z U : State} {a0 : Array Value} {kI : Nat} (wi : (Jvm.Cond.instantiable ST kI).before a0 Z = true) (al : Z.vm.Alike U.vm) {x t : Addr} {kb : ClassId} {cs : List Int32} {cd N2 : Int32} {vs : List Value} (E : RoadKit.Exa Z U.heap x ST) (V : RoadKit.Fld Z U.heap x ST "value" "[B" (.ref t)) (C : RoadKit.Fld Z U.heap x ST "coder" "B" (.int cd)) (K : RoadKit.Arv Z U.heap t kb .byte N2 vs (.int 0)) (hc : CodA cs cd N2 vs) (hb : ∀ c ∈ cs, ¬ c < 0 ∧ ¬ (65535 : Int32) < c) (l2 : cs.length ≤ 4000) :
    ∃ A, Txt x t A cd cs.length (fun j => cs.getD j 0) U := by
  obtain ⟨A, K1, K2, K3, K4, K5, K6⟩ := K
  have hcod := hc.cod (by omega) K3 K5
  obtain ⟨D, fV, fC, hB, F1, F2, g1, g2, -, -⟩ := strObj wi al E V C
  exact ⟨A, ⟨_, hB.2.2.1, D, hB.1, rfl, by cases q : D.vm <;> first | rfl | exact absurd q (hB.2.1.2 _)⟩, Has.of hB F1 g1, Has.of hB F2 g2, ⟨K1.1, State.isArrayOf_alike al K1.2.1, K1.2.2, by rcases hcod with ⟨-, q, -⟩ | ⟨-, q, -⟩ <;> omega⟩, hcod, fun j hj => by
    have e : cs.getD j 0 = cs[j] := by simp [List.getD_eq_getElem?_getD, hj]
    show ¬ cs.getD j 0 < 0 ∧ ¬ 65535 < cs.getD j 0
    rw [e]; exact hb _ (List.getElem_mem _)⟩
theorem same_list (cs ds : List Int32) : SameT cs.length (fun j => cs.getD j 0) ds.length (fun j => ds.getD j 0) ↔ cs = ds := by
  constructor
  · rintro ⟨e, q⟩
    refine List.ext_getElem e fun j h1 h2 => ?_
    have := q j h1
    simpa [List.getD_eq_getElem?_getD, h1, h2] using this
  · rintro rfl
    exact ⟨rfl, fun _ _ => rfl⟩
/-- **equals(Object) OF TWO SUCH STRINGS**: 1 just where the chars are the same -/
theorem eqW {p : Program} {l : Launch} {e : Env} {R : Room} {s : State} {args : Array Value} {below : List Frame} {len W : Nat} {Z : State} {a0 : Array Value} {h : Heap} (hZ : Z.Warmed39 s.vm) (hw : ∀ d ∈ wordsEq, d.before a0 Z = true) {kI : Nat} (wi : (Jvm.Cond.instantiable ST kI).before a0 Z = true)
    {x t : Addr} {kb : ClassId} {cs : List Int32} {cd N2 : Int32} {vs : List Value} (E : RoadKit.Exa Z h x ST) (V : RoadKit.Fld Z h x ST "value" "[B" (.ref t)) (C : RoadKit.Fld Z h x ST "coder" "B" (.int cd)) (K : RoadKit.Arv Z h t kb .byte N2 vs (.int 0)) (hc : CodA cs cd N2 vs) (hb : ∀ c ∈ cs, ¬ c < 0 ∧ ¬ (65535 : Int32) < c) (l2 : cs.length ≤ 4000)
    {y t' : Addr} {kb' : ClassId} {ds : List Int32} {cd' N2' : Int32} {vs' : List Value} (E' : RoadKit.Exa Z h y ST) (V' : RoadKit.Fld Z h y ST "value" "[B" (.ref t')) (C' : RoadKit.Fld Z h y ST "coder" "B" (.int cd')) (K' : RoadKit.Arv Z h t' kb' .byte N2' vs' (.int 0)) (hc' : CodA ds cd' N2' vs') (hb' : ∀ c ∈ ds, ¬ c < 0 ∧ ¬ (65535 : Int32) < c) (l2' : ds.length ≤ 4000)
    {z : Int32} (S : RoadKit.Sta Z h ST "COMPACT_STRINGS" "Z" (.int z)) (hz : ¬ z = 0) (hfr : 2 ≤ R.frames) (hlo : W + 28 ≤ R.locals) :
    Back l R p e below s args (⟨"java/lang/String", "equals", "(Ljava/lang/Object;)Z"⟩ : MethodName) len W (fun P a => a = #[.ref x, .ref y] ∧ P.U.heap = h ∧ P.cells + 0 ≤ R.cells ∧ P.slots + 0 ≤ R.slots)
      (fun P _ v B => ∃ L, (((v = some (.int 1) ∧ cs = ds) ∨ (v = some (.int 0) ∧ ¬ cs = ds)) ∧ L = [] ∧ B.U.heap = h) ∧ B.locs = P.locs ++ L ∧ B.cells = P.cells + 0 ∧ B.slots = P.slots + 0) := by
  intro m meth c P g ig mk a X hg hsize hdg hW hn hp'
  obtain ⟨rfl, rfl, r1, r2⟩ := hp'
  have al : Z.vm.Alike P.U.vm := hZ.alike.trans X.warmed.alike
  obtain ⟨A, hx⟩ := txt_of wi al E V C K hc hb l2
  obtain ⟨A', hy⟩ := txt_of wi al E' V' C' K' hc' hb' l2'
  obtain ⟨v, B, X', ⟨⟨w, hv, hh, hq⟩, hl, hk, hs⟩, st⟩ := SEq.pays x t A cd cs.length (fun j => cs.getD j 0) y t' A' cd' ds.length (fun j => ds.getD j 0) z (tabEq_of (movedEq hZ hw)) hfr hlo m meth c P g ig mk _ X hg hsize hdg hW hn ⟨r1, r2, rfl, hx, hy, sta_is al S, hz⟩
  refine ⟨v, B, X', ⟨[], ⟨?_, rfl, hh⟩, hl, hk, hs⟩, st⟩
  rcases hq with ⟨rfl, q⟩ | ⟨rfl, q⟩
  · exact Or.inl ⟨hv, (same_list cs ds).mp q⟩
  · exact Or.inr ⟨hv, fun e => q ((same_list cs ds).mpr e)⟩
end StrChars.Road
namespace StrChars.Road
open Jvm Sem ClassFile Op Lib Jvm.Stand Jvm.Free Jvm.Free.XT
open Jvm.Lib.Cold (StaticIs)
/-- what backV says of its String, as the contracts of this text ask it: cs's low bytes, coder 0 -/
theorem codOf {cs : List Int32} {n : Nat} (hn : cs.length = n) (hb : ∀ c ∈ cs, ¬ 255 < c) : CodA cs 0 (Int32.ofNat n) ((cs.map lo8).map Value.int) := Or.inl ⟨rfl, by rw [hn], by simp [List.map_map, Function.comp_def], hb⟩
end StrChars.Road
end Jvm.Pilot.@@N@@
namespace Jvm.Pilot.@@N@@
open Jvm Jvm.ClassFile Sem Op Lib Jvm.Free Jvm.Stand Jvm.LawKit Jvm.RoadKit Bundle Jvm.Pilot.@@N@@.Jvm.D
/-- the road from here on ends, and G holds of its end -/
def Go (p : Program) (e : Env) (below : List Frame) (G : Outcome → State → Prop) (T : State) (g : JFrame) : Prop :=
  ∃ U o, Steps p.tables e below (T.setTop g) U ∧ U.status = .running ∧ Ended U below o ∧ G o U
/-- what a body leaves: it returned v, Q holds, the frame is kept -/
def Out (s : State) (Q : Option Value → Heap → List Loc → Prop) (C S : Nat) (o : Outcome) (U : State) : Prop :=
  ∃ v L, o = .returned v ∧ Q v U.heap L ∧ FrameEnd s o U L C S
section GoLaws
variable {p : Program} {l : Launch} {e : Env} {R : Room} {s : State} {m : MethodId} {args : Array Value} {below : List Frame} {meth : Method} {c : Code} {T T' : State} {locs : List Loc} {cells slots : Nat} {g g' : JFrame} {G : Outcome → State → Prop} {Q : Option Value → Heap → List Loc → Prop} {C S : Nat}
theorem Go.by (st : ∀ t, Steps p.tables e below (T'.setTop g') t → Steps p.tables e below (T.setTop g) t) (k : Go p e below G T' g') : Go p e below G T g := by
  obtain ⟨U, o, h, r⟩ := k
  exact ⟨U, o, st _ h, r⟩
theorem Go.tr (st : Steps p.tables e below (T.setTop g) (T'.setTop g')) (k : Go p e below G T' g') : Go p e below G T g := by
  obtain ⟨U, o, h, r⟩ := k
  exact ⟨U, o, st.trans h, r⟩
theorem Go.cast (q : g = g') (k : Go p e below G T g') : Go p e below G T g := by subst q; exact k
theorem Go.ends (X : Stand p l e R s m args below meth c T locs cells slots) {v : Option Value} (hlk : meth.locks = false) (hv : meth.sig.returnType = none → v = none)
    (st : ∀ fs, (∀ (f : JFrame) (acts : List Action), f.method = m → f.locked = none → f.entered = [] → (doReturn e (T.setTop f) acts v).1 = T.setFrames fs) → Steps p.tables e below (T.setTop g) (T.setFrames fs))
    (hQ : Q v T.heap locs) (hc : cells ≤ C) (hs : slots ≤ S) : Go p e below (Out s Q C S) T g := by
  obtain ⟨fs, hr, hrun, hended, hW, hsame⟩ := X.leave (v := v) hv hlk
  exact ⟨_, _, st fs hr, hrun, hended, _, _, rfl, hQ, ⟨_, rfl⟩, hW, hsame.mono hc hs⟩
theorem Go.ret0 (X : Stand p l e R s m args below meth c T locs cells slots) (hx : p.tables.exec = Jvm.exec) (hret : meth.sig.returnType = none) (hlk : meth.locks = false) {pc : Nat} {Ls : Array Slot} (hd : decode c.code pc = .ok (.return_, 1))
    (hQ : Q none T.heap locs) (hc : cells ≤ C) (hs : slots ≤ S) : Go p e below (Out s Q C S) T (mkF m pc Ls []) :=
  Go.ends X hlk (fun _ => rfl) (fun fs hr => X.returnOut hx hret hd hr) hQ hc hs
theorem Go.retN (X : Stand p l e R s m args below meth c T locs cells slots) (hx : p.tables.exec = Jvm.exec) {t : FieldType} (hret : meth.sig.returnType = some t) (ht : t = .boolean ∨ t = .byte ∨ t = .char ∨ t = .short) (hlk : meth.locks = false) {pc : Nat} {Ls : Array Slot} {z : Int32} {rest : List Value} (hd : decode c.code pc = .ok (.ireturn, 1))
    (hQ : Q (some (.int (nar t z))) T.heap locs) (hc : cells ≤ C) (hs : slots ≤ S) : Go p e below (Out s Q C S) T (mkF m pc Ls (.int z :: rest)) :=
  Go.ends X hlk (fun h => by rw [hret] at h; cases h) (fun fs hr => RoadKit.retN X hx hret ht hd hr) hQ hc hs
theorem Go.retI (X : Stand p l e R s m args below meth c T locs cells slots) (hx : p.tables.exec = Jvm.exec) (hret : meth.sig.returnType = some .int) (hlk : meth.locks = false) {pc : Nat} {Ls : Array Slot} {z : Int32} {rest : List Value} (hd : decode c.code pc = .ok (.ireturn, 1))
    (hQ : Q (some (.int z)) T.heap locs) (hc : cells ≤ C) (hs : slots ≤ S) : Go p e below (Out s Q C S) T (mkF m pc Ls (.int z :: rest)) :=
  Go.ends X hlk (fun h => by rw [hret] at h; cases h) (fun fs hr => retOut X hx hret rfl (Or.inl ⟨rfl, Or.inl rfl, z, rfl⟩) hd hr) hQ hc hs
theorem Go.retR (X : Stand p l e R s m args below meth c T locs cells slots) (hx : p.tables.exec = Jvm.exec) {t : FieldType} {w : Value} (hret : meth.sig.returnType = some t) (hn : narrow t w = w) (ht : t.isReference = true) (hw : w.isRef = true) (hlk : meth.locks = false) {pc : Nat} {Ls : Array Slot} {rest : List Value} (hd : decode c.code pc = .ok (.areturn, 1))
    (hQ : Q (some w) T.heap locs) (hc : cells ≤ C) (hs : slots ≤ S) : Go p e below (Out s Q C S) T (mkF m pc Ls (w :: rest)) :=
  Go.ends X hlk (fun h => by rw [hret] at h; cases h) (fun fs hr => retOut X hx hret hn (Or.inr (Or.inr (Or.inr (Or.inr ⟨rfl, ht, hw⟩)))) hd hr) hQ hc hs
theorem Stand_grow {cells' slots' : Nat} (X : Stand p l e R s m args below meth c T locs cells slots) (hc : cells ≤ cells') (hs : slots ≤ slots') : Stand p l e R s m args below meth c T locs cells' slots' :=
  { X with same := X.same.mono hc hs }
end GoLaws
theorem ne_arv {Z : State} {h : Heap} {a b : Addr} {C : String} {a0 : Array Value} {k : Nat} {kc : ClassId} {ty : FieldType} {z : Int32} {vs : List Value} {dv : Value} (F : Exa Z h a C) (wi : (Jvm.Cond.instantiable C k).before a0 Z = true) (G : Arv Z h b kc ty z vs dv) : a ≠ b := by
  obtain ⟨c, A, -⟩ := G
  exact ne_arr F wi A
/-- what a body leaves that may load String constants -/
def OutW (Z : State) (EL : List (String × Nat)) (s : State) (Q : Option Value → Heap → List Loc → Prop) (C S : Nat) (o : Outcome) (U : State) : Prop :=
  ∃ v L, o = .returned v ∧ Q v U.heap L ∧ CHr Z EL s.vm s.heap U.vm U.heap ∧ ReturnedEndW s o U L C S
section GoWide
variable {p : Program} {l : Launch} {e : Env} {R : Room} {s Z : State} {m : MethodId} {args a0 : Array Value} {below : List Frame} {meth : Method} {c : Code} {T : State} {locs : List Loc} {cells slots : Nat} {g : JFrame} {Q : Option Value → Heap → List Loc → Prop} {C S k0 : Nat} {vm0 : Vm} {EL : List (String × Nat)}
theorem Go.endsW (X : Stand p l e R (s.setVm vm0) m args below meth c T locs cells slots) {v : Option Value} (hlk : meth.locks = false) (hv : meth.sig.returnType = none → v = none)
    (st : ∀ fs, (∀ (f : JFrame) (acts : List Action), f.method = m → f.locked = none → f.entered = [] → (doReturn e (T.setTop f) acts v).1 = T.setFrames fs) → Steps p.tables e below (T.setTop g) (T.setFrames fs))
    (hS : s.Since vm0 k0) (hk : k0 ≤ T.heap.size) (hZ : Z.Warmed39 vm0) (hEL : EW Z a0 EL) (hC : CHr Z EL s.vm s.heap vm0 T.heap) (hQ : Q v T.heap locs) (hc : cells ≤ C) (hs : slots ≤ S) : Go p e below (OutW Z EL s Q C S) T g := by
  obtain ⟨fs, hr, hrun, hended, hW⟩ := X.leaveW hS hk (v := v) hv hlk
  exact ⟨_, _, st fs hr, hrun, hended, _, _, rfl, hQ, hC.trans (show CHr Z EL vm0 T.heap T.vm T.heap from CHv.at X hZ hEL hC.1), hW.1, hW.2.1, hW.2.2.1, hW.2.2.2.mono hc hs⟩
theorem Go.ret0W (X : Stand p l e R (s.setVm vm0) m args below meth c T locs cells slots) (hx : p.tables.exec = Jvm.exec) (hret : meth.sig.returnType = none) (hlk : meth.locks = false) {pc : Nat} {Ls : Array Slot} (hd : decode c.code pc = .ok (.return_, 1))
    (hS : s.Since vm0 k0) (hk : k0 ≤ T.heap.size) (hZ : Z.Warmed39 vm0) (hEL : EW Z a0 EL) (hC : CHr Z EL s.vm s.heap vm0 T.heap) (hQ : Q none T.heap locs) (hc : cells ≤ C) (hs : slots ≤ S) : Go p e below (OutW Z EL s Q C S) T (mkF m pc Ls []) :=
  Go.endsW X hlk (fun _ => rfl) (fun fs hr => X.returnOut hx hret hd hr) hS hk hZ hEL hC hQ hc hs
theorem Go.retNW (X : Stand p l e R (s.setVm vm0) m args below meth c T locs cells slots) (hx : p.tables.exec = Jvm.exec) {t : FieldType} (hret : meth.sig.returnType = some t) (ht : t = .boolean ∨ t = .byte ∨ t = .char ∨ t = .short) (hlk : meth.locks = false) {pc : Nat} {Ls : Array Slot} {z : Int32} {rest : List Value} (hd : decode c.code pc = .ok (.ireturn, 1))
    (hS : s.Since vm0 k0) (hk : k0 ≤ T.heap.size) (hZ : Z.Warmed39 vm0) (hEL : EW Z a0 EL) (hC : CHr Z EL s.vm s.heap vm0 T.heap) (hQ : Q (some (.int (nar t z))) T.heap locs) (hc : cells ≤ C) (hs : slots ≤ S) : Go p e below (OutW Z EL s Q C S) T (mkF m pc Ls (.int z :: rest)) :=
  Go.endsW X hlk (fun h => by rw [hret] at h; cases h) (fun fs hr => RoadKit.retN X hx hret ht hd hr) hS hk hZ hEL hC hQ hc hs
theorem Go.retRW (X : Stand p l e R (s.setVm vm0) m args below meth c T locs cells slots) (hx : p.tables.exec = Jvm.exec) {t : FieldType} {w : Value} (hret : meth.sig.returnType = some t) (hn : narrow t w = w) (ht : t.isReference = true) (hw : w.isRef = true) (hlk : meth.locks = false) {pc : Nat} {Ls : Array Slot} {rest : List Value} (hd : decode c.code pc = .ok (.areturn, 1))
    (hS : s.Since vm0 k0) (hk : k0 ≤ T.heap.size) (hZ : Z.Warmed39 vm0) (hEL : EW Z a0 EL) (hC : CHr Z EL s.vm s.heap vm0 T.heap) (hQ : Q (some w) T.heap locs) (hc : cells ≤ C) (hs : slots ≤ S) : Go p e below (OutW Z EL s Q C S) T (mkF m pc Ls (w :: rest)) :=
  Go.endsW X hlk (fun h => by rw [hret] at h; cases h) (fun fs hr => retOut X hx hret hn (Or.inr (Or.inr (Or.inr (Or.inr ⟨rfl, ht, hw⟩)))) hd hr) hS hk hZ hEL hC hQ hc hs
/-- a String whose value is still null is no String constant -/
theorem safe_str {vm : Vm} {h : Heap} {x : Addr} (hal : Z.vm.Alike vm) (E : Exa Z h x "java/lang/String") (F : Fld Z h x "java/lang/String" "value" "[B" .null) : Safe Z EL vm h x := fun B => by
  obtain ⟨q0, -, u, a, -, q, -, G, rfl | rfl⟩ := B
  · obtain ⟨cell, cf, k, i, f, f1, f2, f3, f4, f5, f6, f7⟩ := F
    cases (show h[q.sa]? = some q.sC from G.ha).symm.trans f1
    obtain ⟨cS, ⟨st, -, -⟩, -⟩ := G
    obtain ⟨-, -, -, ⟨c', k', i', g1, -⟩, -, -, -, g2, -⟩ := st
    obtain ⟨k2, q1, -⟩ := State.fieldFound?_setVm (s := Z) hal f2
    have q1' : (Wst Z vm h).fieldFound? "java/lang/String" "value" "[B" = some (cf, k2, i, f) := q1
    cases g1.symm.trans q1'
    rw [f7] at g2
    cases g2
  · obtain ⟨cell, k, e1, e2, -⟩ := E
    cases (show h[q.sd]? = some q.SA from G.hd).symm.trans e1
    obtain ⟨cS, -, -, f, -⟩ := G
    have f' : vm.findClass "[B" = some q.SA.cls := f
    rw [hal.findClass] at f'
    obtain ⟨k1, r1, r2⟩ := Vm.findClass_spec f'
    obtain ⟨k2, r3, r4⟩ := Vm.findClass_spec e2
    cases r1.symm.trans r3
    exact absurd (r2.symm.trans r4) (by decide)
end GoWide
abbrev QT := Option Value → Heap → List Loc → Prop
abbrev De (code : ByteArray) (pc n pc' : Nat) (i : Instr) : Prop := decode code pc = .ok (i, n) ∧ pc + n = pc'
abbrev Dj (code : ByteArray) (pc pc' : Nat) (i : Instr) (o : Int) : Prop := decode code pc = .ok (i, 3) ∧ 0 ≤ (pc : Int) + o ∧ ((pc : Int) + o).toNat = pc'
abbrev HB (p : Program) (c : Code) (code : ByteArray) : Prop := p.tables.exec = Jvm.exec ∧ c.code = code
def pl (o : Slot) (v : Value) : Bool := decide (v.category = 1) && (match o with | .unset => true | .val w => decide (w.category = 1) | .second => false)
theorem sl {l l' : List Slot} {k : Nat} {o : Slot} {v : Value} (h : l[k]? = some o) (q : l.set k (.val v) = l') (hp : pl o v = true) : storeLocals l.toArray k v = some l'.toArray := by
  simp only [pl, Bool.and_eq_true, decide_eq_true_eq] at hp
  rw [XS.store1 (o := o) (by simpa using h) (by
    obtain ⟨-, hp⟩ := hp
    cases o with
    | unset => exact Or.inl rfl
    | val w => exact Or.inr ⟨w, rfl, by simpa using hp⟩
    | second => simp at hp) hp.1, ← q]
  simp
theorem s2 {a0 a1 o : Slot} {l : List Slot} {v : Value} (h : pl o v = true) : storeLocals (a0 :: a1 :: o :: l).toArray 2 v = some (a0 :: a1 :: .val v :: l).toArray := sl (o := o) rfl rfl h
theorem s3 {a0 a1 a2 o : Slot} {l : List Slot} {v : Value} (h : pl o v = true) : storeLocals (a0 :: a1 :: a2 :: o :: l).toArray 3 v = some (a0 :: a1 :: a2 :: .val v :: l).toArray := sl (o := o) rfl rfl h
theorem s4 {a0 a1 a2 a3 o : Slot} {l : List Slot} {v : Value} (h : pl o v = true) : storeLocals (a0 :: a1 :: a2 :: a3 :: o :: l).toArray 4 v = some (a0 :: a1 :: a2 :: a3 :: .val v :: l).toArray := sl (o := o) rfl rfl h
theorem s5 {a0 a1 a2 a3 a4 o : Slot} {l : List Slot} {v : Value} (h : pl o v = true) : storeLocals (a0 :: a1 :: a2 :: a3 :: a4 :: o :: l).toArray 5 v = some (a0 :: a1 :: a2 :: a3 :: a4 :: .val v :: l).toArray := sl (o := o) rfl rfl h
theorem s6 {a0 a1 a2 a3 a4 a5 o : Slot} {l : List Slot} {v : Value} (h : pl o v = true) : storeLocals (a0 :: a1 :: a2 :: a3 :: a4 :: a5 :: o :: l).toArray 6 v = some (a0 :: a1 :: a2 :: a3 :: a4 :: a5 :: .val v :: l).toArray := sl (o := o) rfl rfl h
theorem s7 {a0 a1 a2 a3 a4 a5 a6 o : Slot} {l : List Slot} {v : Value} (h : pl o v = true) : storeLocals (a0 :: a1 :: a2 :: a3 :: a4 :: a5 :: a6 :: o :: l).toArray 7 v = some (a0 :: a1 :: a2 :: a3 :: a4 :: a5 :: a6 :: .val v :: l).toArray := sl (o := o) rfl rfl h
theorem s8 {a0 a1 a2 a3 a4 a5 a6 a7 o : Slot} {l : List Slot} {v : Value} (h : pl o v = true) : storeLocals (a0 :: a1 :: a2 :: a3 :: a4 :: a5 :: a6 :: a7 :: o :: l).toArray 8 v = some (a0 :: a1 :: a2 :: a3 :: a4 :: a5 :: a6 :: a7 :: .val v :: l).toArray := sl (o := o) rfl rfl h
theorem s9 {a0 a1 a2 a3 a4 a5 a6 a7 a8 o : Slot} {l : List Slot} {v : Value} (h : pl o v = true) : storeLocals (a0 :: a1 :: a2 :: a3 :: a4 :: a5 :: a6 :: a7 :: a8 :: o :: l).toArray 9 v = some (a0 :: a1 :: a2 :: a3 :: a4 :: a5 :: a6 :: a7 :: a8 :: .val v :: l).toArray := sl (o := o) rfl rfl h
theorem s10 {a0 a1 a2 a3 a4 a5 a6 a7 a8 a9 o : Slot} {l : List Slot} {v : Value} (h : pl o v = true) : storeLocals (a0 :: a1 :: a2 :: a3 :: a4 :: a5 :: a6 :: a7 :: a8 :: a9 :: o :: l).toArray 10 v = some (a0 :: a1 :: a2 :: a3 :: a4 :: a5 :: a6 :: a7 :: a8 :: a9 :: .val v :: l).toArray := sl (o := o) rfl rfl h
theorem s11 {a0 a1 a2 a3 a4 a5 a6 a7 a8 a9 a10 o : Slot} {l : List Slot} {v : Value} (h : pl o v = true) : storeLocals (a0 :: a1 :: a2 :: a3 :: a4 :: a5 :: a6 :: a7 :: a8 :: a9 :: a10 :: o :: l).toArray 11 v = some (a0 :: a1 :: a2 :: a3 :: a4 :: a5 :: a6 :: a7 :: a8 :: a9 :: a10 :: .val v :: l).toArray := sl (o := o) rfl rfl h
section Z
variable {p : Program} {l : Launch} {e : Env} {R : Room} {s : State} {m : MethodId} {args : Array Value} {below : List Frame} {meth : Method} {c : Code} {T : State} {locs : List Loc} {cells slots : Nat} {G : Outcome → State → Prop} {code : ByteArray} {pc pc' : Nat} {ls ls' : Array Slot} {st : List Value}
theorem zil (X : Stand p l e R s m args below meth c T locs cells slots) (B : HB p c code) {k : Nat} {v : Int32} (d : De code pc 2 pc' (.iload k)) (h : ls[k]? = some (.val (.int v))) (K : Go p e below G T (mkF m pc' ls (.int v :: st))) : Go p e below G T (mkF m pc ls (st)) := by
  obtain ⟨x, rfl⟩ := B; obtain ⟨d, rfl⟩ := d
  exact Go.by (fun _ k => XS.iload X.here x rfl d h k) K
theorem zal (X : Stand p l e R s m args below meth c T locs cells slots) (B : HB p c code) {k : Nat} {v : Addr} (d : De code pc 2 pc' (.aload k)) (h : ls[k]? = some (.val (.ref v))) (K : Go p e below G T (mkF m pc' ls (.ref v :: st))) : Go p e below G T (mkF m pc ls (st)) := by
  obtain ⟨x, rfl⟩ := B; obtain ⟨d, rfl⟩ := d
  exact Go.by (fun _ k => XS.aload X.here x rfl d h rfl k) K
theorem zis (X : Stand p l e R s m args below meth c T locs cells slots) (B : HB p c code) {k : Nat} {v : Int32} (d : De code pc 2 pc' (.istore k)) (h : storeLocals ls k (.int v) = some ls') (K : Go p e below G T (mkF m pc' ls' (st))) : Go p e below G T (mkF m pc ls (.int v :: st)) := by
  obtain ⟨x, rfl⟩ := B; obtain ⟨d, rfl⟩ := d
  exact Go.by (fun _ k => XS.istore X.here x rfl d rfl h k) K
theorem zas (X : Stand p l e R s m args below meth c T locs cells slots) (B : HB p c code) {k : Nat} {v : Value} (d : De code pc 2 pc' (.astore k)) (h : storeLocals ls k v = some ls') (hr : v.isRef = true) (K : Go p e below G T (mkF m pc' ls' (st))) : Go p e below G T (mkF m pc ls (v :: st)) := by
  obtain ⟨x, rfl⟩ := B; obtain ⟨d, rfl⟩ := d
  exact Go.by (fun _ k => XS.astore X.here x rfl d rfl hr h k) K
theorem zilN (X : Stand p l e R s m args below meth c T locs cells slots) (B : HB p c code) {k : Fin 4} {v : Int32} (d : De code pc 1 pc' (.iload_n k)) (h : ls[k.val]? = some (.val (.int v))) (K : Go p e below G T (mkF m pc' ls (.int v :: st))) : Go p e below G T (mkF m pc ls (st)) := by
  obtain ⟨x, rfl⟩ := B; obtain ⟨d, rfl⟩ := d
  exact Go.by (fun _ k => XS.iloadN X.here x rfl d h k) K
theorem zalN (X : Stand p l e R s m args below meth c T locs cells slots) (B : HB p c code) {k : Fin 4} {v : Addr} (d : De code pc 1 pc' (.aload_n k)) (h : ls[k.val]? = some (.val (.ref v))) (K : Go p e below G T (mkF m pc' ls (.ref v :: st))) : Go p e below G T (mkF m pc ls (st)) := by
  obtain ⟨x, rfl⟩ := B; obtain ⟨d, rfl⟩ := d
  exact Go.by (fun _ k => XS.aloadN X.here x rfl d h rfl k) K
theorem zisN (X : Stand p l e R s m args below meth c T locs cells slots) (B : HB p c code) {k : Fin 4} {v : Int32} (d : De code pc 1 pc' (.istore_n k)) (h : storeLocals ls k.val (.int v) = some ls') (K : Go p e below G T (mkF m pc' ls' (st))) : Go p e below G T (mkF m pc ls (.int v :: st)) := by
  obtain ⟨x, rfl⟩ := B; obtain ⟨d, rfl⟩ := d
  exact Go.by (fun _ k => XS.istoreN X.here x rfl d rfl h k) K
theorem zasN (X : Stand p l e R s m args below meth c T locs cells slots) (B : HB p c code) {k : Fin 4} {v : Value} (d : De code pc 1 pc' (.astore_n k)) (h : storeLocals ls k.val v = some ls') (hr : v.isRef = true) (K : Go p e below G T (mkF m pc' ls' (st))) : Go p e below G T (mkF m pc ls (v :: st)) := by
  obtain ⟨x, rfl⟩ := B; obtain ⟨d, rfl⟩ := d
  exact Go.by (fun _ k => XS.astoreN X.here x rfl d rfl hr h k) K
theorem zc0 (X : Stand p l e R s m args below meth c T locs cells slots) (B : HB p c code)  (d : De code pc 1 pc' (.iconst 0))  (K : Go p e below G T (mkF m pc' ls (.int 0 :: st))) : Go p e below G T (mkF m pc ls (st)) := by
  obtain ⟨x, rfl⟩ := B; obtain ⟨d, rfl⟩ := d
  exact Go.by (fun _ k => XS.iconst X.here x rfl d k) K
theorem zc1 (X : Stand p l e R s m args below meth c T locs cells slots) (B : HB p c code)  (d : De code pc 1 pc' (.iconst 1))  (K : Go p e below G T (mkF m pc' ls (.int 1 :: st))) : Go p e below G T (mkF m pc ls (st)) := by
  obtain ⟨x, rfl⟩ := B; obtain ⟨d, rfl⟩ := d
  exact Go.by (fun _ k => XS.iconst X.here x rfl d k) K
theorem zc2 (X : Stand p l e R s m args below meth c T locs cells slots) (B : HB p c code)  (d : De code pc 1 pc' (.iconst 2))  (K : Go p e below G T (mkF m pc' ls (.int 2 :: st))) : Go p e below G T (mkF m pc ls (st)) := by
  obtain ⟨x, rfl⟩ := B; obtain ⟨d, rfl⟩ := d
  exact Go.by (fun _ k => XS.iconst X.here x rfl d k) K
theorem zc3 (X : Stand p l e R s m args below meth c T locs cells slots) (B : HB p c code)  (d : De code pc 1 pc' (.iconst 3))  (K : Go p e below G T (mkF m pc' ls (.int 3 :: st))) : Go p e below G T (mkF m pc ls (st)) := by
  obtain ⟨x, rfl⟩ := B; obtain ⟨d, rfl⟩ := d
  exact Go.by (fun _ k => XS.iconst X.here x rfl d k) K
theorem zbp (X : Stand p l e R s m args below meth c T locs cells slots) (B : HB p c code) {i : Int} {v : Int32} (d : De code pc 2 pc' (.bipush i)) (hv : (Int8.ofInt i).toInt32 = v) (K : Go p e below G T (mkF m pc' ls (.int v :: st))) : Go p e below G T (mkF m pc ls (st)) := by
  obtain ⟨x, rfl⟩ := B; obtain ⟨d, rfl⟩ := d; subst hv
  exact Go.by (fun _ k => XS.bipush X.here x rfl d k) K
theorem zsp (X : Stand p l e R s m args below meth c T locs cells slots) (B : HB p c code) {i : Int} {v : Int32} (d : De code pc 3 pc' (.sipush i)) (hv : (Int16.ofInt i).toInt32 = v) (K : Go p e below G T (mkF m pc' ls (.int v :: st))) : Go p e below G T (mkF m pc ls (st)) := by
  obtain ⟨x, rfl⟩ := B; obtain ⟨d, rfl⟩ := d; subst hv
  exact Go.by (fun _ k => XS.sipush X.here x rfl d k) K
theorem znull (X : Stand p l e R s m args below meth c T locs cells slots) (B : HB p c code)  (d : De code pc 1 pc' .aconst_null)  (K : Go p e below G T (mkF m pc' ls (.null :: st))) : Go p e below G T (mkF m pc ls (st)) := by
  obtain ⟨x, rfl⟩ := B; obtain ⟨d, rfl⟩ := d
  exact Go.by (fun _ k => XS.aconstNull X.here x rfl d k) K
theorem ziadd (X : Stand p l e R s m args below meth c T locs cells slots) (B : HB p c code) {x y v : Int32} (d : De code pc 1 pc' .iadd) (hv : x + y = v) (K : Go p e below G T (mkF m pc' ls (.int v :: st))) : Go p e below G T (mkF m pc ls (.int y :: .int x :: st)) := by
  obtain ⟨x, rfl⟩ := B; obtain ⟨d, rfl⟩ := d; subst hv
  exact Go.by (fun _ k => XS.iadd X.here x rfl d rfl k) K
theorem zisub (X : Stand p l e R s m args below meth c T locs cells slots) (B : HB p c code) {x y v : Int32} (d : De code pc 1 pc' .isub) (hv : x - y = v) (K : Go p e below G T (mkF m pc' ls (.int v :: st))) : Go p e below G T (mkF m pc ls (.int y :: .int x :: st)) := by
  obtain ⟨x, rfl⟩ := B; obtain ⟨d, rfl⟩ := d; subst hv
  exact Go.by (fun _ k => XS.isub X.here x rfl d rfl k) K
theorem ziand (X : Stand p l e R s m args below meth c T locs cells slots) (B : HB p c code) {x y v : Int32} (d : De code pc 1 pc' .iand) (hv : x &&& y = v) (K : Go p e below G T (mkF m pc' ls (.int v :: st))) : Go p e below G T (mkF m pc ls (.int y :: .int x :: st)) := by
  obtain ⟨x, rfl⟩ := B; obtain ⟨d, rfl⟩ := d; subst hv
  exact Go.by (fun _ k => XS.iand X.here x rfl d rfl k) K
theorem zishl (X : Stand p l e R s m args below meth c T locs cells slots) (B : HB p c code) {x y v : Int32} (d : De code pc 1 pc' .ishl) (hv : x <<< (y &&& 31) = v) (K : Go p e below G T (mkF m pc' ls (.int v :: st))) : Go p e below G T (mkF m pc ls (.int y :: .int x :: st)) := by
  obtain ⟨x, rfl⟩ := B; obtain ⟨d, rfl⟩ := d; subst hv
  exact Go.by (fun _ k => XS.ishl X.here x rfl d rfl k) K
theorem zishr (X : Stand p l e R s m args below meth c T locs cells slots) (B : HB p c code) {x y v : Int32} (d : De code pc 1 pc' .ishr) (hv : x >>> (y &&& 31) = v) (K : Go p e below G T (mkF m pc' ls (.int v :: st))) : Go p e below G T (mkF m pc ls (.int y :: .int x :: st)) := by
  obtain ⟨x, rfl⟩ := B; obtain ⟨d, rfl⟩ := d; subst hv
  exact Go.by (fun _ k => XS.ishr X.here x rfl d rfl k) K
theorem ziushr (X : Stand p l e R s m args below meth c T locs cells slots) (B : HB p c code) {x y v : Int32} (d : De code pc 1 pc' .iushr) (hv : (x.toUInt32 >>> (y &&& 31).toUInt32).toInt32 = v) (K : Go p e below G T (mkF m pc' ls (.int v :: st))) : Go p e below G T (mkF m pc ls (.int y :: .int x :: st)) := by
  obtain ⟨x, rfl⟩ := B; obtain ⟨d, rfl⟩ := d; subst hv
  exact Go.by (fun _ k => XS.iushr X.here x rfl d rfl k) K
theorem zi2c (X : Stand p l e R s m args below meth c T locs cells slots) (B : HB p c code) {x : Int32} {v : Int32} (d : De code pc 1 pc' .i2c) (hv : x.toUInt32.toUInt16.toUInt32.toInt32 = v) (K : Go p e below G T (mkF m pc' ls (.int v :: st))) : Go p e below G T (mkF m pc ls (.int x :: st)) := by
  obtain ⟨x, rfl⟩ := B; obtain ⟨d, rfl⟩ := d; subst hv
  exact Go.by (fun _ k => XS.i2c X.here x rfl d rfl k) K
theorem zdup (X : Stand p l e R s m args below meth c T locs cells slots) (B : HB p c code) {v : Value} (d : De code pc 1 pc' .dup) (h : v.category = 1) (K : Go p e below G T (mkF m pc' ls (v :: v :: st))) : Go p e below G T (mkF m pc ls (v :: st)) := by
  obtain ⟨x, rfl⟩ := B; obtain ⟨d, rfl⟩ := d
  exact Go.by (fun _ k => XS.dup X.here x rfl d rfl h k) K
theorem zpop (X : Stand p l e R s m args below meth c T locs cells slots) (B : HB p c code) {v : Value} (d : De code pc 1 pc' .pop) (h : v.category = 1) (K : Go p e below G T (mkF m pc' ls (st))) : Go p e below G T (mkF m pc ls (v :: st)) := by
  obtain ⟨x, rfl⟩ := B; obtain ⟨d, rfl⟩ := d
  exact Go.by (fun _ k => XS.pop X.here x rfl d rfl h k) K
theorem zgo (X : Stand p l e R s m args below meth c T locs cells slots) (B : HB p c code) {o : Int}  (d : Dj code pc pc' (.goto o) o)  (K : Go p e below G T (mkF m pc' ls (st))) : Go p e below G T (mkF m pc ls (st)) := by
  obtain ⟨x, rfl⟩ := B
  exact Go.by (fun _ k => XS.goto X.here x rfl (pc0 := pc) (pc' := pc') rfl d.1 d.2.1 d.2.2 k) K
theorem zY (X : Stand p l e R s m args below meth c T locs cells slots) (B : HB p c code) {o : Int} {cd : ClassFile.Cond} {x : Int32} (d : Dj code pc pc' (.ifCond cd o) o) (h : ifCond.holds cd x = true) (K : Go p e below G T (mkF m pc' ls (st))) : Go p e below G T (mkF m pc ls (.int x :: st)) := by
  obtain ⟨x, rfl⟩ := B
  exact Go.by (fun _ k => XS.ifYes X.here x rfl (pc0 := pc) (pc' := pc') rfl d.1 rfl h d.2.1 d.2.2 k) K
theorem zCY (X : Stand p l e R s m args below meth c T locs cells slots) (B : HB p c code) {o : Int} {cd : ClassFile.Cond} {x y : Int32} (d : Dj code pc pc' (.if_icmp cd o) o) (h : if_icmp.holds cd x y = true) (K : Go p e below G T (mkF m pc' ls (st))) : Go p e below G T (mkF m pc ls (.int y :: .int x :: st)) := by
  obtain ⟨x, rfl⟩ := B
  exact Go.by (fun _ k => XS.icmpYes X.here x rfl (pc0 := pc) (pc' := pc') rfl d.1 rfl h d.2.1 d.2.2 k) K
theorem zN (X : Stand p l e R s m args below meth c T locs cells slots) (B : HB p c code) {cd : ClassFile.Cond} {o : Int} {x : Int32} (d : De code pc 3 pc' (.ifCond cd o)) (h : ifCond.holds cd x = false) (K : Go p e below G T (mkF m pc' ls (st))) : Go p e below G T (mkF m pc ls (.int x :: st)) := by
  obtain ⟨x, rfl⟩ := B; obtain ⟨d, rfl⟩ := d
  exact Go.by (fun _ k => XS.ifNo X.here x rfl d rfl h k) K
theorem zCN (X : Stand p l e R s m args below meth c T locs cells slots) (B : HB p c code) {cd : ClassFile.Cond} {o : Int} {x y : Int32} (d : De code pc 3 pc' (.if_icmp cd o)) (h : if_icmp.holds cd x y = false) (K : Go p e below G T (mkF m pc' ls (st))) : Go p e below G T (mkF m pc ls (.int y :: .int x :: st)) := by
  obtain ⟨x, rfl⟩ := B; obtain ⟨d, rfl⟩ := d
  exact Go.by (fun _ k => XS.icmpNo X.here x rfl d rfl h k) K
theorem znY (X : Stand p l e R s m args below meth c T locs cells slots) (B : HB p c code) {o : Int}  (d : Dj code pc pc' (.ifnull o) o)  (K : Go p e below G T (mkF m pc' ls (st))) : Go p e below G T (mkF m pc ls (.null :: st)) := by
  obtain ⟨x, rfl⟩ := B
  exact Go.by (fun _ k => XS.ifnullYes X.here x rfl (pc0 := pc) (pc' := pc') rfl d.1 rfl d.2.1 d.2.2 k) K
theorem znnY (X : Stand p l e R s m args below meth c T locs cells slots) (B : HB p c code) {o : Int} {b : Addr} (d : Dj code pc pc' (.ifnonnull o) o)  (K : Go p e below G T (mkF m pc' ls (st))) : Go p e below G T (mkF m pc ls (.ref b :: st)) := by
  obtain ⟨x, rfl⟩ := B
  exact Go.by (fun _ k => XS.ifnonnullYes X.here x rfl (pc0 := pc) (pc' := pc') rfl d.1 rfl d.2.1 d.2.2 k) K
theorem znN (X : Stand p l e R s m args below meth c T locs cells slots) (B : HB p c code) {o : Int} {b : Addr} (d : De code pc 3 pc' (.ifnull o))  (K : Go p e below G T (mkF m pc' ls (st))) : Go p e below G T (mkF m pc ls (.ref b :: st)) := by
  obtain ⟨x, rfl⟩ := B; obtain ⟨d, rfl⟩ := d
  exact Go.by (fun _ k => XS.ifnullNo X.here x rfl d rfl k) K
end Z
section Y
variable {p : Program} {l : Launch} {e : Env} {R : Room} {s Z : State} {m : MethodId} {args a0 : Array Value} {below : List Frame} {meth : Method} {c : Code} {T : State} {locs : List Loc} {cells slots : Nat} {G : Outcome → State → Prop} {code : ByteArray} {pc pc' : Nat} {ls : Array Slot} {st st' rest argsL : List Value} {h : Heap} {own C : String} {i : Nat} {y z : MethodName} {bytes : ByteArray} {maxL : Nat} {ret : Option FieldType} {rm : Room} {Q : Option Value → Heap → List Loc → Prop} {a : Addr} {v : Value}
/-- a contract -/
abbrev MF (l : Launch) (Z : State) (y : MethodName) (w : Jvm.Cond) (ws : List Jvm.Cond) (R : Room) (as' : Array Value) (h : Heap) (Q : Option Value → Heap → List Loc → Prop) : Prop :=
  MetFree l y (head1 (w :: ws) R) (fun a U => a = as' ∧ Z.Warmed39 U.vm ∧ U.heap = h) (fun _ _ _ _ _ => True) (fun _ U o U' => Out U Q R.cells R.slots o U')
theorem MF.of {ws : List Jvm.Cond} (C : String) (hC : y.cls = C) (ls : Array Slot) (hp : plainFor y = true) (hf : ∀ m, entryFrame m args maxL = mkF m 0 ls [])
    (K : ∀ p e s m below meth c T, Z.Warmed39 s.vm → s.heap = h → HB p c bytes → c.maxLocals = maxL → meth.sig.returnType = ret → meth.locks = false → s.vm.findClass C = some m.cls → meth.name = y.name → Stand p l e R s m args below meth c T [] 0 0 → T.heap = h → Go p e below (Out s Q R.cells R.slots) T (mkF m 0 ls [])) : MF l Z y (Jvm.Cond.code y bytes maxL ret) ws R args h Q := by
  subst hC
  refine MetFree.of_bodySF hp hisR ?_
  intro p e s m args below meth c T Bd hml hP hK
  obtain ⟨rfl, hZ, hh⟩ := hP
  have k := K p e s m below meth c T hZ hh ⟨Bd.exec, Bd.bytes⟩ hml Bd.returns (BodyLoose.notSynchronized Bd) (findClass_of_methodNamed Bd.named) (name_of_methodNamed Bd.named Bd.method).1 (Stand.of_body Bd) (by rw [← hh, Bd.state]; rfl)
  rw [← hf m] at k
  exact k
theorem zgf (X : Stand p l e R s m args below meth c T locs cells slots) (B : HB p c code) (hZ : Z.Warmed39 s.vm) {R0 O n t : String} (hown : s.vm.findClass own = some m.cls) (w : (Jvm.Cond.fieldLink own i R0 n t).before a0 Z = true) (via : Via Z R0 O n t) (eT : T.heap = h) (F : Fld Z h a O n t v) (d : De code pc 3 pc' (.getfield i)) (K : ∀ T', Stand p l e R s m args below meth c T' locs cells slots → T'.heap = h → Go p e below G T' (mkF m pc' ls (v :: st))) : Go p e below G T (mkF m pc ls (.ref a :: st)) := by
  obtain ⟨x, rfl⟩ := B; obtain ⟨d, rfl⟩ := d
  obtain ⟨_, X, q, k⟩ := getF X x hZ (host := "") hown (Or.inl w) via eT F (g := mkF m pc ls (.ref a :: st)) rfl rfl d
  exact Go.by k (K _ X q)
theorem zgs (X : Stand p l e R s m args below meth c T locs cells slots) (B : HB p c code) (hZ : Z.Warmed39 s.vm) {O n t : String} (hown : s.vm.findClass own = some m.cls) (w : (Jvm.Cond.fieldLink own i O n t).before a0 Z = true) (eT : T.heap = h) (F : Sta Z h O n t v) (d : De code pc 3 pc' (.getstatic i)) (K : ∀ T', Stand p l e R s m args below meth c T' locs cells slots → T'.heap = h → Go p e below G T' (mkF m pc' ls (v :: st))) : Go p e below G T (mkF m pc ls (st)) := by
  obtain ⟨x, rfl⟩ := B; obtain ⟨d, rfl⟩ := d
  obtain ⟨_, X, q, k⟩ := getS2 X x hZ (host := "") hown (Or.inl w) Via.refl eT F (g := mkF m pc ls st) rfl d
  exact Go.by k (K _ X q)
theorem Go.b1 {A1 A2 A3 : State → Heap → Prop} (H : ∃ T' h', A1 T' h' ∧ A2 T' h' ∧ A3 T' h' ∧ ∀ t, Steps p.tables e below (T'.setTop { mkF m pc ls st with pc := pc + 1, stack := st' }) t → Steps p.tables e below (T.setTop (mkF m pc ls st)) t) (K : ∀ T' h', A1 T' h' → A2 T' h' → A3 T' h' → Go p e below G T' (mkF m (pc + 1) ls st')) : Go p e below G T (mkF m pc ls st) := by
  obtain ⟨_, _, H⟩ := H
  exact Go.by H.2.2.2 (K _ _ H.1 H.2.1 H.2.2.1)
theorem Go.f2 (H : ∀ t, Steps p.tables e below (T.setTop { mkF m pc ls st with pc := pc + 2, stack := st' }) t → Steps p.tables e below (T.setTop (mkF m pc ls st)) t) (K : Go p e below G T (mkF m (pc + 2) ls st')) : Go p e below G T (mkF m pc ls st) := Go.by H K
theorem Go.a3 {A1 A2 : State → Prop} (H : ∃ T', A1 T' ∧ A2 T' ∧ ∀ t, Steps p.tables e below (T'.setTop { mkF m pc ls st with pc := pc + 3, stack := st' }) t → Steps p.tables e below (T.setTop (mkF m pc ls st)) t) (K : ∀ T', A1 T' → A2 T' → Go p e below G T' (mkF m (pc + 3) ls st')) : Go p e below G T (mkF m pc ls st) := by
  obtain ⟨_, H⟩ := H
  exact Go.by H.2.2 (K _ H.1 H.2.1)
theorem Go.b3 {A1 A2 A3 : State → Heap → Prop} (H : ∃ T' h', A1 T' h' ∧ A2 T' h' ∧ A3 T' h' ∧ ∀ t, Steps p.tables e below (T'.setTop { mkF m pc ls st with pc := pc + 3, stack := st' }) t → Steps p.tables e below (T.setTop (mkF m pc ls st)) t) (K : ∀ T' h', A1 T' h' → A2 T' h' → A3 T' h' → Go p e below G T' (mkF m (pc + 3) ls st')) : Go p e below G T (mkF m pc ls st) := by
  obtain ⟨_, _, H⟩ := H
  exact Go.by H.2.2.2 (K _ _ H.1 H.2.1 H.2.2.1)
theorem zlb (X : Stand p l e R s m args below meth c T locs cells slots) (B : HB p c code) (hZ : Z.Warmed39 s.vm) (eT : T.heap = h) {k : ClassId} {z j : Int32} {vs : List Value} {dv : Value} (V : Arv Z h a k .byte z vs dv) (q : ¬ j < 0 ∧ j < z) (u : vs.getD j.toNatClampNeg dv = v) (d : De code pc 1 pc' .baload) (K : Go p e below G T (mkF m pc' ls (v :: st))) : Go p e below G T (mkF m pc ls (.int j :: .ref a :: st)) := by
  obtain ⟨x, rfl⟩ := B; obtain ⟨d, rfl⟩ := d; subst eT
  obtain ⟨_, A, _, S, _, H, _⟩ := V
  exact Go.by (X.baloadBytes x (j := j) (v := v) A.1 (State.isArrayOf_alike hZ.alike A.2.1) A.2.2 (inb_of S q) (H.at (inb_of S q) u) (g := mkF m pc ls (.int j :: .ref a :: st)) rfl rfl d) K
theorem zln (X : Stand p l e R s m args below meth c T locs cells slots) (B : HB p c code) (hZ : Z.Warmed39 s.vm) (eT : T.heap = h) {k : ClassId} {ty : FieldType} {z : Int32} {vs : List Value} {dv : Value} (V : Arv Z h a k ty z vs dv) (d : De code pc 1 pc' .arraylength) (K : Go p e below G T (mkF m pc' ls (.int z :: st))) : Go p e below G T (mkF m pc ls (.ref a :: st)) := by
  obtain ⟨x, rfl⟩ := B; obtain ⟨d, rfl⟩ := d; subst eT
  obtain ⟨_, A, _, S, M, _, _⟩ := V
  refine Go.by (X.arraylength x A.1 (State.isArrayOf_alike hZ.alike A.2.1) (g := mkF m pc ls (.ref a :: st)) rfl rfl d) ?_
  rw [len_of S M]; exact K
theorem zno (X : Stand p l e R s m args below meth c T locs cells slots) (B : HB p c code) (hZ : Z.Warmed39 s.vm) {n : Nat} (hown : s.vm.findClass own = some m.cls) (w : (Jvm.Cond.classLink own i C).before a0 Z = true) (wi : (Jvm.Cond.instantiable C n).before a0 Z = true) (wz : (Jvm.Cond.initialized C).before a0 Z = true) (eT : T.heap = h) (d : De code pc 3 pc' (.new i)) (hc : Nat.ble (cells + 1) R.cells = true) (hl : Nat.ble (slots + n) R.slots = true) (K : ∀ T' h' a, a = h.size → Stand p l e R s m args below meth c T' locs (cells + 1) (slots + n) → T'.heap = h' → Ext h h' → Exa Z h' a C → (∀ {O nm d : String} {ty : FieldType}, Laid Z a0 C O nm d → parseFieldDescriptor d = some ty → Fld Z h' a O nm d (defaultValue ty)) → Unt h' a → Go p e below G T' (mkF m pc' ls (.ref a :: st))) : Go p e below G T (mkF m pc ls (st)) := by
  obtain ⟨x, rfl⟩ := B; obtain ⟨d, rfl⟩ := d
  obtain ⟨_, _, X, q, E, A, D, U, k⟩ := newO X x hZ hown w wi wz eT (g := mkF m pc ls st) rfl d (Nat.le_of_ble_eq_true hc) (Nat.le_of_ble_eq_true hl)
  exact Go.by k (K _ _ _ rfl X q E A D U)
theorem znp (X : Stand p l e R s m args below meth c T locs cells slots) (B : HB p c code) (hZ : Z.Warmed39 s.vm) {aty : ArrayType} (w : (Jvm.Cond.arrayClass (newarray.typeOf aty)).before a0 Z = true) (eT : T.heap = h) (d : De code pc 2 pc' (.newarray aty)) {n : Int32} (hn : ¬ n < 0) {cap : Nat} (hcap : n.toNatClampNeg ≤ cap) (hb : Nat.ble (cap * 8) 536870912 = true) (hc : Nat.ble (cells + 1) R.cells = true) (hl : Nat.ble (slots + cap) R.slots = true) (K : ∀ T' h' cA a, a = h.size → Stand p l e R s m args below meth c T' locs (cells + 1) (slots + cap) → T'.heap = h' → Ext h h' → Arr Z h' a (newA cA (newarray.typeOf aty) n) (newarray.typeOf aty) → Go p e below G T' (mkF m pc' ls (.ref a :: st))) : Go p e below G T (mkF m pc ls (.int n :: st)) := by
  obtain ⟨x, rfl⟩ := B; obtain ⟨d, rfl⟩ := d
  obtain ⟨_, _, _, X, q, E, A, k⟩ := newP X x hZ w eT (g := mkF m pc ls (.int n :: st)) rfl d rfl hn hcap (Nat.le_of_ble_eq_true hb) (Nat.le_of_ble_eq_true hc) (Nat.le_of_ble_eq_true hl)
  exact Go.by k (K _ _ _ _ rfl X q E A )
theorem znq (X : Stand p l e R s m args below meth c T locs cells slots) (B : HB p c code) (hZ : Z.Warmed39 s.vm) {aty : ArrayType} (w : (Jvm.Cond.arrayClass (newarray.typeOf aty)).before a0 Z = true) (eT : T.heap = h) (d : De code pc 2 pc' (.newarray aty)) {n : Int32} (hn : ¬ n < 0) {cap : Nat} (hcap : n.toNatClampNeg ≤ cap) (hb : Nat.ble (cap * 8) 536870912 = true) (hc : Nat.ble (cells + 1) R.cells = true) (hl : Nat.ble (slots + cap) R.slots = true) {ad : String} (had : "[" ++ (newarray.typeOf aty).toString = ad) (K : ∀ T' h' cA a, a = h.size → Stand p l e R s m args below meth c T' locs (cells + 1) (slots + cap) → T'.heap = h' → Ext h h' → Arr Z h' a (newA cA (newarray.typeOf aty) n) (newarray.typeOf aty) → Exa Z h' a ad → Go p e below G T' (mkF m pc' ls (.ref a :: st))) : Go p e below G T (mkF m pc ls (.int n :: st)) := by
  obtain ⟨x, rfl⟩ := B; obtain ⟨d, rfl⟩ := d
  obtain ⟨_, _, _, X, q, E, A, Ex, k⟩ := newPE X x hZ w eT (g := mkF m pc ls (.int n :: st)) rfl d rfl hn hcap (Nat.le_of_ble_eq_true hb) (Nat.le_of_ble_eq_true hc) (Nat.le_of_ble_eq_true hl) had
  exact Go.by k (K _ _ _ _ rfl X q E A Ex)
theorem zcs (X : Stand p l e R s m args below meth c T locs cells slots) (B : HB p c code) (hZ : Z.Warmed39 s.vm) (hown : s.vm.findClass own = some m.cls) (w1 : (Jvm.Cond.methodLink own i y).before a0 Z = true) (w2 : (Jvm.Cond.static y).before a0 Z = true) (w3 : (Jvm.Cond.initialized y.cls).before a0 Z = true) (w4 : (Jvm.Cond.code y bytes maxL ret).before a0 Z = true) (hy : y.cls ≠ "java/lang/invoke/MethodHandle" ∧ y.cls ≠ "java/lang/invoke/VarHandle") (M : MF l Z y (Jvm.Cond.code y bytes maxL ret) [] rm argsL.toArray h Q) (eT : T.heap = h) (hz : c.maxLocals = ls.size) {ps : List FieldType} {r : Option FieldType} (hd : parseMethodDescriptor y.desc = some ⟨ps, r⟩) (hn : argsL.length = ps.length) (d : De code pc 3 pc' (.invokestatic i)) (hs : st = argsL.reverseAux rest) (hf : Nat.ble (rm.frames + 1) R.frames = true) (hL : Nat.ble ((rest.map fun v => v.category).sum + (maxL + 11) + rm.locals) R.locals = true) (hc : Nat.ble (cells + rm.cells) R.cells = true) (hS : Nat.ble (slots + rm.slots) R.slots = true) (K : ∀ v T' L, Stand p l e R s m args below meth c T' (locs ++ L) (cells + rm.cells) (slots + rm.slots) → Q v T'.heap L → Go p e below G T' (mkF m pc' ls (v.toList ++ rest))) : Go p e below G T (mkF m pc ls (st)) := by
  obtain ⟨x, rfl⟩ := B; obtain ⟨d, rfl⟩ := d
  rw [List.reverseAux_eq] at hs
  obtain ⟨_, _, ⟨_, _, _, _⟩, -, X, ⟨_, hQ, l, y, z⟩, k⟩ := Jvm.LawKit.callS X x hown (mvT hZ w1) (mvT hZ w2) (mvT hZ w3) (mvT hZ w4) hy (backOf (W := (rest.map fun v => v.category).sum) M hZ w4 w3 (Nat.le_of_ble_eq_true hf) (Nat.le_of_ble_eq_true hL)) (g := mkF m pc ls st) rfl hz.symm (lenOf hd hn) hs (by show 2 * 0 + _ ≤ _; exact Nat.le_of_eq (Nat.zero_add _)) d (fun _ _ => ⟨rfl, eT, Nat.le_of_ble_eq_true hc, Nat.le_of_ble_eq_true hS⟩)
  dsimp only [Pt.U, Pt.locs, Pt.cells, Pt.slots] at X l y z hQ k
  subst l y z
  exact Go.by k (K _ _ _ X hQ)
theorem zci (X : Stand p l e R s m args below meth c T locs cells slots) (B : HB p c code) (hZ : Z.Warmed39 s.vm) (hy1 : y.name = "<init>") (hown : s.vm.findClass own = some m.cls) (w1 : (Jvm.Cond.methodLink own i y).before a0 Z = true) (w2 : (Jvm.Cond.instanceMethod y).before a0 Z = true) (w3 : (Jvm.Cond.initialized y.cls).before a0 Z = true) (w4 : (Jvm.Cond.code y bytes maxL none).before a0 Z = true) (hy : y.cls ≠ "java/lang/invoke/MethodHandle" ∧ y.cls ≠ "java/lang/invoke/VarHandle") (M : MF l Z y (Jvm.Cond.code y bytes maxL none) [] rm (.ref a :: argsL).toArray h Q) (eT : T.heap = h) (hz : c.maxLocals = ls.size) {ps : List FieldType} {r : Option FieldType} (hd : parseMethodDescriptor y.desc = some ⟨ps, r⟩) (hn : argsL.length = ps.length) (d : De code pc 3 pc' (.invokespecial i)) (hs : st = argsL.reverseAux (.ref a :: rest)) (hf : Nat.ble (rm.frames + 1) R.frames = true) (hL : Nat.ble ((rest.map fun v => v.category).sum + (maxL + 11) + rm.locals) R.locals = true) (hc : Nat.ble (cells + rm.cells) R.cells = true) (hS : Nat.ble (slots + rm.slots) R.slots = true) (K : ∀ v T' L, Stand p l e R s m args below meth c T' (locs ++ L) (cells + rm.cells) (slots + rm.slots) → Q v T'.heap L → Go p e below G T' (mkF m pc' ls (v.toList ++ rest))) : Go p e below G T (mkF m pc ls (st)) := by
  obtain ⟨x, rfl⟩ := B; obtain ⟨d, rfl⟩ := d
  rw [List.reverseAux_eq] at hs
  obtain ⟨_, _, ⟨_, _, _, _⟩, -, X, ⟨_, hQ, l, y, z⟩, k⟩ := X.specialBack x hy1 hown (mvT hZ w1) (mvT hZ w2) (mvT hZ w4) hy (backOf (W := (rest.map fun v => v.category).sum) M hZ w4 w3 (Nat.le_of_ble_eq_true hf) (Nat.le_of_ble_eq_true hL)) (g := mkF m pc ls st) rfl hz.symm (Steps.refl _) (a := a) (lenOf hd hn) hs (by show 2 * 0 + _ ≤ _; exact Nat.le_of_eq (Nat.zero_add _)) d (fun _ _ => ⟨rfl, eT, Nat.le_of_ble_eq_true hc, Nat.le_of_ble_eq_true hS⟩)
  dsimp only [Pt.U, Pt.locs, Pt.cells, Pt.slots] at X l y z hQ k
  subst l y z
  exact Go.tr k (K _ _ _ X hQ)
theorem zcv (X : Stand p l e R s m args below meth c T locs cells slots) (B : HB p c code) (hZ : Z.Warmed39 s.vm) (hown : s.vm.findClass own = some m.cls) (w1 : (Jvm.Cond.methodLink own i y).before a0 Z = true) (w2 : (Jvm.Cond.declares y).before a0 Z = true) (nf : NotFace s y) (w5 : (Jvm.Cond.selects C y z).before a0 Z = true) (w6 : (Jvm.Cond.instanceMethod z).before a0 Z = true) (w3 : (Jvm.Cond.initialized z.cls).before a0 Z = true) (w4 : (Jvm.Cond.code z bytes maxL ret).before a0 Z = true) (hy : y.cls ≠ "java/lang/invoke/MethodHandle" ∧ y.cls ≠ "java/lang/invoke/VarHandle") (E : Exa Z h a C) (M : MF l Z z (Jvm.Cond.code z bytes maxL ret) [] rm (.ref a :: argsL).toArray h Q) (eT : T.heap = h) (hz : c.maxLocals = ls.size) {ps : List FieldType} {r : Option FieldType} (hd : parseMethodDescriptor y.desc = some ⟨ps, r⟩) (hn : argsL.length = ps.length) (d : De code pc 3 pc' (.invokevirtual i)) (hs : st = argsL.reverseAux (.ref a :: rest)) (hf : Nat.ble (rm.frames + 1) R.frames = true) (hL : Nat.ble ((rest.map fun v => v.category).sum + (maxL + 11) + rm.locals) R.locals = true) (hc : Nat.ble (cells + rm.cells) R.cells = true) (hS : Nat.ble (slots + rm.slots) R.slots = true) (K : ∀ v T' L, Stand p l e R s m args below meth c T' (locs ++ L) (cells + rm.cells) (slots + rm.slots) → Q v T'.heap L → Go p e below G T' (mkF m pc' ls (v.toList ++ rest))) : Go p e below G T (mkF m pc ls (st)) := by
  obtain ⟨x, rfl⟩ := B; obtain ⟨d, rfl⟩ := d
  rw [List.reverseAux_eq] at hs
  obtain ⟨_, _, q1, _, q2⟩ := isOf hZ eT E
  obtain ⟨_, _, ⟨_, _, _, _⟩, -, X, ⟨_, hQ, l, y, z⟩, k⟩ := X.virtualBack x hown (mvT hZ w1) (mvT hZ w2) nf (mvT hZ w5) (mvT hZ w6) hy (backOf (W := (rest.map fun v => v.category).sum) M hZ w4 w3 (Nat.le_of_ble_eq_true hf) (Nat.le_of_ble_eq_true hL)) q1 q2 (g := mkF m pc ls st) rfl hz.symm (Steps.refl _) (lenOf hd hn) hs (by show 2 * 0 + _ ≤ _; exact Nat.le_of_eq (Nat.zero_add _)) d (fun _ _ => ⟨rfl, eT, Nat.le_of_ble_eq_true hc, Nat.le_of_ble_eq_true hS⟩)
  dsimp only [Pt.U, Pt.locs, Pt.cells, Pt.slots] at X l y z hQ k
  subst l y z
  exact Go.tr k (K _ _ _ X hQ)
theorem zcp (X : Stand p l e R s m args below meth c T locs cells slots) (B : HB p c code) (hZ : Z.Warmed39 s.vm) (hown : s.vm.findClass own = some m.cls) (w1 : (Jvm.Cond.methodLink own i y).before a0 Z = true) (w2 : (Jvm.Cond.instanceMethod y).before a0 Z = true) (w5 : (Jvm.Cond.selects y.cls y y).before a0 Z = true) (w6 : (Jvm.Cond.privateMethod y).before a0 Z = true) (w3 : (Jvm.Cond.initialized y.cls).before a0 Z = true) (w4 : (Jvm.Cond.code y bytes maxL ret).before a0 Z = true) (hy : y.cls ≠ "java/lang/invoke/MethodHandle" ∧ y.cls ≠ "java/lang/invoke/VarHandle") (E : Exa Z h a C) (M : MF l Z y (Jvm.Cond.code y bytes maxL ret) [] rm (.ref a :: argsL).toArray h Q) (eT : T.heap = h) (hz : c.maxLocals = ls.size) {ps : List FieldType} {r : Option FieldType} (hd : parseMethodDescriptor y.desc = some ⟨ps, r⟩) (hn : argsL.length = ps.length) (d : De code pc 3 pc' (.invokevirtual i)) (hs : st = argsL.reverseAux (.ref a :: rest)) (hf : Nat.ble (rm.frames + 1) R.frames = true) (hL : Nat.ble ((rest.map fun v => v.category).sum + (maxL + 11) + rm.locals) R.locals = true) (hc : Nat.ble (cells + rm.cells) R.cells = true) (hS : Nat.ble (slots + rm.slots) R.slots = true) (K : ∀ v T' L, Stand p l e R s m args below meth c T' (locs ++ L) (cells + rm.cells) (slots + rm.slots) → Q v T'.heap L → Go p e below G T' (mkF m pc' ls (v.toList ++ rest))) : Go p e below G T (mkF m pc ls (st)) := by
  obtain ⟨x, rfl⟩ := B; obtain ⟨d, rfl⟩ := d
  rw [List.reverseAux_eq] at hs
  obtain ⟨_, _, _, _, _, q1, _, q2⟩ := isOf hZ eT E
  obtain ⟨_, _, ⟨_, _, _, _⟩, -, X, ⟨_, hQ, l, y, z⟩, k⟩ := X.privateBack x hown (mvT hZ w1) (mvT hZ w2) (mvT hZ w5) (Cond.privateMethod_at (args := #[]) (mvP hZ w6)) (mvT hZ w4) hy (backOf (W := (rest.map fun v => v.category).sum) M hZ w4 w3 (Nat.le_of_ble_eq_true hf) (Nat.le_of_ble_eq_true hL)) (g := mkF m pc ls st) rfl hz.symm (Steps.refl _) q1 (fun q hq => by rw [hq] at q2; cases q2) (lenOf hd hn) hs (by show 2 * 0 + _ ≤ _; exact Nat.le_of_eq (Nat.zero_add _)) d (fun _ _ => ⟨rfl, eT, Nat.le_of_ble_eq_true hc, Nat.le_of_ble_eq_true hS⟩)
  dsimp only [Pt.U, Pt.locs, Pt.cells, Pt.slots] at X l y z hQ k
  subst l y z
  exact Go.tr k (K _ _ _ X hQ)
theorem zr0 (X : Stand p l e R s m args below meth c T locs cells slots) (B : HB p c code) (hret : meth.sig.returnType = none) (hlk : meth.locks = false) (d : De code pc 1 pc' .return_) (eT : T.heap = h) (q : Q none h locs) (hc : Nat.ble cells R.cells = true) (hs : Nat.ble slots R.slots = true) : Go p e below (Out s Q R.cells R.slots) T (mkF m pc ls ([])) := by
  subst eT; exact Go.ret0 X B.1 hret hlk (hb B.2 d.1) q (Nat.le_of_ble_eq_true hc) (Nat.le_of_ble_eq_true hs)
theorem zrI (X : Stand p l e R s m args below meth c T locs cells slots) (B : HB p c code) (hret : meth.sig.returnType = some .int) (hlk : meth.locks = false) {x : Int32} (d : De code pc 1 pc' .ireturn) (eT : T.heap = h) (q : Q (some (.int x)) h locs) (hc : Nat.ble cells R.cells = true) (hs : Nat.ble slots R.slots = true) : Go p e below (Out s Q R.cells R.slots) T (mkF m pc ls (.int x :: st)) := by
  subst eT; exact Go.retI X B.1 hret hlk (hb B.2 d.1) q (Nat.le_of_ble_eq_true hc) (Nat.le_of_ble_eq_true hs)
theorem zrN (X : Stand p l e R s m args below meth c T locs cells slots) (B : HB p c code) {t : FieldType} (hret : meth.sig.returnType = some t) (ht : t = .boolean ∨ t = .byte ∨ t = .char ∨ t = .short) (hlk : meth.locks = false) {x : Int32} (d : De code pc 1 pc' .ireturn) (eT : T.heap = h) (q : Q (some (.int (nar t x))) h locs) (hc : Nat.ble cells R.cells = true) (hs : Nat.ble slots R.slots = true) : Go p e below (Out s Q R.cells R.slots) T (mkF m pc ls (.int x :: st)) := by
  subst eT; exact Go.retN X B.1 hret ht hlk (hb B.2 d.1) q (Nat.le_of_ble_eq_true hc) (Nat.le_of_ble_eq_true hs)
theorem zrR (X : Stand p l e R s m args below meth c T locs cells slots) (B : HB p c code) {t : FieldType} (hret : meth.sig.returnType = some t) (hn : narrow t v = v) (ht : t.isReference = true) (hw : v.isRef = true) (hlk : meth.locks = false) (d : De code pc 1 pc' .areturn) (eT : T.heap = h) (q : Q (some v) h locs) (hc : Nat.ble cells R.cells = true) (hs : Nat.ble slots R.slots = true) : Go p e below (Out s Q R.cells R.slots) T (mkF m pc ls (v :: st)) := by
  subst eT; exact Go.retR X B.1 hret hn ht hw hlk (hb B.2 d.1) q (Nat.le_of_ble_eq_true hc) (Nat.le_of_ble_eq_true hs)
end Y
abbrev un : Slot := .unset
abbrev Ro0 : Room := ⟨0, 0, 0, 0⟩
abbrev Ro1 : Room := ⟨1, 0, 0, 13⟩
abbrev Ro2 : Room := ⟨1, 0, 0, 14⟩
abbrev Ro3 : Room := ⟨2, 0, 0, 27⟩
abbrev Ro4 : Room := ⟨3, 0, 0, 40⟩
abbrev Ro5 : Room := ⟨1, 1, 16, 12⟩
abbrev Ro6 : Room := ⟨1, 0, 0, 18⟩
abbrev Ro7 : Room := ⟨2, 0, 0, 33⟩
abbrev Ro8 : Room := ⟨3, 0, 0, 47⟩
abbrev Ro9 : Room := ⟨4, 0, 0, 61⟩
abbrev Ro10 : Room := ⟨1, 0, 0, 12⟩
abbrev Ro11 : Room := ⟨2, 0, 0, 29⟩
abbrev Ro12 : Room := ⟨1, 1, 86, 18⟩
abbrev Ro13 : Room := ⟨3, 1, 86, 48⟩
abbrev Ro14 : Room := ⟨4, 1, 86, 62⟩
abbrev Ro15 : Room := ⟨5, 1, 86, 76⟩
abbrev Ro16 : Room := ⟨2, 1, 16, 25⟩
abbrev Ro17 : Room := ⟨2, 1, 86, 34⟩
abbrev Ro18 : Room := ⟨3, 1, 86, 49⟩
abbrev Ro19 : Room := ⟨4, 1, 86, 65⟩
abbrev Ro20 : Room := ⟨5, 2, 90, 79⟩
abbrev Ro21 : Room := ⟨3, 1, 2752, 42⟩
abbrev Ro22 : Room := ⟨4, 1, 2752, 55⟩
abbrev Ro23 : Room := ⟨5, 1, 2752, 68⟩
abbrev Ro24 : Room := ⟨6, 12, 3220, 93⟩
abbrev Ro25 : Room := ⟨1, 4, 8, 12⟩
abbrev Ro26 : Room := ⟨2, 4, 8, 29⟩
abbrev Ro27 : Room := ⟨3, 6, 12, 43⟩
abbrev Ro28 : Room := ⟨4, 3, 6, 66⟩
abbrev Ro29 : Room := ⟨4, 3, 8, 66⟩
abbrev Ro30 : Room := ⟨4, 3, 10, 66⟩
abbrev mn0 : MethodName := ⟨"java/lang/String", "coder", "()B"⟩
abbrev mn1 : MethodName := ⟨"java/lang/String", "length", "()I"⟩
abbrev mn2 : MethodName := ⟨"jdk/internal/util/Preconditions", "checkIndex", "(IILjava/util/function/BiFunction;)I"⟩
abbrev mn3 : MethodName := ⟨"java/lang/String", "checkIndex", "(II)V"⟩
abbrev mn4 : MethodName := ⟨"java/lang/StringLatin1", "charAt", "([BI)C"⟩
abbrev mn5 : MethodName := ⟨"java/lang/String", "isLatin1", "()Z"⟩
abbrev mn6 : MethodName := ⟨"java/lang/String", "charAt", "(I)C"⟩
abbrev mn7 : MethodName := ⟨"java/lang/AbstractStringBuilder", "<init>", "(I)V"⟩
abbrev mn8 : MethodName := ⟨"java/lang/AbstractStringBuilder", "ensureCapacityInternal", "(I)V"⟩
abbrev mn9 : MethodName := ⟨"java/lang/AbstractStringBuilder", "inflateIfNeededFor", "(Ljava/lang/String;)V"⟩
abbrev mn10 : MethodName := ⟨"java/lang/String", "getBytes", "([BIB)V"⟩
abbrev mn11 : MethodName := ⟨"java/lang/AbstractStringBuilder", "putStringAt", "(ILjava/lang/String;)V"⟩
abbrev mn12 : MethodName := ⟨"java/lang/AbstractStringBuilder", "append", "(Ljava/lang/String;)Ljava/lang/AbstractStringBuilder;"⟩
abbrev mn13 : MethodName := ⟨"java/lang/StringBuilder", "append", "(Ljava/lang/String;)Ljava/lang/StringBuilder;"⟩
abbrev mn14 : MethodName := ⟨"java/lang/AbstractStringBuilder", "isLatin1", "()Z"⟩
abbrev mn15 : MethodName := ⟨"java/lang/AbstractStringBuilder", "getValue", "()[B"⟩
abbrev mn16 : MethodName := ⟨"java/lang/AbstractStringBuilder", "length", "()I"⟩
abbrev mn17 : MethodName := ⟨"java/lang/StringBuilder", "length", "()I"⟩
abbrev mn18 : MethodName := ⟨"java/lang/Math", "max", "(II)I"⟩
abbrev mn19 : MethodName := ⟨"java/lang/Math", "min", "(II)I"⟩
abbrev mn20 : MethodName := ⟨"jdk/internal/util/ArraysSupport", "newLength", "(III)I"⟩
abbrev mn21 : MethodName := ⟨"java/lang/AbstractStringBuilder", "newCapacity", "(I)I"⟩
abbrev mn22 : MethodName := ⟨"java/util/Arrays", "copyOf", "([BI)[B"⟩
abbrev mn23 : MethodName := ⟨"java/lang/StringBuilder", "<init>", "()V"⟩
abbrev mn24 : MethodName := ⟨"java/util/Arrays", "checkLength", "(II)V"⟩
abbrev mn25 : MethodName := ⟨"java/util/Arrays", "copyOfRangeByte", "([BII)[B"⟩
abbrev mn26 : MethodName := ⟨"java/util/Arrays", "copyOfRange", "([BII)[B"⟩
abbrev mn27 : MethodName := ⟨"java/lang/String", "<init>", "(Ljava/lang/AbstractStringBuilder;Ljava/lang/Void;)V"⟩
abbrev mn28 : MethodName := ⟨"java/lang/String", "<init>", "(Ljava/lang/StringBuilder;)V"⟩
abbrev mn29 : MethodName := ⟨"java/lang/StringBuilder", "toString", "()Ljava/lang/String;"⟩
abbrev mn30 : MethodName := ⟨"java/lang/Throwable", "getMessage", "()Ljava/lang/String;"⟩
abbrev mn31 : MethodName := ⟨"java/lang/Throwable", "<init>", "(Ljava/lang/String;)V"⟩
abbrev mn32 : MethodName := ⟨"java/lang/Exception", "<init>", "(Ljava/lang/String;)V"⟩
abbrev mn33 : MethodName := ⟨"com/example/ops5/ops5/RefusedException", "<init>", "(Ljava/lang/String;)V"⟩
abbrev mn34 : MethodName := ⟨"com/example/ops5/ops5/RefusedException", "nameTaken", "(Ljava/lang/String;)Lcom/example/ops5/ops5/RefusedException;"⟩
abbrev mn35 : MethodName := ⟨"java/lang/String", "<init>", "([CIILjava/lang/Void;)V"⟩
abbrev mn36 : MethodName := ⟨"java/lang/String", "<init>", "([C)V"⟩
abbrev mn37 : MethodName := ⟨"com/example/ops5/ops5/RefusedExceptionNameTakenPinLaw", "mk", "(ICCC)Ljava/lang/String;"⟩
abbrev mn38 : MethodName := ⟨"com/example/ops5/ops5/RefusedException", "getMessage", "()Ljava/lang/String;"⟩
abbrev mn39 : MethodName := ⟨"java/lang/String", "equals", "(Ljava/lang/Object;)Z"⟩
abbrev mn40 : MethodName := ⟨"com/example/ops5/ops5/RefusedException", "getCause", "()Ljava/lang/Throwable;"⟩
abbrev mn41 : MethodName := ⟨"java/lang/Throwable", "getCause", "()Ljava/lang/Throwable;"⟩
abbrev mn42 : MethodName := ⟨"java/lang/Object", "<init>", "()V"⟩
abbrev mn43 : MethodName := ⟨"java/lang/System", "arraycopy", "(Ljava/lang/Object;ILjava/lang/Object;II)V"⟩
abbrev ss0 := "java/lang/String"
abbrev ss1 := "java/lang/Throwable"
abbrev ss2 := "java/lang/AbstractStringBuilder"
abbrev ss3 := "coder"
abbrev ss4 := "value"
abbrev ss5 := "java/lang/StringBuilder"
abbrev ss6 := "java/lang/StackTraceElement"
abbrev ss7 := "java/util/List"
abbrev ss8 := "COMPACT_STRINGS"
abbrev ss9 := "count"
abbrev ss10 := "java/lang/Object"
abbrev ss11 := "com/example/ops5/ops5/RefusedException"
abbrev ss12 := "[Ljava/lang/StackTraceElement;"
abbrev ss13 := "Ljava/util/List;"
abbrev ss14 := "com/example/ops5/ops5/RefusedExceptionNameTakenPinLaw"
abbrev ss15 := "detailMessage"
abbrev ss16 := "Ljava/lang/String;"
abbrev ss17 := "Ljava/lang/Throwable;"
abbrev ss18 := "jdk/internal/util/Preconditions"
abbrev ss19 := "UNASSIGNED_STACK"
abbrev ss20 := "SUPPRESSED_SENTINEL"
abbrev ss21 := "SIOOBE_FORMATTER"
abbrev ss22 := "Ljava/util/function/BiFunction;"
abbrev ss23 := "java/util/Arrays"
abbrev ss24 := "suppressedExceptions"
/-- an instance method that its class itself declares is found from that class (no interface) -/
theorem own_same {s : State} {a0 : Array Value} {y z : MethodName} {C : String} (hi : (Jvm.Cond.instanceMethod y).before a0 s = true) (hs : (Jvm.Cond.selects C z z).before a0 s = true) (hc : z.cls = y.cls) (hy : y.cls ≠ "java/lang/invoke/MethodHandle" ∧ y.cls ≠ "java/lang/invoke/VarHandle") : (Jvm.Cond.sameMethod y.cls y.cls y.name y.desc).before a0 s = true := by
  obtain ⟨mk, methM, hnamed, hmethM, -, -⟩ := Cond.instanceMethod_spec hi
  have hfound : s.methodFound? y.cls y.name y.desc = some mk := State.methodFound?_of_named hnamed hy
  have hcl := findClass_of_methodNamed hnamed
  obtain ⟨c2, r2, m2, q1, q2, q3, q4, kP, hkP, hkPi⟩ := Cond.selects_spec hs
  have hcz := findClass_of_methodNamed q3
  rw [hc] at hcz
  have e : mk.cls = m2.cls := Option.some.inj (hcl.symm.trans hcz)
  have hnamed' : s.methodNamed? ⟨y.cls, y.name, y.desc⟩ = some mk := hnamed
  rw [← e] at hkP
  simp [Cond.before, Cond.holds, Cond.value, hcl, hfound, hnamed', hkP, hkPi]
theorem own_selp {s : State} {a0 : Array Value} {y : MethodName} {C : String} (hi : (Jvm.Cond.instanceMethod y).before a0 s = true) (hp : (Jvm.Cond.privateMethod y).before a0 s = true) (hs : (Jvm.Cond.selects C y y).before a0 s = true) (hy : y.cls ≠ "java/lang/invoke/MethodHandle" ∧ y.cls ≠ "java/lang/invoke/VarHandle") : (Jvm.Cond.selects y.cls y y).before a0 s = true := by
  obtain ⟨c2, r2, m2, q1, q2, q3, q4, kP, hkP, hkPi⟩ := Cond.selects_spec hs
  exact selects_self_of_private (findClass_of_methodNamed q3) hkP hkPi (Cond.privateMethod_at hp) hi hy
theorem own_notface {s : State} {args : Array Value} {y z : MethodName} {C : String} (hs : (Jvm.Cond.selects C z z).before args s = true) (hc : z.cls = y.cls) : NotFace s y := fun r0 h0 => by
  obtain ⟨c2, r2, m2, q1, q2, q3, q4, kP, hkP, hkPi⟩ := Cond.selects_spec hs
  have hcz := findClass_of_methodNamed q3
  rw [hc] at hcz
  have e : r0.cls = m2.cls := Option.some.inj ((findClass_of_methodNamed h0).symm.trans hcz)
  exact ⟨kP, by rw [e]; exact hkP, hkPi⟩
abbrev B8 (cs : List Int32) : List Value := (cs.map (fun c => c.toInt8.toInt32)).map Value.int
theorem shr0 (x : Int32) : x >>> ((0 : Int32) &&& 31) = x := by
  apply Int32.toBitVec_inj.mp; simp [Int32.toBitVec_shiftRight]
theorem shl0 (x : Int32) : x <<< ((0 : Int32) &&& 31) = x := by
  apply Int32.toBitVec_inj.mp; simp [Int32.toBitVec_shiftLeft]
theorem on_nat {n : Nat} (h : n < 2 ^ 31) : (Int32.ofNat n).toNatClampNeg = n := by
  show (Int32.ofNat n).toInt.toNat = n
  rw [Int32.toInt_ofNat_of_lt h]; rfl
theorem on_pos {n : Nat} (h : n < 2 ^ 31) : ¬ Int32.ofNat n < 0 := by
  rw [Int32.lt_iff_toInt_lt, Int32.toInt_ofNat_of_lt h]
  show ¬ (n : Int) < 0
  omega
theorem on_int {n : Nat} (h : n < 2 ^ 31) : (Int32.ofNat n).toInt = n := Int32.toInt_ofNat_of_lt h
theorem on_add (a b : Nat) : Int32.ofNat a + Int32.ofNat b = Int32.ofNat (a + b) := by
  apply Int32.toBitVec_inj.mp
  show BitVec.ofNat 32 a + BitVec.ofNat 32 b = BitVec.ofNat 32 (a + b)
  exact (BitVec.ofNat_add a b).symm
theorem on_sub {a b : Nat} (h : b ≤ a) (ha : a < 2 ^ 31) : Int32.ofNat a - Int32.ofNat b = Int32.ofNat (a - b) := by
  have e : Int32.ofNat a = Int32.ofNat (a - b) + Int32.ofNat b := by rw [on_add]; congr 1; omega
  rw [e]
  apply Int32.toBitVec_inj.mp
  simp
theorem b8_app (cs ds : List Int32) : B8 (cs ++ ds) = B8 cs ++ B8 ds := by simp [B8]
theorem b8_len (cs : List Int32) : (B8 cs).length = cs.length := by simp [B8]
theorem rng_getD {vs : List Value} {dv : Value} {n : Nat} (i : Nat) (h : vs.length ≤ n) : ((List.range n).map fun i => vs.getD (0 + i) dv).getD i dv = vs.getD i dv := by
  simp only [List.getD_eq_getElem?_getD, List.getElem?_map, Nat.zero_add]
  by_cases q : i < n
  · rw [List.getElem?_range q]; simp
  · rw [List.getElem?_eq_none (by simpa using q), List.getElem?_eq_none (l := vs) (by omega)]; rfl
theorem app_getD (ws us vs : List Value) (dv : Value) (h : ∀ i, us.getD i dv = vs.getD i dv) (i : Nat) : (ws ++ us).getD i dv = (ws ++ vs).getD i dv := by
  simp only [List.getD_eq_getElem?_getD] at h ⊢
  by_cases q : i < ws.length
  · rw [List.getElem?_append_left q, List.getElem?_append_left q]
  · rw [List.getElem?_append_right (by omega), List.getElem?_append_right (by omega)]; exact h _
section OwnCopy
variable {p : Program} {l : Launch} {e : Env} {R : Room} {s Z : State} {m : MethodId} {args : Array Value} {below : List Frame} {meth : Method} {c : Code} {T : State} {locs : List Loc} {cells slots : Nat} {h : Heap} {a b : Addr} {k k' : ClassId}
/-- System.arraycopy of a Latin-1 text behind another one (n signs, the source's text at most so long) -/
theorem own_cpy (X : Stand p l e R s m args below meth c T locs cells slots) (hx : p.tables.exec = Jvm.exec) (hZ : Z.Warmed39 s.vm) {a0 : Array Value} {own : String} {index : Nat} (hown : s.vm.findClass own = some m.cls)
    (w1 : (Cond.methodLink own index Jvm.Stand.acN).before a0 Z = true) (w2 : (Cond.native Jvm.Stand.acN).before a0 Z = true) (w3 : (Cond.static Jvm.Stand.acN).before a0 Z = true) (w4 : (Cond.initialized "java/lang/System").before a0 Z = true) (eT : T.heap = h)
    {ca cb n : Nat} {cs es : List Int32} {nn dp : Int32} (A : Arv Z h a k .byte (Int32.ofNat ca) (B8 cs) (.int 0)) (B : Arv Z h b k' .byte (Int32.ofNat cb) (B8 es) (.int 0)) (hn : nn = Int32.ofNat n) (hdp : dp = Int32.ofNat es.length)
    (q1 : cs.length ≤ n) (q2 : n ≤ ca) (q3 : es.length + n ≤ cb) (q4 : ca < 2 ^ 31) (q5 : cb < 2 ^ 31) {n0 : Nat} (N : Fr n0 locs) (ge : n0 ≤ b)
    {g : JFrame} (hg : g.method = m) (hsize : g.locals.size = c.maxLocals) {rest : List Value} (hs : g.stack = .int nn :: .int dp :: .ref b :: .int 0 :: .ref a :: rest) (hd : decode c.code g.pc = .ok (.invokestatic index, 3))
    (hf : 1 ≤ R.frames) {W : Nat} (hW : 2 * g.monitorRoom + (rest.map fun v => v.category).sum ≤ W) (hlo : W + (nativeFrameWords "java/lang/System" "arraycopy" 5 + 11) ≤ R.locals) :
    ∃ T' h' L, Stand p l e R s m args below meth c T' L cells slots ∧ T'.heap = h' ∧ Fr n0 L ∧ Keep h h' [b] ∧ Arv Z h' b k' .byte (Int32.ofNat cb) (B8 (es ++ cs)) (.int 0) ∧
      ∀ target, Steps p.tables e below (T'.setTop { g with pc := g.pc + 3, stack := rest }) target → Steps p.tables e below (T.setTop g) target := by
  subst hn hdp
  have hn' : n < 2 ^ 31 := by omega
  have he' : es.length < 2 ^ 31 := by omega
  obtain ⟨T', h', L, x1, x2, x3, x4, x5, x6⟩ := cpA X hx hZ hown w1 w2 w3 w4 eT A (B.pad (pad_rep (B8 es) (.int 0) n)) (us := (List.range n).map fun i => (B8 cs).getD (0 + i) (.int 0)) (Or.inl ⟨rfl, rfl⟩) (sp := 0) (dp := Int32.ofNat es.length) (nn := Int32.ofNat n) (by decide) (on_pos he') (on_pos hn')
    (by rw [on_nat hn', on_nat q4]; show 0 + n ≤ ca; omega) (by rw [on_nat hn', on_nat he', on_nat q5]; exact q3) (by rw [on_nat hn']; rfl) (by rw [on_nat hn', on_nat he']; simp) N ge hg hsize hs hd hf hW hlo
  refine ⟨T', h', L, x1, x2, x3, x4, x5.pad fun i => ?_, x6⟩
  rw [on_nat hn', on_nat he', b8_app]
  have e1 : (B8 es ++ List.replicate n (Value.int 0)).take es.length = B8 es := by rw [← b8_len es]; exact List.take_left
  have e2 : (B8 es ++ List.replicate n (Value.int 0)).drop (es.length + n) = [] := by apply List.drop_eq_nil_of_le; simp
  rw [e1, e2, List.append_nil]
  exact (app_getD (B8 es) _ _ _ (fun j => rng_getD j (by rw [b8_len]; exact q1)) i).symm
end OwnCopy
def newCap (cap mc : Nat) : Nat := cap + max (mc - cap) (cap + 2)
theorem on_lt {a b : Nat} (h : a < b) (hb : b < 2 ^ 31) : Int32.ofNat a < Int32.ofNat b := by
  rw [Int32.lt_iff_toInt_lt, on_int (by omega), on_int hb]; omega
theorem on_subneg {a b : Nat} (h : a ≤ b) (hb : b < 2 ^ 31) : ¬ ((0 : Int32) < Int32.ofNat a - Int32.ofNat b) := by
  have e : Int32.ofNat a - Int32.ofNat b = - Int32.ofNat (b - a) := by
    rw [← on_sub h hb]; apply Int32.toBitVec_inj.mp; simp
  rw [e, Int32.lt_iff_toInt_lt, Int32.toInt_neg, on_int (by omega)]
  have e0 : (0 : Int32).toInt = 0 := rfl
  rw [e0, Int.bmod_def]; omega
/-- the k decimal signs of X, the first ones first -/
def D (k X : Nat) : List Int32 := (List.range k).map fun j => Int32.ofNat (48 + X / 10 ^ (k - 1 - j) % 10)
theorem lt_on {a b : Nat} (ha : a < 2 ^ 31) (hb : b < 2 ^ 31) : Int32.ofNat a < Int32.ofNat b ↔ a < b := by
  rw [Int32.lt_iff_toInt_lt, on_int ha, on_int hb]; omega
theorem eq_on {a b : Nat} (ha : a < 2 ^ 31) (hb : b < 2 ^ 31) : Int32.ofNat a = Int32.ofNat b ↔ a = b := by
  rw [← Int32.toInt_inj, on_int ha, on_int hb]; omega
theorem b8_at {cs : List Int32} {i : Nat} (h : i < 2 ^ 31) : (B8 cs).getD (Int32.ofNat i).toNatClampNeg (.int 0) = .int ((cs.getD i 0).toInt8.toInt32) := by
  rw [on_nat h]
  simp only [B8, List.getD_eq_getElem?_getD, List.getElem?_map]
  cases cs[i]? <;> rfl
theorem lo_back {c : Int32} (h : ¬ c < 0 ∧ ¬ (255 : Int32) < c) : ((c.toInt8.toInt32) &&& (255 : Int32)).toUInt32.toUInt16.toUInt32.toInt32 = c ∧ nar .char c = c := by
  have t : ∀ k : Fin 256, ((((Int32.ofNat k.val).toInt8.toInt32) &&& (255 : Int32)).toUInt32.toUInt16.toUInt32.toInt32 = Int32.ofNat k.val) ∧ nar .char (Int32.ofNat k.val) = Int32.ofNat k.val := by decide +kernel
  have h1 : ¬ c.toInt < 0 := fun q => h.1 (Int32.lt_iff_toInt_lt.mpr q)
  have h2 : ¬ 255 < c.toInt := fun q => h.2 (Int32.lt_iff_toInt_lt.mpr q)
  have e : c = Int32.ofNat c.toInt.toNat := by apply Int32.toInt_inj.mp; rw [on_int (by omega)]; omega
  rw [e]; exact t ⟨c.toInt.toNat, by omega⟩
theorem getD_lo {cs : List Int32} (h : ∀ c ∈ cs, ¬ c < 0 ∧ ¬ (255 : Int32) < c) (i : Nat) : ¬ cs.getD i 0 < 0 ∧ ¬ (255 : Int32) < cs.getD i 0 := by
  rw [List.getD_eq_getElem?_getD]
  by_cases q : i < cs.length
  · rw [List.getElem?_eq_getElem q]; exact h _ (List.getElem_mem q)
  · rw [List.getElem?_eq_none (by omega)]; decide
theorem of_nn {y : Int32} (h : 0 ≤ y.toInt) : ∃ n, n < 2 ^ 31 ∧ y = Int32.ofNat n := by
  have l := Int32.toInt_lt y
  exact ⟨y.toInt.toNat, by omega, by apply Int32.toInt_inj.mp; rw [on_int (by omega)]; omega⟩
theorem rem_on (x : Int32) {M : Nat} (hM : M + 1 < 2 ^ 31) : ∃ N, N ≤ M ∧ (x &&& (2147483647 : Int32)) % Int32.ofNat (M + 1) = Int32.ofNat N := by
  obtain ⟨n, h1, h2⟩ := of_nn (c_and x (2147483647 : Int32) (by decide)).1
  rw [h2]
  have q := (c_irem (Int32.ofNat n) (Int32.ofNat (M + 1)) ((M + 1 : Nat) : Int) (on_int hM)).1 (by rw [on_int h1]; omega)
  rw [on_int h1] at q
  refine ⟨n % (M + 1), Nat.le_of_lt_succ (Nat.mod_lt _ (Nat.succ_pos _)), ?_⟩
  apply Int32.toInt_inj.mp
  have l : n % (M + 1) < M + 1 := Nat.mod_lt n (Nat.succ_pos M)
  rw [q, on_int (by omega)]; rfl
theorem mask3c (x : Int32) : (x &&& (3 : Int32)) = (0 : Int32) ∨ (x &&& (3 : Int32)) = (1 : Int32) ∨ (x &&& (3 : Int32)) = (2 : Int32) ∨ (x &&& (3 : Int32)) = (3 : Int32) := by
  have h := c_and x (3 : Int32) (by decide)
  obtain ⟨n, h1, h2⟩ := of_nn h.1
  have e3 : (3 : Int32).toInt = 3 := rfl
  rw [h2, on_int h1, e3] at h
  rw [h2]
  have t : ∀ n : Fin 4, Int32.ofNat n.val = (0 : Int32) ∨ Int32.ofNat n.val = (1 : Int32) ∨ Int32.ofNat n.val = (2 : Int32) ∨ Int32.ofNat n.val = (3 : Int32) := by decide
  exact t ⟨n, by omega⟩
theorem ch_lo (x : Int32) : ¬ ((x &&& (255 : Int32)).toUInt32.toUInt16.toUInt32.toInt32) < 0 ∧ ¬ (255 : Int32) < ((x &&& (255 : Int32)).toUInt32.toUInt16.toUInt32.toInt32) := by
  obtain ⟨n, h1, h2⟩ := of_nn (c_and x (255 : Int32) (by decide)).1
  have h := (c_and x (255 : Int32) (by decide)).2
  rw [h2, on_int h1] at h
  rw [h2]
  have e : (255 : Int32).toInt = 255 := rfl
  have t : ∀ n : Fin 256, ¬ ((Int32.ofNat n.val).toUInt32.toUInt16.toUInt32.toInt32) < 0 ∧ ¬ (255 : Int32) < ((Int32.ofNat n.val).toUInt32.toUInt16.toUInt32.toInt32) := by decide +kernel
  exact t ⟨n, by omega⟩
section OwnStart
variable {args : Array Value} {s : State} {t u : Term} {a : Addr}
end OwnStart
section OwnExc
open Jvm.Free.Exc Jvm.Lib.Cold
abbrev REn : String := "com/example/ops5/ops5/RefusedException"
/-- the words on Throwable that the tables bear -/
def TW : List Jvm.Cond := (excAtoms REn).erase (.lays tN tN "suppressedExceptions" listD)
variable {p : Program} {l : Launch} {e : Env} {R : Room} {s Z : State} {m : MethodId} {args a0 : Array Value} {below : List Frame} {meth : Method} {c : Code} {T : State} {locs : List Loc} {h : Heap}
/-- Throwable's tables, from those words (the field suppressedExceptions by the subclass's word) -/
theorem own_links {pl : Platform} (h1 : pl.frameOwnsMonitors = true) (h2 : pl.finalization = false) (hpl : pl.magicAccessors = ({} : Platform).magicAccessors) (h : ∀ d ∈ TW, d.before args s = true) :
    ∃ T : ThrowableC, T.Links pl s ∧ s.vm.findClass tN = some T.cT ∧ s.methodNamed? tFill = some T.fill ∧ s.methodNamed? tFill0 = some T.fill0 ∧ s.fieldFound? tN "stackTrace" steD = some (T.cT, T.kT, T.i17, T.fStack) ∧ s.fieldFound? tN "UNASSIGNED_STACK" steD = some (T.cT, T.kT, T.i13, T.fUnassigned) := by
  have w : ∀ d, d ∈ TW → d.holds args s none s [] = true := fun d hd => h d hd
  obtain ⟨⟨cT, j0⟩, mN, n1, n2, n3, n4, n5, n6⟩ := Cond.native_spec (w (.native tFill0) (by decide +kernel))
  have gT : s.vm.findClass tN = some cT := findClass_of_methodNamed n1
  obtain ⟨kT, gK, gName⟩ := Vm.findClass_spec gT
  obtain ⟨jF, mF, f1, f2, f3, f4, f5, -⟩ := Cond.ownMethod (x := tFill) gT gK (w (.instanceMethod tFill) (by decide +kernel))
  obtain ⟨mF', cF, f2', f6, f7, f8, f9, f10, -, f11⟩ := Cond.codeSync_spec f1 (w (.codeSync tFill LibCode.Throwable.Fill.code 1 (some (.object tN))) (by decide +kernel))
  cases f2.symm.trans f2'
  obtain ⟨j0', mN', n1', n2', n7, n8, n9, n10, n11⟩ := Cond.ownMethod (x := tFill0) gT gK (w (.instanceMethod tFill0) (by decide +kernel))
  cases n1.symm.trans n1'
  cases n2.symm.trans n2'
  obtain ⟨mO, methO, o1, o2, o3, o4⟩ := Cond.instanceMethod_spec (w (.instanceMethod oInit) (by decide +kernel))
  obtain ⟨methO', cO, o2', o5, o6, -, -, o7, -, o8⟩ := Cond.code_spec o1 (w (.code oInit ⟨#[0xb1]⟩ 1 none) (by decide +kernel))
  cases o2.symm.trans o2'
  obtain ⟨kO, o9, o10⟩ := Vm.findClass_spec (findClass_of_methodNamed o1)
  obtain ⟨o11, o12⟩ := name_of_methodNamed o1 o2
  obtain ⟨ci1, x1, cf, l1, l2, l3, l4⟩ := Cond.linkedMethod gT gK o1 (w (.methodLink tN 1 oInit) (by decide +kernel)) pl hpl
  obtain ⟨ci27, x27, cf2, l5, l6, l7, l8⟩ := Cond.linkedMethod gT gK f1 (w (.methodLink tN 27 tFill) (by decide +kernel)) pl hpl
  cases l3.symm.trans l7
  obtain ⟨ci202, x202, cf3, l9, l10, l11, l12⟩ := Cond.linkedMethod gT gK n1 (w (.methodLink tN 202 tFill0) (by decide +kernel)) pl hpl
  cases l3.symm.trans l11
  obtain ⟨ci7, i7, fc, c1, c2, c3, c4, c5, -, -, -⟩ := Cond.ownField (C' := REn) (t := .object tN) gT gK (by decide +kernel) (w (.fieldLink tN 7 tN "cause" thD) (by decide +kernel)) (w (.lays REn tN "cause" thD) (by decide +kernel)) pl hpl
  obtain ⟨ci17, i17, fs, s1, s2, s3, s4, s5, s6, -, s8⟩ := Cond.ownField (C' := REn) (t := .array (.object "java/lang/StackTraceElement")) gT gK (by decide +kernel) (w (.fieldLink tN 17 tN "stackTrace" steD) (by decide +kernel)) (w (.lays REn tN "stackTrace" steD) (by decide +kernel)) pl hpl
  obtain ⟨ci24, i24, fp, p1, p2, p3, p4, p5, p6, -, p8⟩ := Cond.ownField (C' := REn) (t := .object "java/util/List") gT gK (by decide +kernel) (w (.fieldLink tN 24 tN "suppressedExceptions" listD) (by decide +kernel)) (w (.lays REn tN "suppressedExceptions" listD) (by decide +kernel)) pl hpl
  obtain ⟨ci13, i13, fu, aS, cellS, u1, u2, u3, u4, -, -, u5, -, -, -, -, u6⟩ := Cond.ownStatic (t := .array (.object "java/lang/StackTraceElement")) gT gK (by decide +kernel) (w (.fieldLink tN 13 tN "UNASSIGNED_STACK" steD) (by decide +kernel)) (w (.laysStatic tN "UNASSIGNED_STACK" steD) (by decide +kernel)) pl hpl
  obtain ⟨ci20, i20, ft, _, _, t1, t2, t3, t4, -⟩ := Cond.ownStatic (t := .object "java/util/List") gT gK (by decide +kernel) (w (.fieldLink tN 20 tN "SUPPRESSED_SENTINEL" listD) (by decide +kernel)) (w (.laysStatic tN "SUPPRESSED_SENTINEL" listD) (by decide +kernel)) pl hpl
  obtain ⟨cR, kR, _, _, _, fm, r1, r2, -, r3, r4, -⟩ := Cond.lays_spec (w (.lays REn tN "detailMessage" msgD) (by decide +kernel))
  obtain ⟨_, dS, d1, d2⟩ := Cond.laysAt r1 r2 s8 (w (.lays REn tN "stackTrace" steD) (by decide +kernel))
  obtain ⟨_, dP, d3, d4⟩ := Cond.laysAt r1 r2 p8 (w (.lays REn tN "suppressedExceptions" listD) (by decide +kernel))
  have apart : fs.slot ≠ fp.slot := Cond.laysApart d1 d3 d2 d4 (by rw [s6, p6]; decide)
  obtain ⟨_, kk, _, _, g3, _, _, _, _, gNI⟩ := Cond.superclass_spec gT (w (.superclass tN "java/lang/Object") (by decide +kernel))
  cases gK.symm.trans g3
  have none_of : ∀ {d : String} {sg : MethodDescriptor}, parseMethodDescriptor d = some sg → ∀ {ps : List FieldType}, (parseMethodDescriptor d).map (·.parameters) = some ps → sg.parameters = ps := fun {d sg} q {ps} r => by rw [q] at r; simpa using r
  refine ⟨{ cT := cT, kT := kT, cO := cT, aS := aS, fillIdx := jF, fill0Idx := j0, initSIdx := jF, obj := mO, kObj := kO, methFill := mF, methFill0 := mN, methInitS := mF, methObj := methO, codeFill := cF, codeInitS := cF, codeObj := cO, fBack := fc, fDepth := fc, fStack := fs, fCause := fc, fSupp := fp, fMsg := fm, fUnassigned := fu, fSentinel := ft, cfT := cf, ci1 := ci1, n1 := x1, ci27 := ci27, n27 := x27, ci202 := ci202, n202 := x202, ci7 := ci7, i7 := i7, ci13 := ci13, i13 := i13, ci17 := ci17, i17 := i17, ci20 := ci20, i20 := i20, ci24 := ci24, i24 := i24 }, ?_, gT, f1, n1, s8, u6⟩
  constructor
  case owns => exact h1
  case noFinalization => exact h2
  case cls => exact gK
  case name => exact gName
  case boot => exact Vm.findClass_boot gT gK
  case notInterface => exact gNI
  case initialized => exact Cond.initialized_spec gT gK (w (.initialized tN) (by decide +kernel))
  case statics => exact u5
  case fillParams => exact none_of f11 (by decide +kernel)
  case fill0Params => exact none_of n6 (by decide +kernel)
  case objParams => show methO.sig.parameters.length = 0; rw [none_of o8 (ps := []) (by decide +kernel)]; rfl
  case objFound => show lookupSpecial s.vm mO.cls "<init>" methO.desc = _; rw [o12]; exact lookupSpecial_of_named o1 o2 o3
  case fill0Name => exact n10
  case fill0Desc => exact n11
  all_goals first | assumption | (first | exact f3 | exact f6 | exact f7 | exact f8 | exact f9 | exact f10 | exact n3 | exact n4 | exact n5 | exact n7 | exact n8 | exact n9 | exact o5 | exact o6 | exact o7 | exact o9 | exact o10 | exact o11 | exact apart)
/-- Throwable.fillInStackTrace() on an object of this walk, nothing made before -/
theorem own_fill {n0 kI : Nat} {a : Addr} {uv cv mv' : Value} (X : Stand p l e R s m args below meth c T locs 0 0) (hx : p.tables.exec = Jvm.exec) (hl : l.stackTraces = true) (hZ : Z.Warmed39 s.vm) (hown : s.vm.findClass tN = some m.cls) (W : ∀ d ∈ TW, d.before a0 Z = true)
    (hs0 : ThS Z s.heap) (hTh : ThS Z h) (hTK : s.vm.MethodsKnown) (hBelow : s.vm.FramesKnown below) (eT : T.heap = h) (hl0 : ∀ y ∈ locs, y.base = a) (ga : n0 ≤ a)
    (E : Exa Z h a REn) (N : Unt h a) (FB : Fld Z h a tN "backtrace" obD .null) (FS : Fld Z h a tN "stackTrace" steD uv) (SU : Sta Z Z.heap tN "UNASSIGNED_STACK" steD uv) (hu : uv.isRef = true) (FC : Fld Z h a tN "cause" thD cv) (FM : Fld Z h a tN "detailMessage" msgD mv') (wi : (Jvm.Cond.instantiable REn kI).before a0 Z = true)
    {g : JFrame} (hg : g.method = m) (hsize : g.locals.size = c.maxLocals) (hs : g.stack = [.ref a]) (hmr : g.monitorRoom = 0) (hd : decode c.code g.pc = .ok (.invokevirtual 27, 3)) (hf : 2 < R.frames) (hlo : 42 ≤ R.locals) (hc : 1 ≤ R.cells) (hsl : 2752 ≤ R.slots) :
    ∃ T' h' L, Stand p l e R s m args below meth c T' (locs ++ L) 1 2752 ∧ T'.heap = h' ∧ Fr n0 L ∧ Keep h h' [a] ∧ Exa Z h' a REn ∧ Unt h' a ∧ Fld Z h' a tN "cause" thD cv ∧ Fld Z h' a tN "detailMessage" msgD mv' ∧
      ∀ target, Steps p.tables e below (T'.setTop { g with pc := g.pc + 3, stack := [.ref a] }) target → Steps p.tables e below (T.setTop g) target := by
  subst eT
  have ok : TW.all xOk = true := by decide +kernel
  have w : ∀ d, d ∈ TW → d.before args s = true := fun d hd => mvX hs0 hZ (List.all_eq_true.mp ok d hd) (W d hd)
  have hpl : e.platform.magicAccessors = ({} : Platform).magicAccessors := by rw [X.admits.platform]
  obtain ⟨Th, L, gT, gF, gF0, gS, gU⟩ := own_links (pl := e.platform) (by rw [X.admits.platform]) (by rw [X.admits.platform]) hpl w
  obtain ⟨cell, kX, e1, e2, e3, e4, e5⟩ := id E
  obtain ⟨cl2, u1, u2, u3⟩ := id N
  cases e1.symm.trans u1
  obtain ⟨kX', q1, q2⟩ := hZ.alike.2.2 _ _ e3
  obtain ⟨c2, k2, i1, i2, i3, -⟩ := Cond.instantiable_spec wi
  cases e2.symm.trans i1
  cases e3.symm.trans i2
  have hfR : s.vm.findClass REn = some cell.cls := by rw [hZ.alike.findClass]; exact e2
  have hord : kX'.kind = .ordinary := by rw [q2]; exact i3
  have hsz : cell.slots.size = kX'.instanceTypes.size := by rw [q2]; exact e5 i3
  have tk : ∀ {f : Field} {v : Value}, kX'.instanceTypes[f.slot]? = some f.type → fits f.type v = true → Jvm.Takes s cell f v := fun {f v} r1 r2 =>
    ⟨by have := (Array.getElem?_eq_some_iff.mp r1).1; omega, by rw [u2]; simp [State.fitsSlot, State.slotType?, q1, hord, r1, r2]⟩
  have at_s : ∀ {n d : String} {cf i : Nat} {k : Class} {f : Field}, Z.fieldFound? tN n d = some (cf, k, i, f) → ∃ k', s.fieldFound? tN n d = some (cf, k', i, f) ∧ k'.statics = k.statics := fun hf0 => by
    obtain ⟨k', r1, r2⟩ := State.fieldFound?_setVm (s := Z) hZ.alike hf0
    exact ⟨k', r1, by rw [r2]⟩
  -- the fields
  obtain ⟨cB1, b1, -⟩ := id FB
  obtain ⟨ci198, i198, fB, b2, b3, b4, b5, -, b6, b7, b8⟩ := Cond.ownField (C' := REn) (t := .object "java/lang/Object") gT L.cls (by decide +kernel) (w (.fieldLink tN 198 tN "backtrace" obD) (by decide +kernel)) (w (.lays REn tN "backtrace" obD) (by decide +kernel)) e.platform hpl
  obtain ⟨_, _, cD, kD, iD, fD, -, -, d1, d2, -⟩ := Cond.lays_spec (w (.lays REn tN "depth" "I") (by decide +kernel))
  cases Option.some.inj ((Cond.lays_declared (w (.lays REn tN "depth" "I") (by decide +kernel)) d1).symm.trans gT)
  obtain ⟨d3, d4⟩ := State.fieldFound?_spec d1
  cases Option.some.inj (d3.symm.trans L.cls)
  obtain ⟨d5, d6⟩ := State.fieldFound?_type d1 (t := .int) (by decide +kernel)
  have hfb := Cond.soleField_find gT L.cls (w (.soleField tN "backtrace") (by decide +kernel)) b4 b6 b5
  have hfd := Cond.soleField_find gT L.cls (w (.soleField tN "depth") (by decide +kernel)) d4 d5 d2
  obtain ⟨comp, cO, kO, -, -, o1, o2, o3⟩ := Cond.arrayOver_spec (w (.arrayOver (.object "java/lang/Object")) (by decide +kernel))
  have get : ∀ {n d : String} {v : Value}, Fld Z T.heap a tN n d v → (Cond.lays REn tN n d) ∈ TW → ∃ (cf i : Nat) (k' : Class) (f : Field), s.fieldFound? tN n d = some (cf, k', i, f) ∧ Z.fieldFound? tN n d ≠ none ∧ cell.slots[f.slot]? = some v ∧ kX'.instanceTypes[f.slot]? = some f.type ∧ (∃ dd, Jmm.declares? s.vm f.slot (cell.cls + 1) cell.cls = some dd ∧ dd.2.name = f.name) ∧ ∀ C : Cell, C.cls = cell.cls → C.vm = cell.vm → C.slots[f.slot]? = cell.slots[f.slot]? → ∀ h' : Heap, h'[a]? = some C → Fld Z h' a tN n d v := fun {n d v} F mm => by
    obtain ⟨c0, cf, k, i, f, g1, g2, g3, g4, g5, g6, g7⟩ := F
    cases e1.symm.trans g1
    obtain ⟨k', r1, -⟩ := at_s g2
    obtain ⟨r2, r3⟩ := Cond.laysAt hfR q1 r1 (w _ mm)
    exact ⟨cf, i, k', f, r1, by rw [g2]; simp, g7, r2, r3, fun C z1 z2 z3 h' z4 => ⟨C, cf, k, i, f, z4, g2, g3, by rw [z2]; exact g4, by rw [z2]; exact g5, by rw [z1]; exact g6, by rw [z3]; exact g7⟩⟩
  obtain ⟨_, _, _, fS, s1, -, s2, s3, ⟨dS, s4, s5⟩, -⟩ := get FS (by decide +kernel)
  cases s1.symm.trans gS
  obtain ⟨_, _, _, fB', t1, -, t2, t3, ⟨dB, t4, t5⟩, -⟩ := get FB (by decide +kernel)
  cases t1.symm.trans b8
  obtain ⟨_, _, _, fC, v1, -, v2, v3, ⟨dC, v4, v5⟩, v6⟩ := get FC (by decide +kernel)
  obtain ⟨_, _, _, fM, m1, -, m2, m3, ⟨dM, m4, m5⟩, m6⟩ := get FM (by decide +kernel)
  obtain ⟨z1, dD, z2, z3⟩ := Cond.laysAt hfR q1 d1 (w (.lays REn tN "depth" "I") (by decide +kernel))
  have nS := (State.fieldFound?_type s1 (t := .array (.object "java/lang/StackTraceElement")) (by decide +kernel))
  have nC := (State.fieldFound?_type v1 (t := .object tN) (by decide +kernel)).1
  have nM := (State.fieldFound?_type m1 (t := .object "java/lang/String") (by decide +kernel)).1
  -- the statics
  obtain ⟨cf, i, k, f, st, cS, y1, y2, y3, y4, y5, y6, y7⟩ := SU
  obtain ⟨k', y8, y9⟩ := at_s y1
  cases y8.symm.trans gU
  have hst : some st = some Th.aS := y4.symm.trans (y9.symm.trans L.statics)
  cases Option.some.inj hst
  have hcS : T.heap[Th.aS]? = some cS := by
    have hcl : Z.vm.findClass tN = some Th.cT := by rw [← hZ.alike.findClass]; exact gT
    exact hTh _ _ _ _ hcl (State.fieldFound?_class y1) y4 y5 y6
  have hne : Th.aS ≠ a := fun z => by rw [z, e1] at hcS; cases hcS; rw [u2] at y6; cases y6
  have hsel0 : selectMethod e.platform s.vm cell.cls Th.fill0 = .method Th.fill0 := by
    obtain ⟨c3, r3, m3', x1, x2, x3, x4, -⟩ := Cond.selects_spec (w (.selects REn tFill0 tFill0) (by decide +kernel))
    cases x1.symm.trans hfR
    cases x2.symm.trans (State.methodFound?_of_named gF0 (by decide))
    cases x3.symm.trans gF0
    rw [Launch.admits_selectMethod X.admits]; exact x4
  have hK := fillPaysAny (l := l) (R := R) (p := p) (e := e) (below := below) (s := s) (sargs := args) (len := 3) (W := 0) hx (by rw [X.admits.platform]; exact hl) Th L gF (u0 := ⟨uv, hu⟩) (self := a) (cell := cell) (cellS := cS) (fun q => by rw [u2]; simp) (by rw [u2]; simp) (by rw [u3]) (by rw [u3]) s2 hsel0 hne (fun q => by rw [q] at y6; cases y6) y7
    (tk s3 (by rw [nS.2]; exact fits_refV_array _ ⟨uv, hu⟩)) ⟨⟨ci198, i198, fB⟩, ⟨b2, b3, b4, b5⟩, t2⟩ hTK hBelow gT o3 o1 o2 hfb hfd (fun b => tk t3 (by rw [b7]; rfl)) (fun n => tk z1 (by rw [d6]; rfl)) hf (by omega)
  have hlen : ∀ sig, parseMethodDescriptor tFill.desc = some sig → ([] : List Value).length = sig.parameters.length := fun sig hsig => by
    have q : (parseMethodDescriptor tFill.desc).map (·.parameters) = some [] := by decide +kernel
    rw [hsig] at q
    have q' : sig.parameters = [] := by simpa using q
    rw [q']; rfl
  obtain ⟨cq, kq, qa, qb, qc⟩ := isOf hZ (rfl : T.heap = T.heap) E
  obtain ⟨v, vm1, B, -, X', ⟨rfl, C, n, hn, hC, k1, k2', k3, k4, k5, k6, k7⟩, st⟩ := X.virtualBack hx (y := tFill) (z := tFill) hown (w (.methodLink tN 27 tFill) (by decide +kernel)) (w (.declares tFill) (by decide +kernel)) (notFace_of_selects (w (.selects REn tFill tFill) (by decide +kernel))) (w (.selects REn tFill tFill) (by decide +kernel)) (w (.instanceMethod tFill) (by decide +kernel)) (by decide) hK qa qc hg hsize (Steps.refl _) (argsL := []) (rest := []) hlen hs (by rw [hmr]; exact Nat.le_refl _) hd (fun _ _ => ⟨rfl, by show 0 + 1 ≤ R.cells; omega, by show 0 + 2752 ≤ R.slots; omega, e1, hcS⟩)
  have k5' : B.locs = locs ++ [⟨a, fB.slot⟩, ⟨a, fD.slot⟩, ⟨a, Th.fStack.slot⟩] := k5
  have k6' : B.cells = 1 := by rw [k6]
  have k7' : B.slots = n := by rw [k7]; exact Nat.zero_add n
  rw [k5', k6', k7'] at X'
  have hX0 := X.same
  have hX1 := X'.same
  obtain ⟨-, sa, sb, -, -, sc⟩ := hX0
  obtain ⟨-, ta, tb, -, -, tc⟩ := hX1
  have hTs : T.heap.size = s.heap.size := Nat.le_antisymm sb sa
  have cells' : ∀ (x : Addr) (c0 : Cell), T.heap[x]? = some c0 → ∃ c', B.U.heap[x]? = some c' ∧ c' = { c0 with slots := c'.slots } ∧ c'.slots.size = c0.slots.size ∧ (x ≠ a → c' = c0) := fun x c0 hx0 => by
    have hxl : x < s.heap.size := by rw [← hTs]; exact (Array.getElem?_eq_some_iff.mp hx0).1
    obtain ⟨cs, hcs⟩ : ∃ cs, s.heap[x]? = some cs := ⟨_, Array.getElem?_eq_getElem hxl⟩
    obtain ⟨c1, w1, w2, w3, w4⟩ := sc x cs hcs
    cases (show T.heap[x]? = some c1 from w1).symm.trans hx0
    obtain ⟨c2, w5, w6, w7, w8⟩ := tc x cs hcs
    refine ⟨c2, w5, ?_, by rw [w7, w3], fun hxa => ?_⟩
    · rw [w2]; exact w6
    · have hs' : c2.slots = c0.slots := Array.ext_getElem? fun i => by
        rw [w8 i (fun hm => ?_), w4 i (fun hm => hxa (hl0 _ hm))]
        rcases List.mem_append.mp hm with hm | hm
        · exact hxa (hl0 _ hm)
        · simp only [List.mem_cons, List.not_mem_nil, or_false] at hm
          rcases hm with hm | hm | hm <;> exact hxa (congrArg Loc.base hm)
      rw [w6, w2, hs']
  have K : Keep T.heap B.U.heap [a] := ⟨by rw [hTs]; exact ta, fun x c0 q1 q2 => by
      obtain ⟨c', r1, -, -, r4⟩ := cells' x c0 q1
      rw [r1, r4 (by simpa using q2)], fun x c0 q1 => by
      obtain ⟨c', r1, r2, r3, -⟩ := cells' x c0 q1
      exact ⟨c', r1, by rw [r2], by rw [r2], r3⟩⟩
  obtain ⟨C', r1, r2, r3, -⟩ := cells' a cell e1
  cases (show B.U.heap[a]? = some C from hC).symm.trans r1
  have hCvm : C.vm = cell.vm := by rw [r2]
  have ap1 : fC.slot ≠ fB.slot := Cond.laysApart v4 t4 v5 t5 (by rw [nC, b6]; decide)
  have ap2 : fC.slot ≠ fD.slot := Cond.laysApart v4 z2 v5 z3 (by rw [nC, d5]; decide)
  have ap3 : fC.slot ≠ Th.fStack.slot := Cond.laysApart v4 s4 v5 s5 (by rw [nC, nS.1]; decide)
  have ap4 : fM.slot ≠ fB.slot := Cond.laysApart m4 t4 m5 t5 (by rw [nM, b6]; decide)
  have ap5 : fM.slot ≠ fD.slot := Cond.laysApart m4 z2 m5 z3 (by rw [nM, d5]; decide)
  have ap6 : fM.slot ≠ Th.fStack.slot := Cond.laysApart m4 s4 m5 s5 (by rw [nM, nS.1]; decide)
  refine ⟨B.U, B.U.heap, _, Stand_grow X' (Nat.le_refl _) hn, rfl, fun y hy => ?_, K, E.keep K, ⟨C, hC, by rw [hCvm]; exact u2, by rw [r2]; exact u3⟩, v6 C k1 hCvm (k4 _ ap1 ap2 ap3) _ hC, m6 C k1 hCvm (k4 _ ap4 ap5 ap6) _ hC, fun target q => st.trans q⟩
  simp only [List.mem_cons, List.not_mem_nil, or_false] at hy
  rcases hy with rfl | rfl | rfl <;> exact ga
end OwnExc
abbrev T42 : List Int32 := [116, 104, 101, 32, 115, 116, 111, 114, 101, 32, 97, 108, 114, 101, 97, 100, 121, 32, 104, 111, 108, 100, 115, 32, 97, 32, 100, 111, 99, 117, 109, 101, 110, 116, 32, 110, 97, 109, 101, 100, 32, 39]
abbrev T1 : List Int32 := [39]
abbrev T43 : List Int32 := [116, 104, 101, 32, 115, 116, 111, 114, 101, 32, 97, 108, 114, 101, 97, 100, 121, 32, 104, 111, 108, 100, 115, 32, 97, 32, 100, 111, 99, 117, 109, 101, 110, 116, 32, 110, 97, 109, 101, 100, 32, 39, 39]
theorem T42_len : T42.length = 42 := rfl
theorem T1_len : T1.length = 1 := rfl
abbrev Lo (cs : List Int32) : Prop := ∀ c ∈ cs, ¬ c < 0 ∧ ¬ (255 : Int32) < c
theorem Lo_app {a b : List Int32} (h : Lo a) (k : Lo b) : Lo (a ++ b) := fun c hc => (List.mem_append.mp hc).elim (h c) (k c)
theorem up255 {cs : List Int32} (h : ∀ c ∈ cs, ¬ c < 0 ∧ ¬ (255 : Int32) < c) : ∀ c ∈ cs, ¬ c < 0 ∧ ¬ (65535 : Int32) < c := fun c hc => ⟨(h c hc).1, fun q => (h c hc).2 (by rw [Int32.lt_iff_toInt_lt] at q ⊢; have e1 : (65535 : Int32).toInt = 65535 := rfl; have e2 : (255 : Int32).toInt = 255 := rfl; omega)⟩
theorem cod8 {cs : List Int32} {n : Nat} (hn : cs.length = n) (hb : ∀ c ∈ cs, ¬ c < 0 ∧ ¬ (255 : Int32) < c) : StrChars.Road.CodA cs 0 (Int32.ofNat n) (B8 cs) := StrChars.Road.codOf (n := n) hn (fun x hx => (hb x hx).2)
theorem t42_lo : Lo T42 := by decide
theorem t1_lo : Lo T1 := by decide
theorem t43_lo : Lo T43 := by decide
theorem pre_getD {a b d : List Int32} {N : Nat} (h : N < a.length) : (a ++ b ++ d).getD N 0 = a.getD N 0 := by
  rw [List.getD_eq_getElem?_getD, List.getD_eq_getElem?_getD, List.append_assoc, List.getElem?_append_left h]
theorem own_known {s : State} {m : MethodId} {args : Array Value} {below : List Frame} (hf : s.frames = .invoking m args :: below) (h1 : Jvm.D.framesKnown s = true) (h2 : Jvm.D.tablesKnown s = true) : s.vm.MethodsKnown ∧ s.vm.FramesKnown below := by
  refine ⟨fun y z hz => ?_, fun y hy m' hm => ?_⟩
  · cases hk : s.vm.classes[y.cls]? with
    | none => simp [Vm.method?, hk] at hz
    | some kk =>
      refine ⟨kk, hk, fun cf hcf => ?_⟩
      have hz' : kk.methods[y.idx]? = some z := by simpa [Vm.method?, hk] using hz
      have q := (Array.all_eq_true_iff_forall_mem.mp h2) kk (Array.mem_of_getElem? hk)
      rw [hcf] at q
      have q' : kk.methods.size = cf.methods.size := by simpa using q
      have := (Array.getElem?_eq_some_iff.mp hz').1
      rw [Array.getElem?_eq_getElem (by omega)]; rfl
  · have q := List.all_eq_true.mp h1 y (by rw [hf]; exact List.mem_cons_of_mem _ hy)
    have key : ∀ m0, Jvm.D.methodKnown s.vm m0 = true → s.vm.knowsMethod m0 := fun m0 h0 => by
      unfold Jvm.D.methodKnown at h0
      cases hk : s.vm.classes[m0.cls]? with
      | none => rw [hk] at h0; cases h0
      | some kk =>
        rw [hk] at h0
        refine ⟨kk, hk, fun cf hcf => ?_⟩
        simp only [hcf] at h0; exact h0
    cases y <;> simp only [frameMethod?] at hm <;> first | (cases hm; done) | (cases hm; exact key _ q)
abbrev HW (a0 : Array Value) (Z : State) : Prop := ∀ d ∈ tables_1, d.before a0 Z = true
abbrev OW (w : Jvm.Cond) : Prop := ∀ {a0 : Array Value} {Z : State}, HW a0 Z → w.before a0 Z = true
theorem gw {w : Jvm.Cond} (i : Nat) (h : tables_1[i]? = some w) : OW w := fun hw => hw _ (List.mem_of_getElem? h)
theorem ow0 : OW (.methodLink "com/example/ops5/ops5/RefusedExceptionNameTakenPinLaw" (12 : Nat) mn37) := gw 0 rfl
theorem ow1 : OW (.static mn37) := gw 1 rfl
theorem ow2 : OW (.initialized "com/example/ops5/ops5/RefusedExceptionNameTakenPinLaw") := gw 2 rfl
theorem ow3 : OW (.code mn37 method_2_code (4 : Nat) (Option.some (Jvm.ClassFile.FieldType.object "java/lang/String"))) := gw 3 rfl
theorem ow4 : OW (.classLink "com/example/ops5/ops5/RefusedExceptionNameTakenPinLaw" (7 : Nat) "java/lang/String") := gw 4 rfl
theorem ow5 : OW (.instantiable "java/lang/String" (4 : Nat)) := gw 5 rfl
theorem ow6 : OW (.initialized "java/lang/String") := gw 6 rfl
theorem ow7 : OW (.arrayClass Jvm.ClassFile.FieldType.char) := gw 7 rfl
theorem ow8 : OW (.methodLink "com/example/ops5/ops5/RefusedExceptionNameTakenPinLaw" (9 : Nat) mn36) := gw 8 rfl
theorem ow9 : OW (.instanceMethod mn36) := gw 9 rfl
theorem ow10 : OW (.code mn36 jdk_42_method_3_code (2 : Nat) (Option.none : Option Jvm.ClassFile.FieldType)) := gw 10 rfl
theorem ow11 : OW (.methodLink "java/lang/String" (27 : Nat) mn35) := gw 11 rfl
theorem ow12 : OW (.instanceMethod mn35) := gw 12 rfl
theorem ow14 : OW (.code mn35 jdk_42_method_149_code (6 : Nat) (Option.none : Option Jvm.ClassFile.FieldType)) := gw 14 rfl
theorem ow15 : OW (.methodLink "java/lang/String" (1 : Nat) mn42) := gw 15 rfl
theorem ow16 : OW (.instanceMethod mn42) := gw 16 rfl
theorem ow17 : OW (.code mn42 object_method_1_code (1 : Nat) (Option.none : Option Jvm.ClassFile.FieldType)) := gw 17 rfl
theorem ow18 : OW (.stringLink "java/lang/String" (7 : Nat) "") := gw 18 rfl
theorem ow19 : OW (.arrayClass Jvm.ClassFile.FieldType.byte) := gw 19 rfl
theorem ow20 : OW (.laysFinal "java/lang/String" "java/lang/String" "value" "[B") := gw 20 rfl
theorem ow21 : OW (.laysFinal "java/lang/String" "java/lang/String" "coder" "B") := gw 21 rfl
theorem ow24 : OW (.fieldLink "java/lang/String" (9 : Nat) "java/lang/String" "value" "[B") := gw 24 rfl
theorem ow25 : OW (.fieldLink "java/lang/String" (15 : Nat) "java/lang/String" "coder" "B") := gw 25 rfl
theorem ow26 : OW (.methodLink "com/example/ops5/ops5/RefusedExceptionNameTakenPinLaw" (18 : Nat) mn34) := gw 26 rfl
theorem ow27 : OW (.static mn34) := gw 27 rfl
theorem ow28 : OW (.initialized "com/example/ops5/ops5/RefusedException") := gw 28 rfl
theorem ow29 : OW (.code mn34 prog_5_method_4_code (1 : Nat) (Option.some (Jvm.ClassFile.FieldType.object "com/example/ops5/ops5/RefusedException"))) := gw 29 rfl
theorem ow30 : OW (.classLink "com/example/ops5/ops5/RefusedException" (10 : Nat) "com/example/ops5/ops5/RefusedException") := gw 30 rfl
theorem ow31 : OW (.instantiable "com/example/ops5/ops5/RefusedException" (6 : Nat)) := gw 31 rfl
theorem ow32 : OW (.classLink "com/example/ops5/ops5/RefusedException" (47 : Nat) "java/lang/StringBuilder") := gw 32 rfl
theorem ow33 : OW (.instantiable "java/lang/StringBuilder" (4 : Nat)) := gw 33 rfl
theorem ow34 : OW (.initialized "java/lang/StringBuilder") := gw 34 rfl
theorem ow35 : OW (.methodLink "com/example/ops5/ops5/RefusedException" (49 : Nat) mn23) := gw 35 rfl
theorem ow36 : OW (.instanceMethod mn23) := gw 36 rfl
theorem ow37 : OW (.code mn23 jdk_67_method_1_code (1 : Nat) (Option.none : Option Jvm.ClassFile.FieldType)) := gw 37 rfl
theorem ow38 : OW (.methodLink "java/lang/StringBuilder" (1 : Nat) mn7) := gw 38 rfl
theorem ow39 : OW (.instanceMethod mn7) := gw 39 rfl
theorem ow42 : OW (.initialized "java/lang/AbstractStringBuilder") := gw 42 rfl
theorem ow43 : OW (.code mn7 jdk_68_method_2_code (2 : Nat) (Option.none : Option Jvm.ClassFile.FieldType)) := gw 43 rfl
theorem ow44 : OW (.methodLink "java/lang/AbstractStringBuilder" (3 : Nat) mn42) := gw 44 rfl
theorem ow45 : OW (.fieldLink "java/lang/AbstractStringBuilder" (18 : Nat) "java/lang/String" "COMPACT_STRINGS" "Z") := gw 45 rfl
theorem ow46 : OW (.fieldLink "java/lang/AbstractStringBuilder" (15 : Nat) "java/lang/AbstractStringBuilder" "value" "[B") := gw 46 rfl
theorem ow47 : OW (.lays "java/lang/StringBuilder" "java/lang/AbstractStringBuilder" "value" "[B") := gw 47 rfl
theorem ow48 : OW (.fieldLink "java/lang/AbstractStringBuilder" (22 : Nat) "java/lang/AbstractStringBuilder" "coder" "B") := gw 48 rfl
theorem ow49 : OW (.lays "java/lang/StringBuilder" "java/lang/AbstractStringBuilder" "coder" "B") := gw 49 rfl
theorem ow50 : OW (.stringLink "com/example/ops5/ops5/RefusedException" (52 : Nat) "the store already holds a document named '") := gw 50 rfl
theorem ow51 : OW (.methodLink "com/example/ops5/ops5/RefusedException" (54 : Nat) mn13) := gw 51 rfl
theorem ow52 : OW (.declares mn13) := gw 52 rfl
theorem ow53 : OW (.instanceMethod mn13) := gw 53 rfl
theorem ow54 : OW (.selects "java/lang/StringBuilder" mn13 mn13) := gw 54 rfl
theorem ow55 : OW (.code mn13 jdk_67_method_7_code (2 : Nat) (Option.some (Jvm.ClassFile.FieldType.object "java/lang/StringBuilder"))) := gw 55 rfl
theorem ow56 : OW (.methodLink "java/lang/StringBuilder" (29 : Nat) mn12) := gw 56 rfl
theorem ow57 : OW (.instanceMethod mn12) := gw 57 rfl
theorem ow58 : OW (.superclass "java/lang/StringBuilder" "java/lang/AbstractStringBuilder") := gw 58 rfl
theorem ow60 : OW (.code mn12 jdk_68_method_22_code (3 : Nat) (Option.some (Jvm.ClassFile.FieldType.object "java/lang/AbstractStringBuilder"))) := gw 60 rfl
theorem ow61 : OW (.methodLink "java/lang/AbstractStringBuilder" (32 : Nat) mn1) := gw 61 rfl
theorem ow62 : OW (.declares mn1) := gw 62 rfl
theorem ow63 : OW (.instanceMethod mn1) := gw 63 rfl
theorem ow64 : OW (.selects "java/lang/String" mn1 mn1) := gw 64 rfl
theorem ow65 : OW (.code mn1 jdk_42_method_54_code (1 : Nat) (Option.some Jvm.ClassFile.FieldType.int)) := gw 65 rfl
theorem ow66 : OW (.methodLink "java/lang/String" (335 : Nat) mn0) := gw 66 rfl
theorem ow67 : OW (.declares mn0) := gw 67 rfl
theorem ow68 : OW (.instanceMethod mn0) := gw 68 rfl
theorem ow69 : OW (.selects "java/lang/String" mn0 mn0) := gw 69 rfl
theorem ow70 : OW (.code mn0 jdk_42_method_152_code (1 : Nat) (Option.some Jvm.ClassFile.FieldType.byte)) := gw 70 rfl
theorem ow71 : OW (.fieldLink "java/lang/String" (38 : Nat) "java/lang/String" "COMPACT_STRINGS" "Z") := gw 71 rfl
theorem ow72 : OW (.fieldLink "java/lang/AbstractStringBuilder" (79 : Nat) "java/lang/AbstractStringBuilder" "count" "I") := gw 72 rfl
theorem ow73 : OW (.lays "java/lang/StringBuilder" "java/lang/AbstractStringBuilder" "count" "I") := gw 73 rfl
theorem ow74 : OW (.methodLink "java/lang/AbstractStringBuilder" (100 : Nat) mn8) := gw 74 rfl
theorem ow75 : OW (.instanceMethod mn8) := gw 75 rfl
theorem ow76 : OW (.privateMethod mn8) := gw 76 rfl
theorem ow77 : OW (.selects "java/lang/StringBuilder" mn8 mn8) := gw 77 rfl
theorem ow78 : OW (.code mn8 jdk_68_method_9_code (3 : Nat) (Option.none : Option Jvm.ClassFile.FieldType)) := gw 78 rfl
theorem ow79 : OW (.methodLink "java/lang/AbstractStringBuilder" (104 : Nat) mn21) := gw 79 rfl
theorem ow80 : OW (.instanceMethod mn21) := gw 80 rfl
theorem ow81 : OW (.privateMethod mn21) := gw 81 rfl
theorem ow82 : OW (.selects "java/lang/StringBuilder" mn21 mn21) := gw 82 rfl
theorem ow83 : OW (.code mn21 jdk_68_method_10_code (6 : Nat) (Option.some Jvm.ClassFile.FieldType.int)) := gw 83 rfl
theorem ow84 : OW (.methodLink "java/lang/AbstractStringBuilder" (114 : Nat) mn20) := gw 84 rfl
theorem ow85 : OW (.static mn20) := gw 85 rfl
theorem ow86 : OW (.initialized "jdk/internal/util/ArraysSupport") := gw 86 rfl
theorem ow87 : OW (.code mn20 jdk_48_method_27_code (4 : Nat) (Option.some Jvm.ClassFile.FieldType.int)) := gw 87 rfl
theorem ow88 : OW (.methodLink "jdk/internal/util/ArraysSupport" (194 : Nat) mn18) := gw 88 rfl
theorem ow89 : OW (.static mn18) := gw 89 rfl
theorem ow90 : OW (.initialized "java/lang/Math") := gw 90 rfl
theorem ow91 : OW (.code mn18 jdk_29_method_65_code (2 : Nat) (Option.some Jvm.ClassFile.FieldType.int)) := gw 91 rfl
theorem ow92 : OW (.constant "jdk/internal/util/ArraysSupport" (200 : Nat) (2147483639 : Int32)) := gw 92 rfl
theorem ow93 : OW (.constant "java/lang/AbstractStringBuilder" (39 : Nat) (2147483647 : Int32)) := gw 93 rfl
theorem ow94 : OW (.methodLink "java/lang/AbstractStringBuilder" (108 : Nat) mn22) := gw 94 rfl
theorem ow95 : OW (.static mn22) := gw 95 rfl
theorem ow96 : OW (.initialized "java/util/Arrays") := gw 96 rfl
theorem ow97 : OW (.code mn22 jdk_65_method_121_code (3 : Nat) (Option.some (Jvm.ClassFile.FieldType.array Jvm.ClassFile.FieldType.byte))) := gw 97 rfl
theorem ow98 : OW (.methodLink "java/util/Arrays" (304 : Nat) mn19) := gw 98 rfl
theorem ow99 : OW (.static mn19) := gw 99 rfl
theorem ow100 : OW (.code mn19 jdk_29_method_69_code (2 : Nat) (Option.some Jvm.ClassFile.FieldType.int)) := gw 100 rfl
theorem ow101 : OW (.methodLink "java/util/Arrays" (150 : Nat) mn43) := gw 101 rfl
theorem ow102 : OW (.static mn43) := gw 102 rfl
theorem ow103 : OW (.initialized "java/lang/System") := gw 103 rfl
theorem ow104 : OW (.native mn43) := gw 104 rfl
theorem ow105 : OW (.methodLink "java/lang/AbstractStringBuilder" (208 : Nat) mn11) := gw 105 rfl
theorem ow106 : OW (.instanceMethod mn11) := gw 106 rfl
theorem ow107 : OW (.privateMethod mn11) := gw 107 rfl
theorem ow108 : OW (.selects "java/lang/StringBuilder" mn11 mn11) := gw 108 rfl
theorem ow109 : OW (.code mn11 jdk_68_method_73_code (3 : Nat) (Option.none : Option Jvm.ClassFile.FieldType)) := gw 109 rfl
theorem ow110 : OW (.methodLink "java/lang/AbstractStringBuilder" (397 : Nat) mn9) := gw 110 rfl
theorem ow111 : OW (.instanceMethod mn9) := gw 111 rfl
theorem ow112 : OW (.privateMethod mn9) := gw 112 rfl
theorem ow113 : OW (.selects "java/lang/StringBuilder" mn9 mn9) := gw 113 rfl
theorem ow114 : OW (.code mn9 jdk_68_method_71_code (2 : Nat) (Option.none : Option Jvm.ClassFile.FieldType)) := gw 114 rfl
theorem ow115 : OW (.methodLink "java/lang/AbstractStringBuilder" (40 : Nat) mn0) := gw 115 rfl
theorem ow116 : OW (.methodLink "java/lang/AbstractStringBuilder" (399 : Nat) mn10) := gw 116 rfl
theorem ow117 : OW (.declares mn10) := gw 117 rfl
theorem ow118 : OW (.instanceMethod mn10) := gw 118 rfl
theorem ow119 : OW (.selects "java/lang/String" mn10 mn10) := gw 119 rfl
theorem ow120 : OW (.code mn10 jdk_42_method_147_code (4 : Nat) (Option.none : Option Jvm.ClassFile.FieldType)) := gw 120 rfl
theorem ow121 : OW (.methodLink "java/lang/String" (212 : Nat) mn43) := gw 121 rfl
theorem ow122 : OW (.stringLink "com/example/ops5/ops5/RefusedException" (58 : Nat) "'") := gw 122 rfl
theorem ow123 : OW (.methodLink "com/example/ops5/ops5/RefusedException" (60 : Nat) mn29) := gw 123 rfl
theorem ow124 : OW (.declares mn29) := gw 124 rfl
theorem ow125 : OW (.instanceMethod mn29) := gw 125 rfl
theorem ow126 : OW (.selects "java/lang/StringBuilder" mn29 mn29) := gw 126 rfl
theorem ow127 : OW (.code mn29 jdk_67_method_42_code (1 : Nat) (Option.some (Jvm.ClassFile.FieldType.object "java/lang/String"))) := gw 127 rfl
theorem ow128 : OW (.classLink "java/lang/StringBuilder" (18 : Nat) "java/lang/String") := gw 128 rfl
theorem ow129 : OW (.methodLink "java/lang/StringBuilder" (137 : Nat) mn28) := gw 129 rfl
theorem ow130 : OW (.instanceMethod mn28) := gw 130 rfl
theorem ow131 : OW (.code mn28 jdk_42_method_53_code (2 : Nat) (Option.none : Option Jvm.ClassFile.FieldType)) := gw 131 rfl
theorem ow132 : OW (.methodLink "java/lang/String" (489 : Nat) mn27) := gw 132 rfl
theorem ow133 : OW (.instanceMethod mn27) := gw 133 rfl
theorem ow134 : OW (.code mn27 jdk_42_method_150_code (5 : Nat) (Option.none : Option Jvm.ClassFile.FieldType)) := gw 134 rfl
theorem ow135 : OW (.methodLink "java/lang/String" (552 : Nat) mn15) := gw 135 rfl
theorem ow136 : OW (.declares mn15) := gw 136 rfl
theorem ow137 : OW (.instanceMethod mn15) := gw 137 rfl
theorem ow138 : OW (.selects "java/lang/StringBuilder" mn15 mn15) := gw 138 rfl
theorem ow139 : OW (.code mn15 jdk_68_method_64_code (1 : Nat) (Option.some (Jvm.ClassFile.FieldType.array Jvm.ClassFile.FieldType.byte))) := gw 139 rfl
theorem ow140 : OW (.methodLink "java/lang/String" (549 : Nat) mn16) := gw 140 rfl
theorem ow141 : OW (.declares mn16) := gw 141 rfl
theorem ow142 : OW (.instanceMethod mn16) := gw 142 rfl
theorem ow143 : OW (.selects "java/lang/StringBuilder" mn16 mn17) := gw 143 rfl
theorem ow144 : OW (.instanceMethod mn17) := gw 144 rfl
theorem ow145 : OW (.code mn17 jdk_67_method_93_code (1 : Nat) (Option.some Jvm.ClassFile.FieldType.int)) := gw 145 rfl
theorem ow146 : OW (.methodLink "java/lang/StringBuilder" (343 : Nat) mn16) := gw 146 rfl
theorem ow147 : OW (.code mn16 jdk_68_method_6_code (1 : Nat) (Option.some Jvm.ClassFile.FieldType.int)) := gw 147 rfl
theorem ow148 : OW (.methodLink "java/lang/String" (1047 : Nat) mn14) := gw 148 rfl
theorem ow149 : OW (.declares mn14) := gw 149 rfl
theorem ow150 : OW (.instanceMethod mn14) := gw 150 rfl
theorem ow151 : OW (.selects "java/lang/StringBuilder" mn14 mn14) := gw 151 rfl
theorem ow152 : OW (.code mn14 jdk_68_method_68_code (1 : Nat) (Option.some Jvm.ClassFile.FieldType.boolean)) := gw 152 rfl
theorem ow153 : OW (.methodLink "java/lang/String" (54 : Nat) mn26) := gw 153 rfl
theorem ow154 : OW (.static mn26) := gw 154 rfl
theorem ow155 : OW (.code mn26 jdk_65_method_132_code (3 : Nat) (Option.some (Jvm.ClassFile.FieldType.array Jvm.ClassFile.FieldType.byte))) := gw 155 rfl
theorem ow156 : OW (.methodLink "java/util/Arrays" (339 : Nat) mn25) := gw 156 rfl
theorem ow157 : OW (.static mn25) := gw 157 rfl
theorem ow158 : OW (.code mn25 jdk_65_method_133_code (5 : Nat) (Option.some (Jvm.ClassFile.FieldType.array Jvm.ClassFile.FieldType.byte))) := gw 158 rfl
theorem ow159 : OW (.methodLink "java/util/Arrays" (343 : Nat) mn24) := gw 159 rfl
theorem ow160 : OW (.static mn24) := gw 160 rfl
theorem ow161 : OW (.code mn24 jdk_65_method_131_code (2 : Nat) (Option.none : Option Jvm.ClassFile.FieldType)) := gw 161 rfl
theorem ow162 : OW (.methodLink "com/example/ops5/ops5/RefusedException" (64 : Nat) mn33) := gw 162 rfl
theorem ow163 : OW (.instanceMethod mn33) := gw 163 rfl
theorem ow164 : OW (.code mn33 prog_5_method_1_code (2 : Nat) (Option.none : Option Jvm.ClassFile.FieldType)) := gw 164 rfl
theorem ow165 : OW (.methodLink "com/example/ops5/ops5/RefusedException" (1 : Nat) mn32) := gw 165 rfl
theorem ow166 : OW (.instanceMethod mn32) := gw 166 rfl
theorem ow168 : OW (.initialized "java/lang/Exception") := gw 168 rfl
theorem ow169 : OW (.code mn32 jdk_59_method_2_code (2 : Nat) (Option.none : Option Jvm.ClassFile.FieldType)) := gw 169 rfl
theorem ow170 : OW (.methodLink "java/lang/Exception" (7 : Nat) mn31) := gw 170 rfl
theorem ow171 : OW (.instanceMethod mn31) := gw 171 rfl
theorem ow174 : OW (.initialized "java/lang/Throwable") := gw 174 rfl
theorem ow175 : OW (.code mn31 jdk_78_method_2_code (2 : Nat) (Option.none : Option Jvm.ClassFile.FieldType)) := gw 175 rfl
theorem ow176 : OW (.methodLink "java/lang/Throwable" (1 : Nat) mn42) := gw 176 rfl
theorem ow177 : OW (.fieldLink "java/lang/Throwable" (7 : Nat) "java/lang/Throwable" "cause" "Ljava/lang/Throwable;") := gw 177 rfl
theorem ow178 : OW (.lays "com/example/ops5/ops5/RefusedException" "java/lang/Throwable" "cause" "Ljava/lang/Throwable;") := gw 178 rfl
theorem ow179 : OW (.fieldLink "java/lang/Throwable" (13 : Nat) "java/lang/Throwable" "UNASSIGNED_STACK" "[Ljava/lang/StackTraceElement;") := gw 179 rfl
theorem ow180 : OW (.fieldLink "java/lang/Throwable" (17 : Nat) "java/lang/Throwable" "stackTrace" "[Ljava/lang/StackTraceElement;") := gw 180 rfl
theorem ow181 : OW (.lays "com/example/ops5/ops5/RefusedException" "java/lang/Throwable" "stackTrace" "[Ljava/lang/StackTraceElement;") := gw 181 rfl
theorem ow182 : OW (.fieldLink "java/lang/Throwable" (20 : Nat) "java/lang/Throwable" "SUPPRESSED_SENTINEL" "Ljava/util/List;") := gw 182 rfl
theorem ow183 : OW (.fieldLink "java/lang/Throwable" (24 : Nat) "java/lang/Throwable" "suppressedExceptions" "Ljava/util/List;") := gw 183 rfl
theorem ow184 : OW (.lays "com/example/ops5/ops5/RefusedException" "java/lang/Throwable" "suppressedExceptions" "Ljava/util/List;") := gw 184 rfl
theorem ow208 : OW (.lays "com/example/ops5/ops5/RefusedException" "java/lang/Throwable" "detailMessage" "Ljava/lang/String;") := gw 208 rfl
theorem ow209 : OW (.lays "com/example/ops5/ops5/RefusedException" "java/lang/Throwable" "backtrace" "Ljava/lang/Object;") := gw 209 rfl
theorem ow212 : OW (.fieldLink "java/lang/Throwable" (31 : Nat) "java/lang/Throwable" "detailMessage" "Ljava/lang/String;") := gw 212 rfl
theorem ow213 : OW (.methodLink "com/example/ops5/ops5/RefusedExceptionNameTakenPinLaw" (24 : Nat) mn38) := gw 213 rfl
theorem ow214 : OW (.sameMethod "com/example/ops5/ops5/RefusedException" "java/lang/Throwable" "getMessage" "()Ljava/lang/String;") := gw 214 rfl
theorem ow215 : OW (.declares mn30) := gw 215 rfl
theorem ow216 : OW (.instanceMethod mn30) := gw 216 rfl
theorem ow217 : OW (.selects "com/example/ops5/ops5/RefusedException" mn38 mn30) := gw 217 rfl
theorem ow218 : OW (.code mn30 jdk_78_method_6_code (1 : Nat) (Option.some (Jvm.ClassFile.FieldType.object "java/lang/String"))) := gw 218 rfl
theorem ow219 : OW (.stringLink "com/example/ops5/ops5/RefusedExceptionNameTakenPinLaw" (28 : Nat) "the store already holds a document named ''") := gw 219 rfl
theorem ow220 : OW (.methodLink "com/example/ops5/ops5/RefusedExceptionNameTakenPinLaw" (30 : Nat) mn39) := gw 220 rfl
theorem ow221 : OW (.declares mn39) := gw 221 rfl
theorem ow222 : OW (.instanceMethod mn39) := gw 222 rfl
theorem ow223 : OW (.selects "java/lang/String" mn39 mn39) := gw 223 rfl
theorem ow228 : OW (.initialized "java/lang/StringLatin1") := gw 228 rfl
theorem ow230 : OW (.methodLink "com/example/ops5/ops5/RefusedExceptionNameTakenPinLaw" (34 : Nat) mn40) := gw 230 rfl
theorem ow231 : OW (.sameMethod "com/example/ops5/ops5/RefusedException" "java/lang/Throwable" "getCause" "()Ljava/lang/Throwable;") := gw 231 rfl
theorem ow232 : OW (.declares mn41) := gw 232 rfl
theorem ow233 : OW (.instanceMethod mn41) := gw 233 rfl
theorem ow234 : OW (.selects "com/example/ops5/ops5/RefusedException" mn40 mn41) := gw 234 rfl
theorem ow235 : OW (.codeSync mn41 jdk_78_method_8_code (1 : Nat) (Option.some (Jvm.ClassFile.FieldType.object "java/lang/Throwable"))) := gw 235 rfl
theorem ow236 : OW (.methodLink "com/example/ops5/ops5/RefusedExceptionNameTakenPinLaw" (38 : Nat) mn1) := gw 236 rfl
theorem ow237 : OW (.constant "com/example/ops5/ops5/RefusedExceptionNameTakenPinLaw" (42 : Nat) (2147483647 : Int32)) := gw 237 rfl
theorem ow238 : OW (.methodLink "com/example/ops5/ops5/RefusedExceptionNameTakenPinLaw" (43 : Nat) mn6) := gw 238 rfl
theorem ow239 : OW (.declares mn6) := gw 239 rfl
theorem ow240 : OW (.instanceMethod mn6) := gw 240 rfl
theorem ow241 : OW (.selects "java/lang/String" mn6 mn6) := gw 241 rfl
theorem ow242 : OW (.code mn6 jdk_42_method_56_code (2 : Nat) (Option.some Jvm.ClassFile.FieldType.char)) := gw 242 rfl
theorem ow243 : OW (.methodLink "java/lang/String" (492 : Nat) mn5) := gw 243 rfl
theorem ow244 : OW (.declares mn5) := gw 244 rfl
theorem ow245 : OW (.instanceMethod mn5) := gw 245 rfl
theorem ow246 : OW (.selects "java/lang/String" mn5 mn5) := gw 246 rfl
theorem ow247 : OW (.code mn5 jdk_42_method_154_code (1 : Nat) (Option.some Jvm.ClassFile.FieldType.boolean)) := gw 247 rfl
theorem ow248 : OW (.methodLink "java/lang/String" (495 : Nat) mn4) := gw 248 rfl
theorem ow249 : OW (.static mn4) := gw 249 rfl
theorem ow250 : OW (.code mn4 jdk_43_method_2_code (2 : Nat) (Option.some Jvm.ClassFile.FieldType.char)) := gw 250 rfl
theorem ow251 : OW (.methodLink "java/lang/StringLatin1" (9 : Nat) mn3) := gw 251 rfl
theorem ow252 : OW (.static mn3) := gw 252 rfl
theorem ow253 : OW (.code mn3 jdk_42_method_155_code (2 : Nat) (Option.none : Option Jvm.ClassFile.FieldType)) := gw 253 rfl
theorem ow254 : OW (.fieldLink "java/lang/String" (1053 : Nat) "jdk/internal/util/Preconditions" "SIOOBE_FORMATTER" "Ljava/util/function/BiFunction;") := gw 254 rfl
theorem ow255 : OW (.initialized "jdk/internal/util/Preconditions") := gw 255 rfl
theorem ow256 : OW (.methodLink "java/lang/String" (1059 : Nat) mn2) := gw 256 rfl
theorem ow257 : OW (.static mn2) := gw 257 rfl
theorem ow258 : OW (.code mn2 jdk_41_method_11_code (3 : Nat) (Option.some Jvm.ClassFile.FieldType.int)) := gw 258 rfl
abbrev cB0 := jdk_42_method_152_code
abbrev cB1 := jdk_42_method_54_code
abbrev cB2 := jdk_41_method_11_code
abbrev cB3 := jdk_42_method_155_code
abbrev cB4 := jdk_43_method_2_code
abbrev cB5 := jdk_42_method_154_code
abbrev cB6 := jdk_42_method_56_code
abbrev cB7 := jdk_68_method_2_code
abbrev cB8 := jdk_68_method_9_code
abbrev cB9 := jdk_68_method_71_code
abbrev cB10 := jdk_42_method_147_code
abbrev cB11 := jdk_68_method_73_code
abbrev cB12 := jdk_68_method_22_code
abbrev cB13 := jdk_67_method_7_code
abbrev cB14 := jdk_68_method_68_code
abbrev cB15 := jdk_68_method_64_code
abbrev cB16 := jdk_68_method_6_code
abbrev cB17 := jdk_67_method_93_code
abbrev cB18 := jdk_29_method_65_code
abbrev cB19 := jdk_29_method_69_code
abbrev cB20 := jdk_48_method_27_code
abbrev cB21 := jdk_68_method_10_code
abbrev cB22 := jdk_65_method_121_code
abbrev cB23 := jdk_67_method_1_code
abbrev cB24 := jdk_65_method_131_code
abbrev cB25 := jdk_65_method_133_code
abbrev cB26 := jdk_65_method_132_code
abbrev cB27 := jdk_42_method_150_code
abbrev cB28 := jdk_42_method_53_code
abbrev cB29 := jdk_67_method_42_code
abbrev cB30 := jdk_78_method_6_code
abbrev cB31 := jdk_78_method_2_code
abbrev cB32 := jdk_59_method_2_code
abbrev cB33 := prog_5_method_1_code
abbrev cB34 := prog_5_method_4_code
abbrev cB35 := jdk_42_method_149_code
abbrev cB36 := jdk_42_method_3_code
abbrev cB37 := method_2_code
theorem o497 : De code 0 1 1 (.iload_n 0) := ⟨at_0, rfl⟩
theorem o498 : De code 1 1 2 (.iconst 3) := ⟨at_1, rfl⟩
theorem o499 : De code 2 1 3 .iand := ⟨at_2, rfl⟩
theorem o500 : De code 3 1 4 (.istore_n 3) := ⟨at_3, rfl⟩
theorem o501 : De code 4 1 5 (.iload_n 1) := ⟨at_4, rfl⟩
theorem o502 : De code 5 3 8 (.sipush 255) := ⟨at_5, rfl⟩
theorem o503 : De code 8 1 9 .iand := ⟨at_8, rfl⟩
theorem o504 : De code 9 1 10 .i2c := ⟨at_9, rfl⟩
theorem o505 : De code 10 2 12 (.istore 4) := ⟨at_10, rfl⟩
theorem o506 : De code 12 1 13 (.iload_n 1) := ⟨at_12, rfl⟩
theorem o507 : De code 13 2 15 (.bipush 8) := ⟨at_13, rfl⟩
theorem o508 : De code 15 1 16 .iushr := ⟨at_15, rfl⟩
theorem o509 : De code 16 3 19 (.sipush 255) := ⟨at_16, rfl⟩
theorem o510 : De code 19 1 20 .iand := ⟨at_19, rfl⟩
theorem o511 : De code 20 1 21 .i2c := ⟨at_20, rfl⟩
theorem o512 : De code 21 2 23 (.istore 5) := ⟨at_21, rfl⟩
theorem o513 : De code 23 1 24 (.iload_n 1) := ⟨at_23, rfl⟩
theorem o514 : De code 24 2 26 (.bipush 16) := ⟨at_24, rfl⟩
theorem o515 : De code 26 1 27 .iushr := ⟨at_26, rfl⟩
theorem o516 : De code 27 3 30 (.sipush 255) := ⟨at_27, rfl⟩
theorem o517 : De code 30 1 31 .iand := ⟨at_30, rfl⟩
theorem o518 : De code 31 1 32 .i2c := ⟨at_31, rfl⟩
theorem o519 : De code 32 2 34 (.istore 6) := ⟨at_32, rfl⟩
theorem o520 : De code 34 1 35 (.iload_n 3) := ⟨at_34, rfl⟩
theorem o521 : De code 35 2 37 (.iload 4) := ⟨at_35, rfl⟩
theorem o522 : De code 37 2 39 (.iload 5) := ⟨at_37, rfl⟩
theorem o523 : De code 39 2 41 (.iload 6) := ⟨at_39, rfl⟩
theorem o524 : De code 41 3 44 (.invokestatic 12) := ⟨at_41, rfl⟩
theorem o525 : De code 44 2 46 (.astore 7) := ⟨at_44, rfl⟩
theorem o429 : De code 46 3 49 (.new 7) := ⟨at_46, rfl⟩
theorem o430 : De code 49 1 50 .dup := ⟨at_49, rfl⟩
theorem o431 : De code 50 1 51 (.iconst 0) := ⟨at_50, rfl⟩
theorem o432 : De code 51 2 53 (.newarray .char) := ⟨at_51, rfl⟩
theorem o433 : De code 53 3 56 (.invokespecial 9) := ⟨at_53, rfl⟩
theorem o434 : De code 56 3 59 (.invokestatic 18) := ⟨at_56, rfl⟩
theorem o435 : De code 59 3 62 (.invokevirtual 24) := ⟨at_59, rfl⟩
theorem o436 : De code 62 2 64 (.astore 8) := ⟨at_62, rfl⟩
theorem o437 : De code 64 2 66 (.aload 7) := ⟨at_64, rfl⟩
theorem o438 : De code 66 3 69 (.invokestatic 18) := ⟨at_66, rfl⟩
theorem o439 : De code 69 2 71 (.astore 9) := ⟨at_69, rfl⟩
theorem o440 : De code 71 2 73 (.aload 9) := ⟨at_71, rfl⟩
theorem o441 : De code 73 3 76 (.invokevirtual 24) := ⟨at_73, rfl⟩
theorem o442 : De code 76 2 78 (.astore 10) := ⟨at_76, rfl⟩
theorem o443 : De code 78 2 80 (.aload 8) := ⟨at_78, rfl⟩
theorem o444 : De code 80 3 83 (.ifnull 8) := ⟨at_80, rfl⟩
theorem o445 : De code 83 2 85 (.aload 10) := ⟨at_83, rfl⟩
theorem o446 : De code 90 2 92 (.aload 8) := ⟨at_90, rfl⟩
theorem o447 : De code 92 2 94 (.ldc 28) := ⟨at_92, rfl⟩
theorem o448 : De code 94 3 97 (.invokevirtual 30) := ⟨at_94, rfl⟩
theorem o449 : De code 102 2 104 (.aload 9) := ⟨at_102, rfl⟩
theorem o450 : De code 104 3 107 (.invokevirtual 34) := ⟨at_104, rfl⟩
theorem o451 : De code 112 2 114 (.aload 10) := ⟨at_112, rfl⟩
theorem o452 : De code 114 3 117 (.invokevirtual 38) := ⟨at_114, rfl⟩
theorem o453 : De code 117 2 119 (.bipush 43) := ⟨at_117, rfl⟩
theorem o454 : De code 119 1 120 (.iload_n 3) := ⟨at_119, rfl⟩
theorem o455 : De code 120 1 121 .iadd := ⟨at_120, rfl⟩
theorem o456 : De code 126 1 127 (.iload_n 2) := ⟨at_126, rfl⟩
theorem o457 : De code 127 2 129 (.ldc 42) := ⟨at_127, rfl⟩
theorem o458 : De code 129 1 130 .iand := ⟨at_129, rfl⟩
theorem o459 : De code 130 2 132 (.bipush 42) := ⟨at_130, rfl⟩
theorem o460 : De code 132 1 133 .irem := ⟨at_132, rfl⟩
theorem o461 : De code 133 2 135 (.istore 11) := ⟨at_133, rfl⟩
theorem o462 : De code 135 2 137 (.aload 10) := ⟨at_135, rfl⟩
theorem o463 : De code 137 2 139 (.iload 11) := ⟨at_137, rfl⟩
theorem o464 : De code 139 3 142 (.invokevirtual 43) := ⟨at_139, rfl⟩
theorem o465 : De code 142 2 144 (.aload 8) := ⟨at_142, rfl⟩
theorem o466 : De code 144 2 146 (.iload 11) := ⟨at_144, rfl⟩
theorem o467 : De code 146 3 149 (.invokevirtual 43) := ⟨at_146, rfl⟩
theorem o468 : De code 154 1 155 (.iload_n 3) := ⟨at_154, rfl⟩
theorem o482 : De code 155 3 158 (.ifCond .le 17) := ⟨at_155, rfl⟩
theorem o483 : De code 158 2 160 (.aload 10) := ⟨at_158, rfl⟩
theorem o484 : De code 160 2 162 (.bipush 42) := ⟨at_160, rfl⟩
theorem o485 : De code 162 3 165 (.invokevirtual 43) := ⟨at_162, rfl⟩
theorem o486 : De code 165 2 167 (.iload 4) := ⟨at_165, rfl⟩
theorem o469 : De code 172 1 173 (.iload_n 3) := ⟨at_172, rfl⟩
theorem o470 : De code 173 1 174 (.iconst 1) := ⟨at_173, rfl⟩
theorem o487 : De code 174 3 177 (.if_icmp .le 17) := ⟨at_174, rfl⟩
theorem o488 : De code 177 2 179 (.aload 10) := ⟨at_177, rfl⟩
theorem o489 : De code 179 2 181 (.bipush 43) := ⟨at_179, rfl⟩
theorem o490 : De code 181 3 184 (.invokevirtual 43) := ⟨at_181, rfl⟩
theorem o491 : De code 184 2 186 (.iload 5) := ⟨at_184, rfl⟩
theorem o471 : De code 191 1 192 (.iload_n 3) := ⟨at_191, rfl⟩
theorem o472 : De code 192 1 193 (.iconst 2) := ⟨at_192, rfl⟩
theorem o492 : De code 193 3 196 (.if_icmp .le 17) := ⟨at_193, rfl⟩
theorem o493 : De code 196 2 198 (.aload 10) := ⟨at_196, rfl⟩
theorem o494 : De code 198 2 200 (.bipush 44) := ⟨at_198, rfl⟩
theorem o495 : De code 200 3 203 (.invokevirtual 43) := ⟨at_200, rfl⟩
theorem o496 : De code 203 2 205 (.iload 6) := ⟨at_203, rfl⟩
theorem o473 : De code 210 2 212 (.aload 10) := ⟨at_210, rfl⟩
theorem o474 : De code 212 2 214 (.bipush 42) := ⟨at_212, rfl⟩
theorem o475 : De code 214 1 215 (.iload_n 3) := ⟨at_214, rfl⟩
theorem o476 : De code 215 1 216 .iadd := ⟨at_215, rfl⟩
theorem o477 : De code 216 3 219 (.invokevirtual 43) := ⟨at_216, rfl⟩
theorem o478 : De code 219 2 221 (.bipush 39) := ⟨at_219, rfl⟩
theorem o479 : De code 221 3 224 (.if_icmp .ne 7) := ⟨at_221, rfl⟩
theorem o480 : De code 224 1 225 (.iconst 1) := ⟨at_224, rfl⟩
theorem o481 : De code 229 1 230 .ireturn := ⟨at_229, rfl⟩
theorem o152 : De cB18 0 1 1 (.iload_n 0) := by decide +kernel
theorem o153 : De cB18 1 1 2 (.iload_n 1) := by decide +kernel
theorem o154 : De cB18 2 3 5 (.if_icmp .lt 7) := by decide +kernel
theorem o157 : De cB18 5 1 6 (.iload_n 0) := by decide +kernel
theorem o155 : De cB18 9 1 10 (.iload_n 1) := by decide +kernel
theorem o156 : De cB18 10 1 11 .ireturn := by decide +kernel
theorem o158 : De cB19 0 1 1 (.iload_n 0) := by decide +kernel
theorem o159 : De cB19 1 1 2 (.iload_n 1) := by decide +kernel
theorem o160 : De cB19 2 3 5 (.if_icmp .gt 7) := by decide +kernel
theorem o163 : De cB19 5 1 6 (.iload_n 0) := by decide +kernel
theorem o161 : De cB19 9 1 10 (.iload_n 1) := by decide +kernel
theorem o162 : De cB19 10 1 11 .ireturn := by decide +kernel
theorem o12 : De cB2 0 1 1 (.iload_n 0) := by decide +kernel
theorem o13 : De cB2 1 3 4 (.ifCond .lt 8) := by decide +kernel
theorem o14 : De cB2 4 1 5 (.iload_n 0) := by decide +kernel
theorem o15 : De cB2 5 1 6 (.iload_n 1) := by decide +kernel
theorem o16 : De cB2 16 1 17 (.iload_n 0) := by decide +kernel
theorem o17 : De cB2 17 1 18 .ireturn := by decide +kernel
theorem o80 : De cB10 0 1 1 (.aload_n 0) := by decide +kernel
theorem o81 : De cB10 1 3 4 (.invokevirtual 335) := by decide +kernel
theorem o82 : De cB10 4 1 5 (.iload_n 3) := by decide +kernel
theorem o83 : De cB10 5 3 8 (.if_icmp .ne 23) := by decide +kernel
theorem o84 : De cB10 8 1 9 (.aload_n 0) := by decide +kernel
theorem o85 : De cB10 9 3 12 (.getfield 9) := by decide +kernel
theorem o86 : De cB10 12 1 13 (.iconst 0) := by decide +kernel
theorem o87 : De cB10 13 1 14 (.aload_n 1) := by decide +kernel
theorem o88 : De cB10 14 1 15 (.iload_n 2) := by decide +kernel
theorem o89 : De cB10 15 1 16 (.iload_n 3) := by decide +kernel
theorem o90 : De cB10 16 1 17 .ishl := by decide +kernel
theorem o91 : De cB10 17 1 18 (.aload_n 0) := by decide +kernel
theorem o92 : De cB10 18 3 21 (.getfield 9) := by decide +kernel
theorem o93 : De cB10 21 1 22 .arraylength := by decide +kernel
theorem o94 : De cB10 22 3 25 (.invokestatic 212) := by decide +kernel
theorem o95 : De cB10 43 1 44 .return_ := by decide +kernel
theorem o352 : De cB35 0 1 1 (.aload_n 0) := by decide +kernel
theorem o353 : De cB35 1 3 4 (.invokespecial 1) := by decide +kernel
theorem o354 : De cB35 4 1 5 (.iload_n 3) := by decide +kernel
theorem o355 : De cB35 5 3 8 (.ifCond .ne 22) := by decide +kernel
theorem o356 : De cB35 8 1 9 (.aload_n 0) := by decide +kernel
theorem o357 : De cB35 9 2 11 (.ldc 7) := by decide +kernel
theorem o358 : De cB35 11 3 14 (.getfield 9) := by decide +kernel
theorem o359 : De cB35 14 3 17 (.putfield 9) := by decide +kernel
theorem o360 : De cB35 17 1 18 (.aload_n 0) := by decide +kernel
theorem o361 : De cB35 18 2 20 (.ldc 7) := by decide +kernel
theorem o362 : De cB35 20 3 23 (.getfield 15) := by decide +kernel
theorem o363 : De cB35 23 3 26 (.putfield 15) := by decide +kernel
theorem o364 : De cB35 26 1 27 .return_ := by decide +kernel
theorem o278 : De cB27 0 1 1 (.aload_n 0) := by decide +kernel
theorem o279 : De cB27 1 3 4 (.invokespecial 1) := by decide +kernel
theorem o280 : De cB27 4 1 5 (.aload_n 1) := by decide +kernel
theorem o281 : De cB27 5 3 8 (.invokevirtual 552) := by decide +kernel
theorem o282 : De cB27 8 1 9 (.astore_n 3) := by decide +kernel
theorem o283 : De cB27 9 1 10 (.aload_n 1) := by decide +kernel
theorem o284 : De cB27 10 3 13 (.invokevirtual 549) := by decide +kernel
theorem o285 : De cB27 13 2 15 (.istore 4) := by decide +kernel
theorem o286 : De cB27 15 1 16 (.aload_n 1) := by decide +kernel
theorem o287 : De cB27 16 3 19 (.invokevirtual 1047) := by decide +kernel
theorem o288 : De cB27 19 3 22 (.ifCond .eq 22) := by decide +kernel
theorem o289 : De cB27 22 1 23 (.aload_n 0) := by decide +kernel
theorem o290 : De cB27 23 1 24 (.iconst 0) := by decide +kernel
theorem o291 : De cB27 24 3 27 (.putfield 15) := by decide +kernel
theorem o292 : De cB27 27 1 28 (.aload_n 0) := by decide +kernel
theorem o293 : De cB27 28 1 29 (.aload_n 3) := by decide +kernel
theorem o294 : De cB27 29 1 30 (.iconst 0) := by decide +kernel
theorem o295 : De cB27 30 2 32 (.iload 4) := by decide +kernel
theorem o296 : De cB27 32 3 35 (.invokestatic 54) := by decide +kernel
theorem o297 : De cB27 35 3 38 (.putfield 9) := by decide +kernel
theorem o298 : De cB27 97 1 98 .return_ := by decide +kernel
theorem o0 : De cB0 0 3 3 (.getstatic 38) := by decide +kernel
theorem o1 : De cB0 3 3 6 (.ifCond .eq 10) := by decide +kernel
theorem o2 : De cB0 6 1 7 (.aload_n 0) := by decide +kernel
theorem o3 : De cB0 7 3 10 (.getfield 15) := by decide +kernel
theorem o4 : De cB0 14 1 15 .ireturn := by decide +kernel
theorem o35 : De cB5 0 3 3 (.getstatic 38) := by decide +kernel
theorem o36 : De cB5 3 3 6 (.ifCond .eq 14) := by decide +kernel
theorem o37 : De cB5 6 1 7 (.aload_n 0) := by decide +kernel
theorem o38 : De cB5 7 3 10 (.getfield 15) := by decide +kernel
theorem o39 : De cB5 10 3 13 (.ifCond .ne 7) := by decide +kernel
theorem o40 : De cB5 13 1 14 (.iconst 1) := by decide +kernel
theorem o41 : De cB5 18 1 19 .ireturn := by decide +kernel
theorem o18 : De cB3 0 1 1 (.iload_n 0) := by decide +kernel
theorem o19 : De cB3 1 1 2 (.iload_n 1) := by decide +kernel
theorem o20 : De cB3 2 3 5 (.getstatic 1053) := by decide +kernel
theorem o21 : De cB3 5 3 8 (.invokestatic 1059) := by decide +kernel
theorem o22 : De cB3 8 1 9 .pop := by decide +kernel
theorem o23 : De cB3 9 1 10 .return_ := by decide +kernel
theorem o365 : De cB36 0 1 1 (.aload_n 0) := by decide +kernel
theorem o366 : De cB36 1 1 2 (.aload_n 1) := by decide +kernel
theorem o367 : De cB36 2 1 3 (.iconst 0) := by decide +kernel
theorem o368 : De cB36 3 1 4 (.aload_n 1) := by decide +kernel
theorem o369 : De cB36 4 1 5 .arraylength := by decide +kernel
theorem o370 : De cB36 5 1 6 .aconst_null := by decide +kernel
theorem o371 : De cB36 6 3 9 (.invokespecial 27) := by decide +kernel
theorem o372 : De cB36 9 1 10 .return_ := by decide +kernel
theorem o299 : De cB28 0 1 1 (.aload_n 0) := by decide +kernel
theorem o300 : De cB28 1 1 2 (.aload_n 1) := by decide +kernel
theorem o301 : De cB28 2 1 3 .aconst_null := by decide +kernel
theorem o302 : De cB28 3 3 6 (.invokespecial 489) := by decide +kernel
theorem o303 : De cB28 6 1 7 .return_ := by decide +kernel
theorem o5 : De cB1 0 1 1 (.aload_n 0) := by decide +kernel
theorem o6 : De cB1 1 3 4 (.getfield 9) := by decide +kernel
theorem o7 : De cB1 4 1 5 .arraylength := by decide +kernel
theorem o8 : De cB1 5 1 6 (.aload_n 0) := by decide +kernel
theorem o9 : De cB1 6 3 9 (.invokevirtual 335) := by decide +kernel
theorem o10 : De cB1 9 1 10 .ishr := by decide +kernel
theorem o11 : De cB1 10 1 11 .ireturn := by decide +kernel
theorem o42 : De cB6 0 1 1 (.aload_n 0) := by decide +kernel
theorem o43 : De cB6 1 3 4 (.invokevirtual 492) := by decide +kernel
theorem o44 : De cB6 4 3 7 (.ifCond .eq 12) := by decide +kernel
theorem o45 : De cB6 7 1 8 (.aload_n 0) := by decide +kernel
theorem o46 : De cB6 8 3 11 (.getfield 9) := by decide +kernel
theorem o47 : De cB6 11 1 12 (.iload_n 1) := by decide +kernel
theorem o48 : De cB6 12 3 15 (.invokestatic 495) := by decide +kernel
theorem o49 : De cB6 15 1 16 .ireturn := by decide +kernel
theorem o24 : De cB4 0 1 1 (.iload_n 1) := by decide +kernel
theorem o25 : De cB4 1 1 2 (.aload_n 0) := by decide +kernel
theorem o26 : De cB4 2 1 3 .arraylength := by decide +kernel
theorem o27 : De cB4 3 3 6 (.invokestatic 9) := by decide +kernel
theorem o28 : De cB4 6 1 7 (.aload_n 0) := by decide +kernel
theorem o29 : De cB4 7 1 8 (.iload_n 1) := by decide +kernel
theorem o30 : De cB4 8 1 9 .baload := by decide +kernel
theorem o31 : De cB4 9 3 12 (.sipush 255) := by decide +kernel
theorem o32 : De cB4 12 1 13 .iand := by decide +kernel
theorem o33 : De cB4 13 1 14 .i2c := by decide +kernel
theorem o34 : De cB4 14 1 15 .ireturn := by decide +kernel
theorem o164 : De cB20 0 1 1 (.iload_n 0) := by decide +kernel
theorem o165 : De cB20 1 1 2 (.iload_n 1) := by decide +kernel
theorem o166 : De cB20 2 1 3 (.iload_n 2) := by decide +kernel
theorem o167 : De cB20 3 3 6 (.invokestatic 194) := by decide +kernel
theorem o168 : De cB20 6 1 7 .iadd := by decide +kernel
theorem o169 : De cB20 7 1 8 (.istore_n 3) := by decide +kernel
theorem o170 : De cB20 8 1 9 (.iconst 0) := by decide +kernel
theorem o171 : De cB20 9 1 10 (.iload_n 3) := by decide +kernel
theorem o172 : De cB20 10 3 13 (.if_icmp .ge 11) := by decide +kernel
theorem o173 : De cB20 13 1 14 (.iload_n 3) := by decide +kernel
theorem o174 : De cB20 14 2 16 (.ldc 200) := by decide +kernel
theorem o175 : De cB20 16 3 19 (.if_icmp .gt 5) := by decide +kernel
theorem o176 : De cB20 19 1 20 (.iload_n 3) := by decide +kernel
theorem o177 : De cB20 20 1 21 .ireturn := by decide +kernel
theorem o330 : De cB32 0 1 1 (.aload_n 0) := by decide +kernel
theorem o331 : De cB32 1 1 2 (.aload_n 1) := by decide +kernel
theorem o332 : De cB32 2 3 5 (.invokespecial 7) := by decide +kernel
theorem o333 : De cB32 5 1 6 .return_ := by decide +kernel
theorem o208 : De cB22 0 1 1 (.iload_n 1) := by decide +kernel
theorem o209 : De cB22 1 1 2 (.aload_n 0) := by decide +kernel
theorem o210 : De cB22 2 1 3 .arraylength := by decide +kernel
theorem o211 : De cB22 14 1 15 (.iload_n 1) := by decide +kernel
theorem o212 : De cB22 15 2 17 (.newarray .byte) := by decide +kernel
theorem o213 : De cB22 17 1 18 (.astore_n 2) := by decide +kernel
theorem o214 : De cB22 18 1 19 (.aload_n 0) := by decide +kernel
theorem o215 : De cB22 19 1 20 (.iconst 0) := by decide +kernel
theorem o216 : De cB22 20 1 21 (.aload_n 2) := by decide +kernel
theorem o217 : De cB22 21 1 22 (.iconst 0) := by decide +kernel
theorem o218 : De cB22 22 1 23 (.aload_n 0) := by decide +kernel
theorem o219 : De cB22 23 1 24 .arraylength := by decide +kernel
theorem o220 : De cB22 24 1 25 (.iload_n 1) := by decide +kernel
theorem o221 : De cB22 25 3 28 (.invokestatic 304) := by decide +kernel
theorem o222 : De cB22 28 3 31 (.invokestatic 150) := by decide +kernel
theorem o223 : De cB22 31 1 32 (.aload_n 2) := by decide +kernel
theorem o224 : De cB22 32 1 33 .areturn := by decide +kernel
theorem o241 : De cB24 0 1 1 (.iload_n 1) := by decide +kernel
theorem o242 : De cB24 1 1 2 (.iload_n 0) := by decide +kernel
theorem o243 : De cB24 37 1 38 .return_ := by decide +kernel
theorem o267 : De cB26 0 1 1 (.iload_n 1) := by decide +kernel
theorem o268 : De cB26 1 3 4 (.ifCond .ne 9) := by decide +kernel
theorem o269 : De cB26 4 1 5 (.iload_n 2) := by decide +kernel
theorem o270 : De cB26 5 1 6 (.aload_n 0) := by decide +kernel
theorem o271 : De cB26 6 1 7 .arraylength := by decide +kernel
theorem o272 : De cB26 7 3 10 (.if_icmp .eq 10) := by decide +kernel
theorem o273 : De cB26 10 1 11 (.aload_n 0) := by decide +kernel
theorem o274 : De cB26 11 1 12 (.iload_n 1) := by decide +kernel
theorem o275 : De cB26 12 1 13 (.iload_n 2) := by decide +kernel
theorem o276 : De cB26 13 3 16 (.invokestatic 339) := by decide +kernel
theorem o277 : De cB26 16 1 17 .areturn := by decide +kernel
theorem o244 : De cB25 0 1 1 (.iload_n 1) := by decide +kernel
theorem o245 : De cB25 1 1 2 (.iload_n 2) := by decide +kernel
theorem o246 : De cB25 2 3 5 (.invokestatic 343) := by decide +kernel
theorem o247 : De cB25 5 1 6 (.iload_n 2) := by decide +kernel
theorem o248 : De cB25 6 1 7 (.iload_n 1) := by decide +kernel
theorem o249 : De cB25 7 1 8 .isub := by decide +kernel
theorem o250 : De cB25 8 1 9 (.istore_n 3) := by decide +kernel
theorem o251 : De cB25 9 1 10 (.iload_n 3) := by decide +kernel
theorem o252 : De cB25 10 2 12 (.newarray .byte) := by decide +kernel
theorem o253 : De cB25 12 2 14 (.astore 4) := by decide +kernel
theorem o254 : De cB25 14 1 15 (.aload_n 0) := by decide +kernel
theorem o255 : De cB25 15 1 16 (.iload_n 1) := by decide +kernel
theorem o256 : De cB25 16 2 18 (.aload 4) := by decide +kernel
theorem o257 : De cB25 18 1 19 (.iconst 0) := by decide +kernel
theorem o258 : De cB25 19 1 20 (.aload_n 0) := by decide +kernel
theorem o259 : De cB25 20 1 21 .arraylength := by decide +kernel
theorem o260 : De cB25 21 1 22 (.iload_n 1) := by decide +kernel
theorem o261 : De cB25 22 1 23 .isub := by decide +kernel
theorem o262 : De cB25 23 1 24 (.iload_n 3) := by decide +kernel
theorem o263 : De cB25 24 3 27 (.invokestatic 304) := by decide +kernel
theorem o264 : De cB25 27 3 30 (.invokestatic 150) := by decide +kernel
theorem o265 : De cB25 30 2 32 (.aload 4) := by decide +kernel
theorem o266 : De cB25 32 1 33 .areturn := by decide +kernel
theorem o237 : De cB23 0 1 1 (.aload_n 0) := by decide +kernel
theorem o238 : De cB23 1 2 3 (.bipush 16) := by decide +kernel
theorem o239 : De cB23 3 3 6 (.invokespecial 1) := by decide +kernel
theorem o240 : De cB23 6 1 7 .return_ := by decide +kernel
theorem o304 : De cB29 0 3 3 (.new 18) := by decide +kernel
theorem o305 : De cB29 3 1 4 .dup := by decide +kernel
theorem o306 : De cB29 4 1 5 (.aload_n 0) := by decide +kernel
theorem o307 : De cB29 5 3 8 (.invokespecial 137) := by decide +kernel
theorem o308 : De cB29 8 1 9 .areturn := by decide +kernel
theorem o130 : De cB13 0 1 1 (.aload_n 0) := by decide +kernel
theorem o131 : De cB13 1 1 2 (.aload_n 1) := by decide +kernel
theorem o132 : De cB13 2 3 5 (.invokespecial 29) := by decide +kernel
theorem o133 : De cB13 5 1 6 .pop := by decide +kernel
theorem o134 : De cB13 6 1 7 (.aload_n 0) := by decide +kernel
theorem o135 : De cB13 7 1 8 .areturn := by decide +kernel
theorem o149 : De cB17 0 1 1 (.aload_n 0) := by decide +kernel
theorem o150 : De cB17 1 3 4 (.invokespecial 343) := by decide +kernel
theorem o151 : De cB17 4 1 5 .ireturn := by decide +kernel
theorem o178 : De cB21 0 1 1 (.aload_n 0) := by decide +kernel
theorem o179 : De cB21 1 3 4 (.getfield 15) := by decide +kernel
theorem o180 : De cB21 4 1 5 .arraylength := by decide +kernel
theorem o181 : De cB21 5 1 6 (.istore_n 2) := by decide +kernel
theorem o182 : De cB21 6 1 7 (.iload_n 1) := by decide +kernel
theorem o183 : De cB21 7 1 8 (.aload_n 0) := by decide +kernel
theorem o184 : De cB21 8 3 11 (.getfield 22) := by decide +kernel
theorem o185 : De cB21 11 1 12 .ishl := by decide +kernel
theorem o186 : De cB21 12 1 13 (.istore_n 3) := by decide +kernel
theorem o187 : De cB21 13 1 14 (.iload_n 3) := by decide +kernel
theorem o188 : De cB21 14 1 15 (.iload_n 2) := by decide +kernel
theorem o189 : De cB21 15 1 16 .isub := by decide +kernel
theorem o190 : De cB21 16 2 18 (.istore 4) := by decide +kernel
theorem o191 : De cB21 18 1 19 (.iload_n 2) := by decide +kernel
theorem o192 : De cB21 19 2 21 (.iload 4) := by decide +kernel
theorem o193 : De cB21 21 1 22 (.iload_n 2) := by decide +kernel
theorem o194 : De cB21 22 1 23 (.iconst 2) := by decide +kernel
theorem o195 : De cB21 23 1 24 (.aload_n 0) := by decide +kernel
theorem o196 : De cB21 24 3 27 (.getfield 22) := by decide +kernel
theorem o197 : De cB21 27 1 28 .ishl := by decide +kernel
theorem o198 : De cB21 28 1 29 .iadd := by decide +kernel
theorem o199 : De cB21 29 3 32 (.invokestatic 114) := by decide +kernel
theorem o200 : De cB21 32 2 34 (.istore 5) := by decide +kernel
theorem o201 : De cB21 34 2 36 (.iload 5) := by decide +kernel
theorem o202 : De cB21 36 2 38 (.ldc 39) := by decide +kernel
theorem o203 : De cB21 51 2 53 (.iload 5) := by decide +kernel
theorem o204 : De cB21 53 1 54 (.aload_n 0) := by decide +kernel
theorem o205 : De cB21 54 3 57 (.getfield 22) := by decide +kernel
theorem o206 : De cB21 57 1 58 .ishr := by decide +kernel
theorem o207 : De cB21 58 1 59 .ireturn := by decide +kernel
theorem o107 : De cB12 0 1 1 (.aload_n 1) := by decide +kernel
theorem o108 : De cB12 9 1 10 (.aload_n 1) := by decide +kernel
theorem o109 : De cB12 10 3 13 (.invokevirtual 32) := by decide +kernel
theorem o110 : De cB12 13 1 14 (.istore_n 2) := by decide +kernel
theorem o111 : De cB12 14 1 15 (.aload_n 0) := by decide +kernel
theorem o112 : De cB12 15 1 16 (.aload_n 0) := by decide +kernel
theorem o113 : De cB12 16 3 19 (.getfield 79) := by decide +kernel
theorem o114 : De cB12 19 1 20 (.iload_n 2) := by decide +kernel
theorem o115 : De cB12 20 1 21 .iadd := by decide +kernel
theorem o116 : De cB12 21 3 24 (.invokevirtual 100) := by decide +kernel
theorem o117 : De cB12 24 1 25 (.aload_n 0) := by decide +kernel
theorem o118 : De cB12 25 1 26 (.aload_n 0) := by decide +kernel
theorem o119 : De cB12 26 3 29 (.getfield 79) := by decide +kernel
theorem o120 : De cB12 29 1 30 (.aload_n 1) := by decide +kernel
theorem o121 : De cB12 30 3 33 (.invokevirtual 208) := by decide +kernel
theorem o122 : De cB12 33 1 34 (.aload_n 0) := by decide +kernel
theorem o123 : De cB12 34 1 35 .dup := by decide +kernel
theorem o124 : De cB12 35 3 38 (.getfield 79) := by decide +kernel
theorem o125 : De cB12 38 1 39 (.iload_n 2) := by decide +kernel
theorem o126 : De cB12 39 1 40 .iadd := by decide +kernel
theorem o127 : De cB12 40 3 43 (.putfield 79) := by decide +kernel
theorem o128 : De cB12 43 1 44 (.aload_n 0) := by decide +kernel
theorem o129 : De cB12 44 1 45 .areturn := by decide +kernel
theorem o50 : De cB7 0 1 1 (.aload_n 0) := by decide +kernel
theorem o51 : De cB7 1 3 4 (.invokespecial 3) := by decide +kernel
theorem o52 : De cB7 4 3 7 (.getstatic 18) := by decide +kernel
theorem o53 : De cB7 7 3 10 (.ifCond .eq 18) := by decide +kernel
theorem o54 : De cB7 10 1 11 (.aload_n 0) := by decide +kernel
theorem o55 : De cB7 11 1 12 (.iload_n 1) := by decide +kernel
theorem o56 : De cB7 12 2 14 (.newarray .byte) := by decide +kernel
theorem o57 : De cB7 14 3 17 (.putfield 15) := by decide +kernel
theorem o58 : De cB7 17 1 18 (.aload_n 0) := by decide +kernel
theorem o59 : De cB7 18 1 19 (.iconst 0) := by decide +kernel
theorem o60 : De cB7 19 3 22 (.putfield 22) := by decide +kernel
theorem o61 : De cB7 38 1 39 .return_ := by decide +kernel
theorem o143 : De cB15 0 1 1 (.aload_n 0) := by decide +kernel
theorem o144 : De cB15 1 3 4 (.getfield 15) := by decide +kernel
theorem o145 : De cB15 4 1 5 .areturn := by decide +kernel
theorem o136 : De cB14 0 3 3 (.getstatic 18) := by decide +kernel
theorem o137 : De cB14 3 3 6 (.ifCond .eq 14) := by decide +kernel
theorem o138 : De cB14 6 1 7 (.aload_n 0) := by decide +kernel
theorem o139 : De cB14 7 3 10 (.getfield 22) := by decide +kernel
theorem o140 : De cB14 10 3 13 (.ifCond .ne 7) := by decide +kernel
theorem o141 : De cB14 13 1 14 (.iconst 1) := by decide +kernel
theorem o142 : De cB14 18 1 19 .ireturn := by decide +kernel
theorem o146 : De cB16 0 1 1 (.aload_n 0) := by decide +kernel
theorem o147 : De cB16 1 3 4 (.getfield 79) := by decide +kernel
theorem o148 : De cB16 4 1 5 .ireturn := by decide +kernel
theorem o73 : De cB9 0 3 3 (.getstatic 18) := by decide +kernel
theorem o74 : De cB9 3 3 6 (.ifCond .eq 18) := by decide +kernel
theorem o75 : De cB9 6 1 7 (.aload_n 0) := by decide +kernel
theorem o76 : De cB9 7 3 10 (.getfield 22) := by decide +kernel
theorem o77 : De cB9 10 1 11 (.aload_n 1) := by decide +kernel
theorem o78 : De cB9 11 3 14 (.invokevirtual 40) := by decide +kernel
theorem o79 : De cB9 21 1 22 .return_ := by decide +kernel
theorem o96 : De cB11 0 1 1 (.aload_n 0) := by decide +kernel
theorem o97 : De cB11 1 1 2 (.aload_n 2) := by decide +kernel
theorem o98 : De cB11 2 3 5 (.invokevirtual 397) := by decide +kernel
theorem o99 : De cB11 5 1 6 (.aload_n 2) := by decide +kernel
theorem o100 : De cB11 6 1 7 (.aload_n 0) := by decide +kernel
theorem o101 : De cB11 7 3 10 (.getfield 15) := by decide +kernel
theorem o102 : De cB11 10 1 11 (.iload_n 1) := by decide +kernel
theorem o103 : De cB11 11 1 12 (.aload_n 0) := by decide +kernel
theorem o104 : De cB11 12 3 15 (.getfield 22) := by decide +kernel
theorem o105 : De cB11 15 3 18 (.invokevirtual 399) := by decide +kernel
theorem o106 : De cB11 18 1 19 .return_ := by decide +kernel
theorem o62 : De cB8 0 1 1 (.aload_n 0) := by decide +kernel
theorem o63 : De cB8 1 3 4 (.getfield 15) := by decide +kernel
theorem o64 : De cB8 4 1 5 .arraylength := by decide +kernel
theorem o65 : De cB8 5 1 6 (.aload_n 0) := by decide +kernel
theorem o66 : De cB8 6 3 9 (.getfield 22) := by decide +kernel
theorem o67 : De cB8 9 1 10 .ishr := by decide +kernel
theorem o68 : De cB8 10 1 11 (.istore_n 2) := by decide +kernel
theorem o69 : De cB8 11 1 12 (.iload_n 1) := by decide +kernel
theorem o70 : De cB8 12 1 13 (.iload_n 2) := by decide +kernel
theorem o71 : De cB8 13 1 14 .isub := by decide +kernel
theorem o225 : De cB8 14 3 17 (.ifCond .le 24) := by decide +kernel
theorem o226 : De cB8 17 1 18 (.aload_n 0) := by decide +kernel
theorem o227 : De cB8 18 1 19 (.aload_n 0) := by decide +kernel
theorem o228 : De cB8 19 3 22 (.getfield 15) := by decide +kernel
theorem o229 : De cB8 22 1 23 (.aload_n 0) := by decide +kernel
theorem o230 : De cB8 23 1 24 (.iload_n 1) := by decide +kernel
theorem o231 : De cB8 24 3 27 (.invokevirtual 104) := by decide +kernel
theorem o232 : De cB8 27 1 28 (.aload_n 0) := by decide +kernel
theorem o233 : De cB8 28 3 31 (.getfield 22) := by decide +kernel
theorem o234 : De cB8 31 1 32 .ishl := by decide +kernel
theorem o235 : De cB8 32 3 35 (.invokestatic 108) := by decide +kernel
theorem o236 : De cB8 35 3 38 (.putfield 15) := by decide +kernel
theorem o72 : De cB8 38 1 39 .return_ := by decide +kernel
theorem o312 : De cB31 0 1 1 (.aload_n 0) := by decide +kernel
theorem o313 : De cB31 1 3 4 (.invokespecial 1) := by decide +kernel
theorem o314 : De cB31 4 1 5 (.aload_n 0) := by decide +kernel
theorem o315 : De cB31 5 1 6 (.aload_n 0) := by decide +kernel
theorem o316 : De cB31 6 3 9 (.putfield 7) := by decide +kernel
theorem o317 : De cB31 9 1 10 (.aload_n 0) := by decide +kernel
theorem o318 : De cB31 10 3 13 (.getstatic 13) := by decide +kernel
theorem o319 : De cB31 13 3 16 (.putfield 17) := by decide +kernel
theorem o320 : De cB31 16 1 17 (.aload_n 0) := by decide +kernel
theorem o321 : De cB31 17 3 20 (.getstatic 20) := by decide +kernel
theorem o322 : De cB31 20 3 23 (.putfield 24) := by decide +kernel
theorem o323 : De cB31 23 1 24 (.aload_n 0) := by decide +kernel
theorem o324 : De cB31 24 3 27 (.invokevirtual 27) := by decide +kernel
theorem o325 : De cB31 27 1 28 .pop := by decide +kernel
theorem o326 : De cB31 28 1 29 (.aload_n 0) := by decide +kernel
theorem o327 : De cB31 29 1 30 (.aload_n 1) := by decide +kernel
theorem o328 : De cB31 30 3 33 (.putfield 31) := by decide +kernel
theorem o329 : De cB31 33 1 34 .return_ := by decide +kernel
theorem o309 : De cB30 0 1 1 (.aload_n 0) := by decide +kernel
theorem o310 : De cB30 1 3 4 (.getfield 31) := by decide +kernel
theorem o311 : De cB30 4 1 5 .areturn := by decide +kernel
theorem o373 : De cB37 0 1 1 (.iload_n 0) := by decide +kernel
theorem o374 : De cB37 1 3 4 (.ifCond .ne 14) := by decide +kernel
theorem o375 : De cB37 4 3 7 (.new 7) := by decide +kernel
theorem o376 : De cB37 7 1 8 .dup := by decide +kernel
theorem o377 : De cB37 8 1 9 (.iconst 0) := by decide +kernel
theorem o378 : De cB37 9 2 11 (.newarray .char) := by decide +kernel
theorem o379 : De cB37 11 3 14 (.invokespecial 9) := by decide +kernel
theorem o380 : De cB37 14 1 15 .areturn := by decide +kernel
theorem o381 : De cB37 15 1 16 (.iload_n 0) := by decide +kernel
theorem o382 : De cB37 16 1 17 (.iconst 1) := by decide +kernel
theorem o383 : De cB37 17 3 20 (.if_icmp .ne 18) := by decide +kernel
theorem o384 : De cB37 20 3 23 (.new 7) := by decide +kernel
theorem o385 : De cB37 23 1 24 .dup := by decide +kernel
theorem o386 : De cB37 24 1 25 (.iconst 1) := by decide +kernel
theorem o387 : De cB37 25 2 27 (.newarray .char) := by decide +kernel
theorem o388 : De cB37 27 1 28 .dup := by decide +kernel
theorem o389 : De cB37 28 1 29 (.iconst 0) := by decide +kernel
theorem o390 : De cB37 29 1 30 (.iload_n 1) := by decide +kernel
theorem o391 : De cB37 30 1 31 .castore := by decide +kernel
theorem o392 : De cB37 31 3 34 (.invokespecial 9) := by decide +kernel
theorem o393 : De cB37 34 1 35 .areturn := by decide +kernel
theorem o394 : De cB37 35 1 36 (.iload_n 0) := by decide +kernel
theorem o395 : De cB37 36 1 37 (.iconst 2) := by decide +kernel
theorem o396 : De cB37 37 3 40 (.if_icmp .ne 22) := by decide +kernel
theorem o397 : De cB37 40 3 43 (.new 7) := by decide +kernel
theorem o398 : De cB37 43 1 44 .dup := by decide +kernel
theorem o399 : De cB37 44 1 45 (.iconst 2) := by decide +kernel
theorem o400 : De cB37 45 2 47 (.newarray .char) := by decide +kernel
theorem o401 : De cB37 47 1 48 .dup := by decide +kernel
theorem o402 : De cB37 48 1 49 (.iconst 0) := by decide +kernel
theorem o403 : De cB37 49 1 50 (.iload_n 1) := by decide +kernel
theorem o404 : De cB37 50 1 51 .castore := by decide +kernel
theorem o405 : De cB37 51 1 52 .dup := by decide +kernel
theorem o406 : De cB37 52 1 53 (.iconst 1) := by decide +kernel
theorem o407 : De cB37 53 1 54 (.iload_n 2) := by decide +kernel
theorem o408 : De cB37 54 1 55 .castore := by decide +kernel
theorem o409 : De cB37 55 3 58 (.invokespecial 9) := by decide +kernel
theorem o410 : De cB37 58 1 59 .areturn := by decide +kernel
theorem o411 : De cB37 59 3 62 (.new 7) := by decide +kernel
theorem o412 : De cB37 62 1 63 .dup := by decide +kernel
theorem o413 : De cB37 63 1 64 (.iconst 3) := by decide +kernel
theorem o414 : De cB37 64 2 66 (.newarray .char) := by decide +kernel
theorem o415 : De cB37 66 1 67 .dup := by decide +kernel
theorem o416 : De cB37 67 1 68 (.iconst 0) := by decide +kernel
theorem o417 : De cB37 68 1 69 (.iload_n 1) := by decide +kernel
theorem o418 : De cB37 69 1 70 .castore := by decide +kernel
theorem o419 : De cB37 70 1 71 .dup := by decide +kernel
theorem o420 : De cB37 71 1 72 (.iconst 1) := by decide +kernel
theorem o421 : De cB37 72 1 73 (.iload_n 2) := by decide +kernel
theorem o422 : De cB37 73 1 74 .castore := by decide +kernel
theorem o423 : De cB37 74 1 75 .dup := by decide +kernel
theorem o424 : De cB37 75 1 76 (.iconst 2) := by decide +kernel
theorem o425 : De cB37 76 1 77 (.iload_n 3) := by decide +kernel
theorem o426 : De cB37 77 1 78 .castore := by decide +kernel
theorem o427 : De cB37 78 3 81 (.invokespecial 9) := by decide +kernel
theorem o428 : De cB37 81 1 82 .areturn := by decide +kernel
theorem o334 : De cB33 0 1 1 (.aload_n 0) := by decide +kernel
theorem o335 : De cB33 1 1 2 (.aload_n 1) := by decide +kernel
theorem o336 : De cB33 2 3 5 (.invokespecial 1) := by decide +kernel
theorem o337 : De cB33 5 1 6 .return_ := by decide +kernel
theorem o338 : De cB34 0 3 3 (.new 10) := by decide +kernel
theorem o339 : De cB34 3 1 4 .dup := by decide +kernel
theorem o340 : De cB34 4 3 7 (.new 47) := by decide +kernel
theorem o341 : De cB34 7 1 8 .dup := by decide +kernel
theorem o342 : De cB34 8 3 11 (.invokespecial 49) := by decide +kernel
theorem o343 : De cB34 11 2 13 (.ldc 52) := by decide +kernel
theorem o344 : De cB34 13 3 16 (.invokevirtual 54) := by decide +kernel
theorem o345 : De cB34 16 1 17 (.aload_n 0) := by decide +kernel
theorem o346 : De cB34 17 3 20 (.invokevirtual 54) := by decide +kernel
theorem o347 : De cB34 20 2 22 (.ldc 58) := by decide +kernel
theorem o348 : De cB34 22 3 25 (.invokevirtual 54) := by decide +kernel
theorem o349 : De cB34 25 3 28 (.invokevirtual 60) := by decide +kernel
theorem o350 : De cB34 28 3 31 (.invokespecial 64) := by decide +kernel
theorem o351 : De cB34 31 1 32 .areturn := by decide +kernel
theorem j20 : Dj code 85 90 (.ifnonnull 5) 5 := ⟨at_85, by decide, by decide⟩
theorem j21 : Dj code 97 102 (.ifCond .ne 5) 5 := ⟨at_97, by decide, by decide⟩
theorem j22 : Dj code 107 112 (.ifnull 5) 5 := ⟨at_107, by decide, by decide⟩
theorem j23 : Dj code 121 126 (.if_icmp .eq 5) 5 := ⟨at_121, by decide, by decide⟩
theorem j24 : Dj code 149 154 (.if_icmp .eq 5) 5 := ⟨at_149, by decide, by decide⟩
theorem j25 : Dj code 155 172 (.ifCond .le 17) 17 := ⟨at_155, by decide, by decide⟩
theorem j29 : Dj code 167 172 (.if_icmp .eq 5) 5 := ⟨at_167, by decide, by decide⟩
theorem j26 : Dj code 174 191 (.if_icmp .le 17) 17 := ⟨at_174, by decide, by decide⟩
theorem j30 : Dj code 186 191 (.if_icmp .eq 5) 5 := ⟨at_186, by decide, by decide⟩
theorem j27 : Dj code 193 210 (.if_icmp .le 17) 17 := ⟨at_193, by decide, by decide⟩
theorem j31 : Dj code 205 210 (.if_icmp .eq 5) 5 := ⟨at_205, by decide, by decide⟩
theorem j28 : Dj code 225 229 (.goto 4) 4 := ⟨at_225, by decide, by decide⟩
theorem j9 : Dj cB18 2 9 (.if_icmp .lt 7) 7 := by decide +kernel
theorem j10 : Dj cB18 6 10 (.goto 4) 4 := by decide +kernel
theorem j11 : Dj cB19 2 9 (.if_icmp .gt 7) 7 := by decide +kernel
theorem j12 : Dj cB19 6 10 (.goto 4) 4 := by decide +kernel
theorem j1 : Dj cB2 6 16 (.if_icmp .lt 10) 10 := by decide +kernel
theorem j6 : Dj cB10 25 43 (.goto 18) 18 := by decide +kernel
theorem j16 : Dj cB27 38 97 (.goto 59) 59 := by decide +kernel
theorem j0 : Dj cB0 10 14 (.goto 4) 4 := by decide +kernel
theorem j2 : Dj cB5 14 18 (.goto 4) 4 := by decide +kernel
theorem j14 : Dj cB22 3 14 (.if_icmp .ne 11) 11 := by decide +kernel
theorem j15 : Dj cB24 2 37 (.if_icmp .ge 35) 35 := by decide +kernel
theorem j13 : Dj cB21 38 51 (.if_icmp .ne 13) 13 := by decide +kernel
theorem j7 : Dj cB12 1 9 (.ifnonnull 8) 8 := by decide +kernel
theorem j3 : Dj cB7 22 38 (.goto 16) 16 := by decide +kernel
theorem j8 : Dj cB14 14 18 (.goto 4) 4 := by decide +kernel
theorem j5 : Dj cB9 14 21 (.if_icmp .eq 7) 7 := by decide +kernel
theorem j4 : Dj cB8 14 38 (.ifCond .le 24) 24 := by decide +kernel
theorem j17 : Dj cB37 1 15 (.ifCond .ne 14) 14 := by decide +kernel
theorem j18 : Dj cB37 17 35 (.if_icmp .ne 18) 18 := by decide +kernel
theorem j19 : Dj cB37 37 59 (.if_icmp .ne 22) 22 := by decide +kernel
theorem opd_0 : parseMethodDescriptor "()B" = some ⟨[], some .byte⟩ := by decide +kernel
theorem opd_1 : parseMethodDescriptor "(IILjava/util/function/BiFunction;)I" = some ⟨[.int, .int, (.object "java/util/function/BiFunction")], some .int⟩ := by decide +kernel
theorem opd_2 : parseMethodDescriptor "(II)V" = some ⟨[.int, .int], none⟩ := by decide +kernel
theorem opd_3 : parseMethodDescriptor "()Z" = some ⟨[], some .boolean⟩ := by decide +kernel
theorem opd_4 : parseMethodDescriptor "([BI)C" = some ⟨[(.array .byte), .int], some .char⟩ := by decide +kernel
theorem opd_5 : parseMethodDescriptor "(Ljava/lang/String;)V" = some ⟨[(.object "java/lang/String")], none⟩ := by decide +kernel
theorem opd_6 : parseMethodDescriptor "([BIB)V" = some ⟨[(.array .byte), .int, .byte], none⟩ := by decide +kernel
theorem opd_7 : parseMethodDescriptor "()I" = some ⟨[], some .int⟩ := by decide +kernel
theorem opd_8 : parseMethodDescriptor "(I)V" = some ⟨[.int], none⟩ := by decide +kernel
theorem opd_9 : parseMethodDescriptor "(ILjava/lang/String;)V" = some ⟨[.int, (.object "java/lang/String")], none⟩ := by decide +kernel
theorem opd_10 : parseMethodDescriptor "(Ljava/lang/String;)Ljava/lang/AbstractStringBuilder;" = some ⟨[(.object "java/lang/String")], some (.object "java/lang/AbstractStringBuilder")⟩ := by decide +kernel
theorem opd_11 : parseMethodDescriptor "(II)I" = some ⟨[.int, .int], some .int⟩ := by decide +kernel
theorem opd_12 : parseMethodDescriptor "(III)I" = some ⟨[.int, .int, .int], some .int⟩ := by decide +kernel
theorem opd_13 : parseMethodDescriptor "(I)I" = some ⟨[.int], some .int⟩ := by decide +kernel
theorem opd_14 : parseMethodDescriptor "([BI)[B" = some ⟨[(.array .byte), .int], some (.array .byte)⟩ := by decide +kernel
theorem opd_15 : parseMethodDescriptor "([BII)[B" = some ⟨[(.array .byte), .int, .int], some (.array .byte)⟩ := by decide +kernel
theorem opd_16 : parseMethodDescriptor "()[B" = some ⟨[], some (.array .byte)⟩ := by decide +kernel
theorem opd_17 : parseMethodDescriptor "(Ljava/lang/AbstractStringBuilder;Ljava/lang/Void;)V" = some ⟨[(.object "java/lang/AbstractStringBuilder"), (.object "java/lang/Void")], none⟩ := by decide +kernel
theorem opd_18 : parseMethodDescriptor "(Ljava/lang/StringBuilder;)V" = some ⟨[(.object "java/lang/StringBuilder")], none⟩ := by decide +kernel
theorem opd_19 : parseMethodDescriptor "()V" = some ⟨[], none⟩ := by decide +kernel
theorem opd_20 : parseMethodDescriptor "(Ljava/lang/String;)Ljava/lang/StringBuilder;" = some ⟨[(.object "java/lang/String")], some (.object "java/lang/StringBuilder")⟩ := by decide +kernel
theorem opd_21 : parseMethodDescriptor "()Ljava/lang/String;" = some ⟨[], some (.object "java/lang/String")⟩ := by decide +kernel
theorem opd_22 : parseMethodDescriptor "([CIILjava/lang/Void;)V" = some ⟨[(.array .char), .int, .int, (.object "java/lang/Void")], none⟩ := by decide +kernel
theorem opd_23 : parseMethodDescriptor "([C)V" = some ⟨[(.array .char)], none⟩ := by decide +kernel
theorem opd_24 : parseMethodDescriptor "(Ljava/lang/String;)Lcom/example/ops5/ops5/RefusedException;" = some ⟨[(.object "java/lang/String")], some (.object "com/example/ops5/ops5/RefusedException")⟩ := by decide +kernel
theorem opd_25 : parseMethodDescriptor "(Ljava/lang/Object;)Z" = some ⟨[(.object "java/lang/Object")], some .boolean⟩ := by decide +kernel
theorem opd_26 : parseMethodDescriptor "()Ljava/lang/Throwable;" = some ⟨[], some (.object "java/lang/Throwable")⟩ := by decide +kernel
theorem opd_27 : parseMethodDescriptor "(I)C" = some ⟨[.int], some .char⟩ := by decide +kernel
theorem opd_28 : parseMethodDescriptor "(ICCC)Ljava/lang/String;" = some ⟨[.int, .char, .char, .char], some (.object "java/lang/String")⟩ := by decide +kernel
theorem opn_0 : plainName "java/lang/String" = true := by first | (simp [plainName, overriddenIn]; done) | decide +kernel
theorem opn_1 : plainName "jdk/internal/util/Preconditions" = true := by first | (simp [plainName, overriddenIn]; done) | decide +kernel
theorem opn_2 : plainName "java/lang/StringLatin1" = true := by first | (simp [plainName, overriddenIn]; done) | decide +kernel
theorem opn_3 : plainName "java/lang/AbstractStringBuilder" = true := by first | (simp [plainName, overriddenIn]; done) | decide +kernel
theorem opn_4 : plainName "java/lang/StringBuilder" = true := by first | (simp [plainName, overriddenIn]; done) | decide +kernel
theorem opn_5 : plainName "jdk/internal/util/ArraysSupport" = true := by first | (simp [plainName, overriddenIn]; done) | decide +kernel
theorem opn_6 : plainName "java/util/Arrays" = true := by first | (simp [plainName, overriddenIn]; done) | decide +kernel
theorem opn_7 : plainName "java/lang/Throwable" = true := by first | (simp [plainName, overriddenIn]; done) | decide +kernel
theorem opn_8 : plainName "java/lang/Exception" = true := by first | (simp [plainName, overriddenIn]; done) | decide +kernel
theorem opn_9 : plainName "com/example/ops5/ops5/RefusedException" = true := by first | (simp [plainName, overriddenIn]; done) | decide +kernel
theorem opn_10 : plainName "com/example/ops5/ops5/RefusedExceptionNameTakenPinLaw" = true := by first | (simp [plainName, overriddenIn]; done) | decide +kernel
theorem oef_thini (m : MethodId) (x0 : Addr) (x1 : Addr) : entryFrame m #[(.ref x0), (.ref x1)] 2 = mkF m 0 #[.val (.ref x0), .val (.ref x1)] [] := by first | (simp [entryFrame, mkF, argsToLocals, Value.category, maxLocals]; done) | rfl
theorem oef_exini (m : MethodId) (x0 : Addr) (x1 : Addr) : entryFrame m #[(.ref x0), (.ref x1)] 2 = mkF m 0 #[.val (.ref x0), .val (.ref x1)] [] := by first | (simp [entryFrame, mkF, argsToLocals, Value.category, maxLocals]; done) | rfl
theorem oef_reini (m : MethodId) (x0 : Addr) (x1 : Addr) : entryFrame m #[(.ref x0), (.ref x1)] 2 = mkF m 0 #[.val (.ref x0), .val (.ref x1)] [] := by first | (simp [entryFrame, mkF, argsToLocals, Value.category, maxLocals]; done) | rfl
theorem oef_nt0 (m : MethodId) (x0 : Addr) : entryFrame m #[(.ref x0)] 1 = mkF m 0 #[.val (.ref x0)] [] := by first | (simp [entryFrame, mkF, argsToLocals, Value.category, maxLocals]; done) | rfl
theorem oef_nt1 (m : MethodId) (x0 : Addr) : entryFrame m #[(.ref x0)] 1 = mkF m 0 #[.val (.ref x0)] [] := by first | (simp [entryFrame, mkF, argsToLocals, Value.category, maxLocals]; done) | rfl
theorem oef_iv0 (m : MethodId) (x0 : Addr) (x1 : Addr) (x2 : Int32) (x3 : Int32) : entryFrame m #[(.ref x0), (.ref x1), (.int x2), (.int x3), .null] 6 = mkF m 0 #[.val (.ref x0), .val (.ref x1), .val (.int x2), .val (.int x3), .val .null, .unset] [] := by first | (simp [entryFrame, mkF, argsToLocals, Value.category, maxLocals]; done) | rfl
theorem oef_ic0 (m : MethodId) (x0 : Addr) (x1 : Addr) : entryFrame m #[(.ref x0), (.ref x1)] 2 = mkF m 0 #[.val (.ref x0), .val (.ref x1)] [] := by first | (simp [entryFrame, mkF, argsToLocals, Value.category, maxLocals]; done) | rfl
theorem oef_mk0 (m : MethodId) (x0 : Int32) (x1 : Int32) (x2 : Int32) (x3 : Int32) : entryFrame m #[(.int x0), (.int x1), (.int x2), (.int x3)] 4 = mkF m 0 #[.val (.int x0), .val (.int x1), .val (.int x2), .val (.int x3)] [] := by first | (simp [entryFrame, mkF, argsToLocals, Value.category, maxLocals]; done) | rfl
theorem oef_law (m : MethodId) (x0 : Int32) (x1 : Int32) (x2 : Int32) : entryFrame m #[(.int x0), (.int x1), (.int x2)] maxLocals = mkF m 0 #[.val (.int x0), .val (.int x1), .val (.int x2), .unset, .unset, .unset, .unset, .unset, .unset, .unset, .unset, .unset] [] := by first | (simp [entryFrame, mkF, argsToLocals, Value.category, maxLocals]; done) | rfl
theorem hw_eq {a0 : Array Value} {Z : State} (hw : HW a0 Z) : ∀ d ∈ StrChars.Road.wordsEq, d.before a0 Z = true := fun d hd => hw d ((by decide +kernel : ∀ d ∈ StrChars.Road.wordsEq, d ∈ tables_1) d hd)
abbrev EL : List (String × Nat) := consts_1
theorem hEW {a0 : Array Value} {Z : State} (hw : HW a0 Z) : EW Z a0 EL := (EW.cons (ow50 hw) (by decide) (EW.cons (ow122 hw) (by decide) (EW.cons (ow219 hw) (by decide) (EW.cons (ow18 hw) (by decide) EW.nil))))
theorem ostr {a0 : Array Value} {Z : State} (hw : HW a0 Z) : ∀ a ∈ Bundle.stringAtoms, a.before a0 Z = true := fun a ha => hw a ((by decide +kernel : ∀ a ∈ Bundle.stringAtoms, a ∈ tables_1) a ha)
set_option maxRecDepth 65536
set_option maxHeartbeats 40000000
theorem otw {a0 : Array Value} {Z : State} (hw : HW a0 Z) : ∀ d ∈ TW, d.before a0 Z = true := fun d hd => hw d ((by decide +kernel : ∀ d ∈ TW, d ∈ tables_1) d hd)
def Q_scoder (Z : State)  (h0 : Heap) (n0 : Nat) : QT := fun rv hE LE => rv = some (.int 0) ∧ Fr n0 LE ∧ hE = h0
theorem rm_scoder (l : Launch) (Z : State) (a0 : Array Value) (hw : HW a0 Z) (ws : List Jvm.Cond) (x : Addr) (G1 : Int32) (h0 : Heap) (n0 : Nat) (Z0 : n0 ≤ h0.size) (S0 : Exa Z h0 x ss0) (S1 : Fld Z h0 x ss0 ss3 "B" (.int 0)) (O2 : Sta Z Z.heap ss0 ss8 "Z" (.int G1)) (P5 : ¬ (G1 = (0 : Int32))) (X00 : Old Z n0 h0) :
    MF l Z mn0 (Jvm.Cond.code mn0 cB0 1 (Option.some Jvm.ClassFile.FieldType.byte)) ws Ro0 #[(.ref x)] h0 (Q_scoder Z  h0 n0) := by
  refine MF.of ss0 rfl #[rv x] (plainFor_of_name opn_0) (fun _ => rfl) ?_
  intro p e s m below meth c _ hZ hh B hml hret hlk hown hnm Y e0
  have N0 := Fr.nil n0
  refine zgs Y B hZ hown (ow71 hw) e0 (O2.ext X00.2) o0 fun _ Y e101 => ?_
  refine zN Y B o1 ((if0 _ _).trans (feq P5).1) ?_
  refine zalN Y B o2 rfl ?_
  refine zgf Y B hZ hown (ow25 hw) Via.refl e101 S1 o3 fun _ Y e102 => ?_
  refine zgo Y B j0 ?_
  exact zrN Y B (t := .byte) hret (by simp) hlk o4 e102 ⟨rfl, N0, rfl⟩ rfl rfl
def Q_slen (Z : State) (ds : List Int32) (h0 : Heap) (n0 : Nat) : QT := fun rv hE LE => rv = some (.int (Int32.ofNat ds.length)) ∧ Fr n0 LE ∧ hE = h0
theorem rm_slen (l : Launch) (Z : State) (a0 : Array Value) (hw : HW a0 Z) (ws : List Jvm.Cond) (x t : Addr) (kt : ClassId) (ds : List Int32) (G1 : Int32) (h0 : Heap) (n0 : Nat) (Z0 : n0 ≤ h0.size) (S0 : Exa Z h0 x ss0) (S1 : Fld Z h0 x ss0 ss3 "B" (.int 0)) (S2 : Fld Z h0 x ss0 ss4 "[B" (.ref t)) (S3 : Arv Z h0 t kt .byte (Int32.ofNat ds.length) (B8 ds) (.int 0)) (O2 : Sta Z Z.heap ss0 ss8 "Z" (.int G1)) (P5 : ¬ (G1 = (0 : Int32))) (X00 : Old Z n0 h0) :
    MF l Z mn1 (Jvm.Cond.code mn1 cB1 1 (Option.some Jvm.ClassFile.FieldType.int)) ws Ro1 #[(.ref x)] h0 (Q_slen Z ds h0 n0) := by
  refine MF.of ss0 rfl #[rv x] (plainFor_of_name opn_0) (fun _ => rfl) ?_
  intro p e s m below meth c _ hZ hh B hml hret hlk hown hnm Y e0
  have N0 := Fr.nil n0
  refine zalN Y B o5 rfl ?_
  refine zgf Y B hZ hown (ow24 hw) Via.refl e0 S2 o6 fun _ Y e101 => ?_
  refine zln Y B hZ e101 S3 o7 ?_
  refine zalN Y B o8 rfl ?_
  refine zcv Y B hZ hown (ow66 hw) (ow67 hw) (notFace_of_selects (args := #[]) (mvT hZ (ow69 hw))) (ow69 hw) (ow68 hw) (ow6 hw) (ow70 hw) (by decide) S0 (rm_scoder l Z a0 hw [] x G1 h0 n0 (Nat.le_trans Z0 (Nat.le_refl _)) S0 S1 O2 P5 X00) e101 hml opd_0 rfl o9 rfl rfl rfl rfl rfl fun _ T103 _ Y hQ => ?_
  obtain ⟨rfl, N103q, e103⟩ := hQ
  have N103 := Fr.app N0 N103q
  refine zishr Y B o10 rfl ?_
  rw [shr0 (Int32.ofNat ds.length)]
  exact zrI Y B hret hlk o11 e103 ⟨rfl, N103, rfl⟩ rfl rfl
def Q_prechk0 (Z : State) (i : Nat) (h0 : Heap) (n0 : Nat) : QT := fun rv hE LE => rv = some (.int (Int32.ofNat i)) ∧ Fr n0 LE ∧ hE = h0
theorem rm_prechk0 (l : Launch) (Z : State) (a0 : Array Value) (hw : HW a0 Z) (ws : List Jvm.Cond) (i j : Nat) (h0 : Heap) (n0 : Nat) (Z0 : n0 ≤ h0.size) (HI : i < j) (HB : j < 2 ^ 31) :
    MF l Z mn2 (Jvm.Cond.code mn2 cB2 3 (Option.some Jvm.ClassFile.FieldType.int)) ws Ro0 #[(.int (Int32.ofNat i)), (.int (Int32.ofNat j)), .null] h0 (Q_prechk0 Z i h0 n0) := by
  refine MF.of ss18 rfl #[iv (Int32.ofNat i), iv (Int32.ofNat j), .val .null] (plainFor_of_name opn_1) (fun _ => rfl) ?_
  intro p e s m below meth c _ hZ hh B hml hret hlk hown hnm Y e0
  have N0 := Fr.nil n0
  refine zilN Y B o12 rfl ?_
  refine zN Y B o13 ((if0 _ _).trans (flt (show ¬ ((Int32.ofNat i) < (0 : Int32)) from (on_pos (by omega)))).1) ?_
  refine zilN Y B o14 rfl <| zilN Y B o15 rfl ?_
  refine zCY Y B j1 (tlt (show (Int32.ofNat i) < (Int32.ofNat j) from (on_lt HI HB))).1 ?_
  refine zilN Y B o16 rfl ?_
  exact zrI Y B hret hlk o17 e0 ⟨rfl, N0, rfl⟩ rfl rfl
def Q_prechk1 (Z : State) (i : Nat) (h0 : Heap) (n0 : Nat) : QT := fun rv hE LE => rv = some (.int (Int32.ofNat i)) ∧ Fr n0 LE ∧ hE = h0
theorem rm_prechk1 (l : Launch) (Z : State) (a0 : Array Value) (hw : HW a0 Z) (ws : List Jvm.Cond) (i j : Nat) (g3 : Addr) (h0 : Heap) (n0 : Nat) (Z0 : n0 ≤ h0.size) (HI : i < j) (HB : j < 2 ^ 31) :
    MF l Z mn2 (Jvm.Cond.code mn2 cB2 3 (Option.some Jvm.ClassFile.FieldType.int)) ws Ro0 #[(.int (Int32.ofNat i)), (.int (Int32.ofNat j)), (.ref g3)] h0 (Q_prechk1 Z i h0 n0) := by
  refine MF.of ss18 rfl #[iv (Int32.ofNat i), iv (Int32.ofNat j), rv g3] (plainFor_of_name opn_1) (fun _ => rfl) ?_
  intro p e s m below meth c _ hZ hh B hml hret hlk hown hnm Y e0
  have N0 := Fr.nil n0
  refine zilN Y B o12 rfl ?_
  refine zN Y B o13 ((if0 _ _).trans (flt (show ¬ ((Int32.ofNat i) < (0 : Int32)) from (on_pos (by omega)))).1) ?_
  refine zilN Y B o14 rfl <| zilN Y B o15 rfl ?_
  refine zCY Y B j1 (tlt (show (Int32.ofNat i) < (Int32.ofNat j) from (on_lt HI HB))).1 ?_
  refine zilN Y B o16 rfl ?_
  exact zrI Y B hret hlk o17 e0 ⟨rfl, N0, rfl⟩ rfl rfl
def Q_schk (Z : State)  (h0 : Heap) (n0 : Nat) : QT := fun rv hE LE => rv = none ∧ Fr n0 LE ∧ hE = h0
theorem rm_schk (l : Launch) (Z : State) (a0 : Array Value) (hw : HW a0 Z) (ws : List Jvm.Cond) (i j : Nat) (G3 : Value) (h0 : Heap) (n0 : Nat) (Z0 : n0 ≤ h0.size) (HI : i < j) (HB : j < 2 ^ 31) (O4 : Sta Z Z.heap ss18 ss21 ss22 G3) (rG3 : G3.isRef = true) (X00 : Old Z n0 h0) :
    MF l Z mn3 (Jvm.Cond.code mn3 cB3 2 (Option.none : Option Jvm.ClassFile.FieldType)) ws Ro2 #[(.int (Int32.ofNat i)), (.int (Int32.ofNat j))] h0 (Q_schk Z  h0 n0) := by
  refine MF.of ss0 rfl #[iv (Int32.ofNat i), iv (Int32.ofNat j)] (plainFor_of_name opn_0) (fun _ => rfl) ?_
  intro p e s m below meth c _ hZ hh B hml hret hlk hown hnm Y e0
  have N0 := Fr.nil n0
  refine zilN Y B o18 rfl <| zilN Y B o19 rfl ?_
  rcases ref_cases rG3 with rfl | ⟨g3, rfl⟩
  · show Go p e below _ _ (mkF m 2 #[iv (Int32.ofNat i), iv (Int32.ofNat j)] [(.int (Int32.ofNat j)), (.int (Int32.ofNat i))])
    refine zgs Y B hZ hown (ow254 hw) e0 (O4.ext X00.2) o20 fun _ Y e101 => ?_
    refine zcs Y B hZ hown (ow256 hw) (ow257 hw) (ow255 hw) (ow258 hw) (by decide) (rm_prechk0 l Z a0 hw [] i j h0 n0 (Nat.le_trans Z0 (Nat.le_refl _)) HI HB) e101 hml opd_1 rfl o21 rfl rfl rfl rfl rfl fun _ T102 _ Y hQ => ?_
    obtain ⟨rfl, N102q, e102⟩ := hQ
    have N102 := Fr.app N0 N102q
    refine zpop Y B o22 rfl ?_
    exact zr0 Y B hret hlk o23 e102 ⟨rfl, N102, rfl⟩ rfl rfl
  · show Go p e below _ _ (mkF m 2 #[iv (Int32.ofNat i), iv (Int32.ofNat j)] [(.int (Int32.ofNat j)), (.int (Int32.ofNat i))])
    refine zgs Y B hZ hown (ow254 hw) e0 (O4.ext X00.2) o20 fun _ Y e103 => ?_
    refine zcs Y B hZ hown (ow256 hw) (ow257 hw) (ow255 hw) (ow258 hw) (by decide) (rm_prechk1 l Z a0 hw [] i j g3 h0 n0 (Nat.le_trans Z0 (Nat.le_refl _)) HI HB) e103 hml opd_1 rfl o21 rfl rfl rfl rfl rfl fun _ T104 _ Y hQ => ?_
    obtain ⟨rfl, N104q, e104⟩ := hQ
    have N104 := Fr.app N0 N104q
    refine zpop Y B o22 rfl ?_
    exact zr0 Y B hret hlk o23 e104 ⟨rfl, N104, rfl⟩ rfl rfl
def Q_l1char (Z : State) (ds : List Int32) (i : Nat) (h0 : Heap) (n0 : Nat) : QT := fun rv hE LE => rv = some (.int (ds.getD i 0)) ∧ Fr n0 LE ∧ hE = h0
theorem rm_l1char (l : Launch) (Z : State) (a0 : Array Value) (hw : HW a0 Z) (ws : List Jvm.Cond) (t : Addr) (kt : ClassId) (ds : List Int32) (i : Nat) (G3 : Value) (h0 : Heap) (n0 : Nat) (Z0 : n0 ≤ h0.size) (S3 : Arv Z h0 t kt .byte (Int32.ofNat ds.length) (B8 ds) (.int 0)) (HLO : ∀ c ∈ ds, ¬ c < 0 ∧ ¬ (255 : Int32) < c) (HI : i < ds.length) (HB : ds.length < 2 ^ 31) (O4 : Sta Z Z.heap ss18 ss21 ss22 G3) (rG3 : G3.isRef = true) (X00 : Old Z n0 h0) :
    MF l Z mn4 (Jvm.Cond.code mn4 cB4 2 (Option.some Jvm.ClassFile.FieldType.char)) ws Ro3 #[(.ref t), (.int (Int32.ofNat i))] h0 (Q_l1char Z ds i h0 n0) := by
  refine MF.of "java/lang/StringLatin1" rfl #[rv t, iv (Int32.ofNat i)] (plainFor_of_name opn_2) (fun _ => rfl) ?_
  intro p e s m below meth c _ hZ hh B hml hret hlk hown hnm Y e0
  have N0 := Fr.nil n0
  refine zilN Y B o24 rfl <| zalN Y B o25 rfl ?_
  refine zln Y B hZ e0 S3 o26 ?_
  refine zcs Y B hZ hown (ow251 hw) (ow252 hw) (ow6 hw) (ow253 hw) (by decide) (rm_schk l Z a0 hw [] i ds.length G3 h0 n0 (Nat.le_trans Z0 (Nat.le_refl _)) HI HB O4 rG3 X00) e0 hml opd_2 rfl o27 rfl rfl rfl rfl rfl fun _ T102 _ Y hQ => ?_
  obtain ⟨rfl, N102q, e102⟩ := hQ
  have N102 := Fr.app N0 N102q
  refine zalN Y B o28 rfl <| zilN Y B o29 rfl ?_
  refine zlb Y B hZ e102 S3 (v := (.int ((ds.getD i 0).toInt8.toInt32))) ⟨on_pos (by omega), on_lt HI HB⟩ (b8_at (by omega)) o30 ?_
  refine zsp Y B o31 (v := 255) rfl <| ziand Y B o32 rfl <| zi2c Y B o33 rfl ?_
  exact zrN Y B (t := .char) hret (by simp) hlk o34 e102 ⟨(by rw [(lo_back (getD_lo HLO i)).1, (lo_back (getD_lo HLO i)).2]), N102, rfl⟩ rfl rfl
def Q_sl1 (Z : State)  (h0 : Heap) (n0 : Nat) : QT := fun rv hE LE => rv = some (.int 1) ∧ Fr n0 LE ∧ hE = h0
theorem rm_sl1 (l : Launch) (Z : State) (a0 : Array Value) (hw : HW a0 Z) (ws : List Jvm.Cond) (x : Addr) (G1 : Int32) (h0 : Heap) (n0 : Nat) (Z0 : n0 ≤ h0.size) (S0 : Exa Z h0 x ss0) (S1 : Fld Z h0 x ss0 ss3 "B" (.int 0)) (O2 : Sta Z Z.heap ss0 ss8 "Z" (.int G1)) (P5 : ¬ (G1 = (0 : Int32))) (X00 : Old Z n0 h0) :
    MF l Z mn5 (Jvm.Cond.code mn5 cB5 1 (Option.some Jvm.ClassFile.FieldType.boolean)) ws Ro0 #[(.ref x)] h0 (Q_sl1 Z  h0 n0) := by
  refine MF.of ss0 rfl #[rv x] (plainFor_of_name opn_0) (fun _ => rfl) ?_
  intro p e s m below meth c _ hZ hh B hml hret hlk hown hnm Y e0
  have N0 := Fr.nil n0
  refine zgs Y B hZ hown (ow71 hw) e0 (O2.ext X00.2) o35 fun _ Y e101 => ?_
  refine zN Y B o36 ((if0 _ _).trans (feq P5).1) ?_
  refine zalN Y B o37 rfl ?_
  refine zgf Y B hZ hown (ow25 hw) Via.refl e101 S1 o38 fun _ Y e102 => ?_
  refine zN Y B o39 (by decide) ?_
  refine zc1 Y B o40 <| zgo Y B j2 ?_
  exact zrN Y B (t := .boolean) hret (by simp) hlk o41 e102 ⟨rfl, N0, rfl⟩ rfl rfl
def Q_schar (Z : State) (ds : List Int32) (i : Nat) (h0 : Heap) (n0 : Nat) : QT := fun rv hE LE => rv = some (.int (ds.getD i 0)) ∧ Fr n0 LE ∧ hE = h0
theorem rm_schar (l : Launch) (Z : State) (a0 : Array Value) (hw : HW a0 Z) (ws : List Jvm.Cond) (x t : Addr) (kt : ClassId) (ds : List Int32) (i : Nat) (G1 : Int32) (G3 : Value) (h0 : Heap) (n0 : Nat) (Z0 : n0 ≤ h0.size) (S0 : Exa Z h0 x ss0) (S1 : Fld Z h0 x ss0 ss3 "B" (.int 0)) (S2 : Fld Z h0 x ss0 ss4 "[B" (.ref t)) (S3 : Arv Z h0 t kt .byte (Int32.ofNat ds.length) (B8 ds) (.int 0)) (HLO : ∀ c ∈ ds, ¬ c < 0 ∧ ¬ (255 : Int32) < c) (HI : i < ds.length) (HB : ds.length < 2 ^ 31) (O2 : Sta Z Z.heap ss0 ss8 "Z" (.int G1)) (P5 : ¬ (G1 = (0 : Int32))) (X00 : Old Z n0 h0) (O4 : Sta Z Z.heap ss18 ss21 ss22 G3) (rG3 : G3.isRef = true) :
    MF l Z mn6 (Jvm.Cond.code mn6 cB6 2 (Option.some Jvm.ClassFile.FieldType.char)) ws Ro4 #[(.ref x), (.int (Int32.ofNat i))] h0 (Q_schar Z ds i h0 n0) := by
  refine MF.of ss0 rfl #[rv x, iv (Int32.ofNat i)] (plainFor_of_name opn_0) (fun _ => rfl) ?_
  intro p e s m below meth c _ hZ hh B hml hret hlk hown hnm Y e0
  have N0 := Fr.nil n0
  refine zalN Y B o42 rfl ?_
  refine zcv Y B hZ hown (ow243 hw) (ow244 hw) (notFace_of_selects (args := #[]) (mvT hZ (ow246 hw))) (ow246 hw) (ow245 hw) (ow6 hw) (ow247 hw) (by decide) S0 (rm_sl1 l Z a0 hw [] x G1 h0 n0 (Nat.le_trans Z0 (Nat.le_refl _)) S0 S1 O2 P5 X00) e0 hml opd_3 rfl o43 rfl rfl rfl rfl rfl fun _ T101 _ Y hQ => ?_
  obtain ⟨rfl, N101q, e101⟩ := hQ
  have N101 := Fr.app N0 N101q
  refine zN Y B o44 (by decide) ?_
  refine zalN Y B o45 rfl ?_
  refine zgf Y B hZ hown (ow24 hw) Via.refl e101 S2 o46 fun _ Y e102 => ?_
  refine zilN Y B o47 rfl ?_
  refine zcs Y B hZ hown (ow248 hw) (ow249 hw) (ow228 hw) (ow250 hw) (by decide) (rm_l1char l Z a0 hw [] t kt ds i G3 h0 n0 (Nat.le_trans Z0 (Nat.le_refl _)) S3 HLO HI HB O4 rG3 X00) e102 hml opd_4 rfl o48 rfl rfl rfl rfl rfl fun _ T103 _ Y hQ => ?_
  obtain ⟨rfl, N103q, e103⟩ := hQ
  have N103 := Fr.app N101 N103q
  exact zrN Y B (t := .char) hret (by simp) hlk o49 e103 ⟨(by rw [(lo_back (getD_lo HLO i)).2]), N103, rfl⟩ rfl rfl
def Q_asbinit (Z : State) (b : Addr) (cap : Nat) (h0 : Heap) (n0 : Nat) : QT := fun rv hE LE => ∃ v : Addr, ∃ kv : ClassId, rv = none ∧ Fr n0 LE ∧ Keep h0 hE [b] ∧ (h0.size ≤ v) ∧ (Exa Z hE b ss5) ∧ (Fld Z hE b ss2 ss3 "B" (.int 0)) ∧ (Fld Z hE b ss2 ss4 "[B" (.ref v)) ∧ (Fld Z hE b ss2 ss9 "I" (.int (Int32.ofNat ([] : List Int32).length))) ∧ (Arv Z hE v kv .byte (Int32.ofNat cap) (B8 ([] : List Int32)) (.int 0)) ∧ (Exa Z hE v "[B")
theorem rm_asbinit (l : Launch) (Z : State) (a0 : Array Value) (hw : HW a0 Z) (ws : List Jvm.Cond) (b : Addr) (cap : Nat) (G1 : Int32) (h0 : Heap) (n0 : Nat) (Z0 : n0 ≤ h0.size) (B0 : Exa Z h0 b ss5) (B1 : Fld Z h0 b ss2 ss3 "B" (.int 0)) (B2 : Fld Z h0 b ss2 ss4 "[B" .null) (B3 : Fld Z h0 b ss2 ss9 "I" (.int 0)) (g_b : n0 ≤ b) (HCAP : cap ≤ 16) (O2 : Sta Z Z.heap ss0 ss8 "Z" (.int G1)) (P5 : ¬ (G1 = (0 : Int32))) (X00 : Old Z n0 h0) :
    MF l Z mn7 (Jvm.Cond.code mn7 cB7 2 (Option.none : Option Jvm.ClassFile.FieldType)) ws Ro5 #[(.ref b), (.int (Int32.ofNat cap))] h0 (Q_asbinit Z b cap h0 n0) := by
  refine MF.of ss2 rfl #[rv b, iv (Int32.ofNat cap)] (plainFor_of_name opn_3) (fun _ => rfl) ?_
  intro p e s m below meth c _ hZ hh B hml hret hlk hown hnm Y e0
  have N0 := Fr.nil n0
  have K0 := Keep.refl h0 [b]
  refine zalN Y B o50 rfl ?_
  refine Go.a3 (initO Y B.1 hZ hown (ow44 hw) (ow16 hw) (ow17 hw) e0 rfl (by rw [hml]; rfl) rfl (hb B.2 o51.1) (by decide) (W := 0) (by show 2 * 0 + _ ≤ _; exact Nat.le_of_eq rfl) (by decide)) fun _ Y e101 => ?_
  refine zgs Y B hZ hown (ow45 hw) e101 (O2.ext X00.2) o52 fun _ Y e102 => ?_
  refine zN Y B o53 ((if0 _ _).trans (feq P5).1) ?_
  refine zalN Y B o54 rfl <| zilN Y B o55 rfl ?_
  refine znq Y B hZ (aty := .byte) (ow19 hw) e102 o56 (on_pos (by omega)) (cap := 16) (by rw [on_nat (by omega)]; exact HCAP) rfl rfl rfl (ad := "[B") (by decide +kernel) fun T103 h103 k103 b103 g103 Y e103 E103 A103 B103 => ?_
  have K104 := K0.ext E103
  have O104 := X00.ext E103
  have F106 := (B2.ext E103)
  have F107 := (B0.ext E103)
  refine Go.b3 (putF Y B.1 hZ hown (host := "") (Or.inl (ow46 hw)) Via.refl e103 F106 F107 (Or.inl (ow47 hw)) (ow33 hw) (ty := (.array .byte)) (by decide) rfl rfl rfl rfl (hb B.2 o57.1)) fun T105 h105 Y e105 W105 => ?_
  have N105 := Fr.snoc Y N0 g_b
  have K108 := K104.wr W105 (Or.inl (List.mem_of_getElem? (i := 0) rfl))
  have O108 := O104.wr W105 g_b
  refine zalN Y B o58 rfl <| zc0 Y B o59 ?_
  have F110 := ((B1.ext E103).other W105 (Or.inr (slot_ne (Or.inl (ow49 hw)) (Or.inl (ow47 hw)) (by decide) (t := .byte) (t' := (.array .byte)) (by decide) (by decide))))
  have F111 := (F107.wr W105)
  refine Go.b3 (putFN Y B.1 hZ hown (ow48 hw) Via.refl e105 F110 F111 (Or.inl (ow49 hw)) (ow33 hw) (ty := .byte) (v' := (.int (nar .byte (0 : Int32)))) (by decide) rfl (fits_nar_byte _) rfl rfl (hb B.2 o60.1)) fun T109 h109 Y e109 W109 => ?_
  have N109 := Fr.snoc Y N105 g_b
  have K112 := K108.wr W109 (Or.inl (List.mem_of_getElem? (i := 0) rfl))
  have O112 := O108.wr W109 g_b
  refine zgo Y B j3 ?_
  have F113 := (F111.wr W109)
  have F114 := ((F106.same W105).other W109 (Or.inr (slot_ne (Or.inl (ow47 hw)) (Or.inl (ow49 hw)) (by decide) (t := (.array .byte)) (t' := .byte) (by decide) (by decide))))
  have F115 := (((B3.ext E103).other W105 (Or.inr (slot_ne (Or.inl (ow73 hw)) (Or.inl (ow47 hw)) (by decide) (t := .int) (t' := (.array .byte)) (by decide) (by decide)))).other W109 (Or.inr (slot_ne (Or.inl (ow73 hw)) (Or.inl (ow49 hw)) (by decide) (t := .int) (t' := .byte) (by decide) (by decide))))
  have F116 := (((Arv.new A103 (on_pos (by omega))).other W105 (Ne.symm (Nat.ne_of_lt (Nat.lt_of_lt_of_le B0.lt (Nat.le_of_eq g103.symm))))).other W109 (Ne.symm (Nat.ne_of_lt (Nat.lt_of_lt_of_le B0.lt (Nat.le_of_eq g103.symm)))))
  have F117 := ((B103.wr W105).wr W109)
  exact zr0 Y B hret hlk o61 e109 ⟨b103, k103, rfl, N109, K112, (Nat.le_trans (Nat.le_refl _) (Nat.le_of_eq g103.symm)), F113, (F110.same W109), F114, F115, F116, F117⟩ rfl rfl
def Q_ens0 (Z : State)  (h0 : Heap) (n0 : Nat) : QT := fun rv hE LE => rv = none ∧ Fr n0 LE ∧ hE = h0
theorem rm_ens0 (l : Launch) (Z : State) (a0 : Array Value) (hw : HW a0 Z) (ws : List Jvm.Cond) (b v : Addr) (kv : ClassId) (cap : Nat) (cs : List Int32) (mc : Nat) (h0 : Heap) (n0 : Nat) (Z0 : n0 ≤ h0.size) (B0 : Exa Z h0 b ss5) (B1 : Fld Z h0 b ss2 ss3 "B" (.int 0)) (B2 : Fld Z h0 b ss2 ss4 "[B" (.ref v)) (B3 : Fld Z h0 b ss2 ss9 "I" (.int (Int32.ofNat cs.length))) (B4 : Arv Z h0 v kv .byte (Int32.ofNat cap) (B8 cs) (.int 0)) (B5 : Exa Z h0 v "[B") (HMC : mc ≤ cap) (HCB : cap < 2 ^ 31) :
    MF l Z mn8 (Jvm.Cond.code mn8 cB8 3 (Option.none : Option Jvm.ClassFile.FieldType)) ws Ro0 #[(.ref b), (.int (Int32.ofNat mc))] h0 (Q_ens0 Z  h0 n0) := by
  refine MF.of ss2 rfl #[rv b, iv (Int32.ofNat mc), un] (plainFor_of_name opn_3) (fun _ => rfl) ?_
  intro p e s m below meth c _ hZ hh B hml hret hlk hown hnm Y e0
  have N0 := Fr.nil n0
  refine zalN Y B o62 rfl ?_
  refine zgf Y B hZ hown (ow46 hw) Via.refl e0 B2 o63 fun _ Y e101 => ?_
  refine zln Y B hZ e101 B4 o64 ?_
  refine zalN Y B o65 rfl ?_
  refine zgf Y B hZ hown (ow48 hw) Via.refl e101 B1 o66 fun _ Y e103 => ?_
  refine zishr Y B o67 rfl ?_
  rw [shr0 (Int32.ofNat cap)]
  refine zisN Y B o68 (s2 rfl) <| zilN Y B o69 rfl <| zilN Y B o70 rfl <| zisub Y B o71 rfl ?_
  rw [show ((Int32.ofNat mc) - (Int32.ofNat cap)) = (Int32.ofNat mc - Int32.ofNat cap) from rfl]
  refine zY Y B j4 ((if0 _ _).trans (flt (show ¬ ((0 : Int32) < (Int32.ofNat mc - Int32.ofNat cap)) from (on_subneg HMC HCB))).2.2.2) ?_
  exact zr0 Y B hret hlk o72 e103 ⟨rfl, N0, rfl⟩ rfl rfl
def Q_infl0 (Z : State)  (h0 : Heap) (n0 : Nat) : QT := fun rv hE LE => rv = none ∧ Fr n0 LE ∧ hE = h0
theorem rm_infl0 (l : Launch) (Z : State) (a0 : Array Value) (hw : HW a0 Z) (ws : List Jvm.Cond) (b x : Addr) (G1 : Int32) (h0 : Heap) (n0 : Nat) (Z0 : n0 ≤ h0.size) (B0 : Exa Z h0 b ss5) (B1 : Fld Z h0 b ss2 ss3 "B" (.int 0)) (S0 : Exa Z h0 x ss0) (S1 : Fld Z h0 x ss0 ss3 "B" (.int 0)) (O2 : Sta Z Z.heap ss0 ss8 "Z" (.int G1)) (P5 : ¬ (G1 = (0 : Int32))) (X00 : Old Z n0 h0) :
    MF l Z mn9 (Jvm.Cond.code mn9 cB9 2 (Option.none : Option Jvm.ClassFile.FieldType)) ws Ro1 #[(.ref b), (.ref x)] h0 (Q_infl0 Z  h0 n0) := by
  refine MF.of ss2 rfl #[rv b, rv x] (plainFor_of_name opn_3) (fun _ => rfl) ?_
  intro p e s m below meth c _ hZ hh B hml hret hlk hown hnm Y e0
  have N0 := Fr.nil n0
  refine zgs Y B hZ hown (ow45 hw) e0 (O2.ext X00.2) o73 fun _ Y e101 => ?_
  refine zN Y B o74 ((if0 _ _).trans (feq P5).1) ?_
  refine zalN Y B o75 rfl ?_
  refine zgf Y B hZ hown (ow48 hw) Via.refl e101 B1 o76 fun _ Y e102 => ?_
  refine zalN Y B o77 rfl ?_
  refine zcv Y B hZ hown (ow115 hw) (ow67 hw) (notFace_of_selects (args := #[]) (mvT hZ (ow69 hw))) (ow69 hw) (ow68 hw) (ow6 hw) (ow70 hw) (by decide) S0 (rm_scoder l Z a0 hw [] x G1 h0 n0 (Nat.le_trans Z0 (Nat.le_refl _)) S0 S1 O2 P5 X00) e102 hml opd_0 rfl o78 rfl rfl rfl rfl rfl fun _ T103 _ Y hQ => ?_
  obtain ⟨rfl, N103q, e103⟩ := hQ
  have N103 := Fr.app N0 N103q
  refine zCY Y B j5 (by decide) ?_
  exact zr0 Y B hret hlk o79 e103 ⟨rfl, N103, rfl⟩ rfl rfl
def Q_sgetb (Z : State) (ds : List Int32) (v : Addr) (kv : ClassId) (cap : Nat) (cs : List Int32) (h0 : Heap) (n0 : Nat) : QT := fun rv hE LE => rv = none ∧ Fr n0 LE ∧ Keep h0 hE [v] ∧ (Arv Z hE v kv .byte (Int32.ofNat cap) (B8 (cs ++ ds)) (.int 0))
theorem rm_sgetb (l : Launch) (Z : State) (a0 : Array Value) (hw : HW a0 Z) (ws : List Jvm.Cond) (x t : Addr) (kt : ClassId) (ds : List Int32) (v : Addr) (kv : ClassId) (cap : Nat) (cs : List Int32) (G1 : Int32) (h0 : Heap) (n0 : Nat) (Z0 : n0 ≤ h0.size) (S0 : Exa Z h0 x ss0) (S1 : Fld Z h0 x ss0 ss3 "B" (.int 0)) (S2 : Fld Z h0 x ss0 ss4 "[B" (.ref t)) (S3 : Arv Z h0 t kt .byte (Int32.ofNat ds.length) (B8 ds) (.int 0)) (B4 : Arv Z h0 v kv .byte (Int32.ofNat cap) (B8 cs) (.int 0)) (HR : cs.length + ds.length ≤ cap) (HCB : cap < 2 ^ 31) (g_v : n0 ≤ v) (O2 : Sta Z Z.heap ss0 ss8 "Z" (.int G1)) (P5 : ¬ (G1 = (0 : Int32))) (X00 : Old Z n0 h0) :
    MF l Z mn10 (Jvm.Cond.code mn10 cB10 4 (Option.none : Option Jvm.ClassFile.FieldType)) ws Ro6 #[(.ref x), (.ref v), (.int (Int32.ofNat cs.length)), (.int 0)] h0 (Q_sgetb Z ds v kv cap cs h0 n0) := by
  refine MF.of ss0 rfl #[rv x, rv v, iv (Int32.ofNat cs.length), iv 0] (plainFor_of_name opn_0) (fun _ => rfl) ?_
  intro p e s m below meth c _ hZ hh B hml hret hlk hown hnm Y e0
  have N0 := Fr.nil n0
  have K0 := Keep.refl h0 [v]
  refine zalN Y B o80 rfl ?_
  refine zcv Y B hZ hown (ow66 hw) (ow67 hw) (notFace_of_selects (args := #[]) (mvT hZ (ow69 hw))) (ow69 hw) (ow68 hw) (ow6 hw) (ow70 hw) (by decide) S0 (rm_scoder l Z a0 hw [] x G1 h0 n0 (Nat.le_trans Z0 (Nat.le_refl _)) S0 S1 O2 P5 X00) e0 hml opd_0 rfl o81 rfl rfl rfl rfl rfl fun _ T101 _ Y hQ => ?_
  obtain ⟨rfl, N101q, e101⟩ := hQ
  have N101 := Fr.app N0 N101q
  refine zilN Y B o82 rfl <| zCN Y B o83 (by decide) ?_
  refine zalN Y B o84 rfl ?_
  refine zgf Y B hZ hown (ow24 hw) Via.refl e101 S2 o85 fun _ Y e102 => ?_
  refine zc0 Y B o86 <| zalN Y B o87 rfl <| zilN Y B o88 rfl <| zilN Y B o89 rfl <| zishl Y B o90 rfl ?_
  rw [shl0 (Int32.ofNat cs.length)]
  refine zalN Y B o91 rfl ?_
  refine zgf Y B hZ hown (ow24 hw) Via.refl e102 S2 o92 fun _ Y e103 => ?_
  refine zln Y B hZ e103 S3 o93 ?_
  obtain ⟨T105, h105, L105, Y, e105, N105, K105, A105, st105⟩ := own_cpy Y B.1 hZ hown (ow121 hw) (ow104 hw) (ow102 hw) (ow103 hw) e103 (cs := ds) (es := cs) (ca := ds.length) (cb := cap) (n := ds.length) S3 B4 rfl rfl (Nat.le_refl _) (Nat.le_refl _) HR (by omega) HCB N101 g_v (g := (mkF m 22 #[rv x, rv v, iv (Int32.ofNat cs.length), iv 0] [(.int (Int32.ofNat ds.length)), (.int (Int32.ofNat cs.length)), (.ref v), (.int 0), (.ref t)])) rfl (by rw [hml]; rfl) rfl (hb B.2 o94.1) (by decide) (W := 0) (by show 2 * 0 + _ ≤ _; exact Nat.le_of_eq rfl) (by decide)
  refine Go.by st105 ?_
  have K106 := K0.trans K105 (allS (Or.inl (List.mem_of_getElem? (i := 0) rfl)) all0)
  have O106 := X00.keep K105 (allS g_v all0)
  show Go p e below _ _ (mkF m 25 #[rv x, rv v, iv (Int32.ofNat cs.length), iv 0] [])
  refine zgo Y B j6 ?_
  exact zr0 Y B hret hlk o95 e105 ⟨rfl, N105, K106, A105⟩ rfl rfl
def Q_putstr (Z : State) (v : Addr) (kv : ClassId) (cap : Nat) (cs ds : List Int32) (h0 : Heap) (n0 : Nat) : QT := fun rv hE LE => rv = none ∧ Fr n0 LE ∧ Keep h0 hE [v] ∧ (Arv Z hE v kv .byte (Int32.ofNat cap) (B8 (cs ++ ds)) (.int 0))
theorem rm_putstr (l : Launch) (Z : State) (a0 : Array Value) (hw : HW a0 Z) (ws : List Jvm.Cond) (b v : Addr) (kv : ClassId) (cap : Nat) (cs : List Int32) (x t : Addr) (kt : ClassId) (ds : List Int32) (G1 : Int32) (h0 : Heap) (n0 : Nat) (Z0 : n0 ≤ h0.size) (B0 : Exa Z h0 b ss5) (B1 : Fld Z h0 b ss2 ss3 "B" (.int 0)) (B2 : Fld Z h0 b ss2 ss4 "[B" (.ref v)) (B3 : Fld Z h0 b ss2 ss9 "I" (.int (Int32.ofNat cs.length))) (B4 : Arv Z h0 v kv .byte (Int32.ofNat cap) (B8 cs) (.int 0)) (B5 : Exa Z h0 v "[B") (S0 : Exa Z h0 x ss0) (S1 : Fld Z h0 x ss0 ss3 "B" (.int 0)) (S2 : Fld Z h0 x ss0 ss4 "[B" (.ref t)) (S3 : Arv Z h0 t kt .byte (Int32.ofNat ds.length) (B8 ds) (.int 0)) (HR : cs.length + ds.length ≤ cap) (HCB : cap < 2 ^ 31) (g_v : n0 ≤ v) (O2 : Sta Z Z.heap ss0 ss8 "Z" (.int G1)) (P5 : ¬ (G1 = (0 : Int32))) (X00 : Old Z n0 h0) :
    MF l Z mn11 (Jvm.Cond.code mn11 cB11 3 (Option.none : Option Jvm.ClassFile.FieldType)) ws Ro7 #[(.ref b), (.int (Int32.ofNat cs.length)), (.ref x)] h0 (Q_putstr Z v kv cap cs ds h0 n0) := by
  refine MF.of ss2 rfl #[rv b, iv (Int32.ofNat cs.length), rv x] (plainFor_of_name opn_3) (fun _ => rfl) ?_
  intro p e s m below meth c _ hZ hh B hml hret hlk hown hnm Y e0
  have N0 := Fr.nil n0
  have K0 := Keep.refl h0 [v]
  refine zalN Y B o96 rfl <| zalN Y B o97 rfl ?_
  refine zcp Y B hZ hown (ow110 hw) (ow111 hw) (own_selp (ow111 hw) (ow112 hw) (ow113 hw) (by decide)) (ow112 hw) (ow42 hw) (ow114 hw) (by decide) B0 (rm_infl0 l Z a0 hw [] b x G1 h0 n0 (Nat.le_trans Z0 (Nat.le_refl _)) B0 B1 S0 S1 O2 P5 X00) e0 hml opd_5 rfl o98 rfl rfl rfl rfl rfl fun _ T101 _ Y hQ => ?_
  obtain ⟨rfl, N101q, e101⟩ := hQ
  have N101 := Fr.app N0 N101q
  refine zalN Y B o99 rfl <| zalN Y B o100 rfl ?_
  refine zgf Y B hZ hown (ow46 hw) Via.refl e101 B2 o101 fun _ Y e102 => ?_
  refine zilN Y B o102 rfl <| zalN Y B o103 rfl ?_
  refine zgf Y B hZ hown (ow48 hw) Via.refl e102 B1 o104 fun _ Y e103 => ?_
  refine zcv Y B hZ hown (ow116 hw) (ow117 hw) (notFace_of_selects (args := #[]) (mvT hZ (ow119 hw))) (ow119 hw) (ow118 hw) (ow6 hw) (ow120 hw) (by decide) S0 (rm_sgetb l Z a0 hw [] x t kt ds v kv cap cs G1 h0 n0 (Nat.le_trans Z0 (Nat.le_refl _)) S0 S1 S2 S3 B4 HR HCB g_v O2 P5 X00) e103 hml opd_6 rfl o105 rfl rfl rfl rfl rfl fun _ T104 _ Y hQ => ?_
  obtain ⟨rfl, N104q, K104q, P104_0⟩ := hQ
  have N104 := Fr.app N101 N104q
  have K105 := K0.trans K104q (allS (Or.inl (List.mem_of_getElem? (i := 0) rfl)) all0)
  have O105 := X00.keep K104q (allS g_v all0)
  exact zr0 Y B hret hlk o106 rfl ⟨rfl, N104, K105, P104_0⟩ rfl rfl
def Q_asbappS (Z : State) (b v : Addr) (kv : ClassId) (cap : Nat) (cs ds : List Int32) (h0 : Heap) (n0 : Nat) : QT := fun rv hE LE => rv = some (.ref b) ∧ Fr n0 LE ∧ Keep h0 hE [b, v] ∧ (Exa Z hE b ss5) ∧ (Fld Z hE b ss2 ss3 "B" (.int 0)) ∧ (Fld Z hE b ss2 ss4 "[B" (.ref v)) ∧ (Fld Z hE b ss2 ss9 "I" (.int (Int32.ofNat (cs ++ ds).length))) ∧ (Arv Z hE v kv .byte (Int32.ofNat cap) (B8 (cs ++ ds)) (.int 0)) ∧ (Exa Z hE v "[B")
theorem rm_asbappS (l : Launch) (Z : State) (a0 : Array Value) (hw : HW a0 Z) (ws : List Jvm.Cond) (b v : Addr) (kv : ClassId) (cap : Nat) (cs : List Int32) (x t : Addr) (kt : ClassId) (ds : List Int32) (G1 : Int32) (h0 : Heap) (n0 : Nat) (Z0 : n0 ≤ h0.size) (B0 : Exa Z h0 b ss5) (B1 : Fld Z h0 b ss2 ss3 "B" (.int 0)) (B2 : Fld Z h0 b ss2 ss4 "[B" (.ref v)) (B3 : Fld Z h0 b ss2 ss9 "I" (.int (Int32.ofNat cs.length))) (B4 : Arv Z h0 v kv .byte (Int32.ofNat cap) (B8 cs) (.int 0)) (B5 : Exa Z h0 v "[B") (S0 : Exa Z h0 x ss0) (S1 : Fld Z h0 x ss0 ss3 "B" (.int 0)) (S2 : Fld Z h0 x ss0 ss4 "[B" (.ref t)) (S3 : Arv Z h0 t kt .byte (Int32.ofNat ds.length) (B8 ds) (.int 0)) (HR : cs.length + ds.length ≤ cap) (HCB : cap < 2 ^ 31) (g_v : n0 ≤ v) (g_b : n0 ≤ b) (O2 : Sta Z Z.heap ss0 ss8 "Z" (.int G1)) (P5 : ¬ (G1 = (0 : Int32))) (X00 : Old Z n0 h0) :
    MF l Z mn12 (Jvm.Cond.code mn12 cB12 3 (Option.some (Jvm.ClassFile.FieldType.object ss2))) ws Ro8 #[(.ref b), (.ref x)] h0 (Q_asbappS Z b v kv cap cs ds h0 n0) := by
  refine MF.of ss2 rfl #[rv b, rv x, un] (plainFor_of_name opn_3) (fun _ => rfl) ?_
  intro p e s m below meth c _ hZ hh B hml hret hlk hown hnm Y e0
  have N0 := Fr.nil n0
  have K0 := Keep.refl h0 [b, v]
  refine zalN Y B o107 rfl <| znnY Y B j7 <| zalN Y B o108 rfl ?_
  refine zcv Y B hZ hown (ow61 hw) (ow62 hw) (notFace_of_selects (args := #[]) (mvT hZ (ow64 hw))) (ow64 hw) (ow63 hw) (ow6 hw) (ow65 hw) (by decide) S0 (rm_slen l Z a0 hw [] x t kt ds G1 h0 n0 (Nat.le_trans Z0 (Nat.le_refl _)) S0 S1 S2 S3 O2 P5 X00) e0 hml opd_7 rfl o109 rfl rfl rfl rfl rfl fun _ T101 _ Y hQ => ?_
  obtain ⟨rfl, N101q, e101⟩ := hQ
  have N101 := Fr.app N0 N101q
  refine zisN Y B o110 (s2 rfl) <| zalN Y B o111 rfl <| zalN Y B o112 rfl ?_
  refine zgf Y B hZ hown (ow72 hw) Via.refl e101 B3 o113 fun _ Y e102 => ?_
  refine zilN Y B o114 rfl <| ziadd Y B o115 rfl ?_
  rw [show ((Int32.ofNat cs.length) + (Int32.ofNat ds.length)) = (Int32.ofNat (cs.length + ds.length)) from (on_add _ _)]
  refine zcp Y B hZ hown (ow74 hw) (ow75 hw) (own_selp (ow75 hw) (ow76 hw) (ow77 hw) (by decide)) (ow76 hw) (ow42 hw) (ow78 hw) (by decide) B0 (rm_ens0 l Z a0 hw [] b v kv cap cs (cs.length + ds.length) h0 n0 (Nat.le_trans Z0 (Nat.le_refl _)) B0 B1 B2 B3 B4 B5 (HR) HCB) e102 hml opd_8 rfl o116 rfl rfl rfl rfl rfl fun _ T103 _ Y hQ => ?_
  obtain ⟨rfl, N103q, e103⟩ := hQ
  have N103 := Fr.app N101 N103q
  refine zalN Y B o117 rfl <| zalN Y B o118 rfl ?_
  refine zgf Y B hZ hown (ow72 hw) Via.refl e103 B3 o119 fun _ Y e104 => ?_
  refine zalN Y B o120 rfl ?_
  refine zcp Y B hZ hown (ow105 hw) (ow106 hw) (own_selp (ow106 hw) (ow107 hw) (ow108 hw) (by decide)) (ow107 hw) (ow42 hw) (ow109 hw) (by decide) B0 (rm_putstr l Z a0 hw [] b v kv cap cs x t kt ds G1 h0 n0 (Nat.le_trans Z0 (Nat.le_refl _)) B0 B1 B2 B3 B4 B5 S0 S1 S2 S3 HR HCB g_v O2 P5 X00) e104 hml opd_9 rfl o121 rfl rfl rfl rfl rfl fun _ T105 _ Y hQ => ?_
  obtain ⟨rfl, N105q, K105q, P105_0⟩ := hQ
  have N105 := Fr.app N103 N105q
  have K106 := K0.trans K105q (allS (Or.inl (List.mem_of_getElem? (i := 1) rfl)) all0)
  have O106 := X00.keep K105q (allS g_v all0)
  refine zalN Y B o122 rfl <| zdup Y B o123 rfl ?_
  have F108 := (B3.keep K105q (ninS (ne_exa B0 B5 (by decide)) nin0))
  refine zgf Y B hZ hown (ow72 hw) Via.refl rfl F108 o124 fun _ Y e107 => ?_
  refine zilN Y B o125 rfl <| ziadd Y B o126 rfl ?_
  rw [show ((Int32.ofNat cs.length) + (Int32.ofNat ds.length)) = (Int32.ofNat (cs ++ ds).length) from (by rw [on_add, List.length_append])]
  have F110 := (B0.keep K105q)
  refine Go.b3 (putF Y B.1 hZ hown (host := "") (Or.inl (ow72 hw)) Via.refl e107 F108 F110 (Or.inl (ow73 hw)) (ow33 hw) (ty := .int) (by decide) rfl rfl rfl rfl (hb B.2 o127.1)) fun T109 h109 Y e109 W109 => ?_
  have N109 := Fr.snoc Y N105 g_b
  have K111 := K106.wr W109 (Or.inl (List.mem_of_getElem? (i := 0) rfl))
  have O111 := O106.wr W109 g_b
  refine zalN Y B o128 rfl ?_
  have F112 := (F110.wr W109)
  have F113 := ((B1.keep K105q (ninS (ne_exa B0 B5 (by decide)) nin0)).other W109 (Or.inr (slot_ne (Or.inl (ow49 hw)) (Or.inl (ow73 hw)) (by decide) (t := .byte) (t' := .int) (by decide) (by decide))))
  have F114 := ((B2.keep K105q (ninS (ne_exa B0 B5 (by decide)) nin0)).other W109 (Or.inr (slot_ne (Or.inl (ow47 hw)) (Or.inl (ow73 hw)) (by decide) (t := (.array .byte)) (t' := .int) (by decide) (by decide))))
  have F115 := (P105_0.other W109 (ne_exa B5 B0 (by decide)))
  have F116 := ((B5.keep K105q).wr W109)
  exact zrR Y B hret rfl rfl rfl hlk o129 e109 ⟨rfl, N109, K111, F112, F113, F114, (F108.same W109), F115, F116⟩ rfl rfl
def Q_sbappS (Z : State) (b v : Addr) (kv : ClassId) (cap : Nat) (cs ds : List Int32) (h0 : Heap) (n0 : Nat) : QT := fun rv hE LE => rv = some (.ref b) ∧ Fr n0 LE ∧ Keep h0 hE [b, v] ∧ (Exa Z hE b ss5) ∧ (Fld Z hE b ss2 ss3 "B" (.int 0)) ∧ (Fld Z hE b ss2 ss4 "[B" (.ref v)) ∧ (Fld Z hE b ss2 ss9 "I" (.int (Int32.ofNat (cs ++ ds).length))) ∧ (Arv Z hE v kv .byte (Int32.ofNat cap) (B8 (cs ++ ds)) (.int 0)) ∧ (Exa Z hE v "[B")
theorem rm_sbappS (l : Launch) (Z : State) (a0 : Array Value) (hw : HW a0 Z) (ws : List Jvm.Cond) (b v : Addr) (kv : ClassId) (cap : Nat) (cs : List Int32) (x t : Addr) (kt : ClassId) (ds : List Int32) (G1 : Int32) (h0 : Heap) (n0 : Nat) (Z0 : n0 ≤ h0.size) (B0 : Exa Z h0 b ss5) (B1 : Fld Z h0 b ss2 ss3 "B" (.int 0)) (B2 : Fld Z h0 b ss2 ss4 "[B" (.ref v)) (B3 : Fld Z h0 b ss2 ss9 "I" (.int (Int32.ofNat cs.length))) (B4 : Arv Z h0 v kv .byte (Int32.ofNat cap) (B8 cs) (.int 0)) (B5 : Exa Z h0 v "[B") (S0 : Exa Z h0 x ss0) (S1 : Fld Z h0 x ss0 ss3 "B" (.int 0)) (S2 : Fld Z h0 x ss0 ss4 "[B" (.ref t)) (S3 : Arv Z h0 t kt .byte (Int32.ofNat ds.length) (B8 ds) (.int 0)) (HR : cs.length + ds.length ≤ cap) (HCB : cap < 2 ^ 31) (g_v : n0 ≤ v) (g_b : n0 ≤ b) (O2 : Sta Z Z.heap ss0 ss8 "Z" (.int G1)) (P5 : ¬ (G1 = (0 : Int32))) (X00 : Old Z n0 h0) :
    MF l Z mn13 (Jvm.Cond.code mn13 cB13 2 (Option.some (Jvm.ClassFile.FieldType.object ss5))) ws Ro9 #[(.ref b), (.ref x)] h0 (Q_sbappS Z b v kv cap cs ds h0 n0) := by
  refine MF.of ss5 rfl #[rv b, rv x] (plainFor_of_name opn_4) (fun _ => rfl) ?_
  intro p e s m below meth c _ hZ hh B hml hret hlk hown hnm Y e0
  have N0 := Fr.nil n0
  have K0 := Keep.refl h0 [b, v]
  refine zalN Y B o130 rfl <| zalN Y B o131 rfl ?_
  obtain ⟨_, _, ⟨T101, L101, k101, n101⟩, -, Y, ⟨Lc101, hQ101, l101, y101, z101⟩, st101⟩ := superBack Y B.1 hZ (y := mn12) hown (ow56 hw) (own_same (ow57 hw) (ow77 hw) rfl (by decide)) (ow57 hw) (ow58 hw) (by decide) (backOf (W := 0) (rm_asbappS l Z a0 hw [] b v kv cap cs x t kt ds G1 h0 n0 (Nat.le_trans Z0 (Nat.le_refl _)) B0 B1 B2 B3 B4 B5 S0 S1 S2 S3 HR HCB g_v g_b O2 P5 X00) hZ (ow60 hw) (ow42 hw) (by decide) (by decide)) e0 (Ins.self B0) (g := (mkF m 2 #[rv b, rv x] [(.ref x), (.ref b)])) rfl (by rw [hml]; rfl) (ow60 hw) (argsL := [(.ref x)]) (rest := []) (lenOf opd_10 rfl) rfl (by show 2 * 0 + _ ≤ _; exact Nat.le_of_eq rfl) (hb B.2 o132.1) (fun _ _ => ⟨rfl, e0, (by decide : 0 + 0 ≤ _), (by decide : 0 + 0 ≤ _)⟩)
  dsimp only [Pt.U, Pt.locs, Pt.cells, Pt.slots] at Y l101 y101 z101 st101 hQ101
  subst l101 y101 z101
  obtain ⟨rfl, N101q, K101q, P101_0, P101_1, P101_2, P101_3, P101_4, P101_5⟩ := hQ101
  have N101 := Fr.app N0 N101q
  refine Go.tr st101 ?_
  have K102 := K0.trans K101q (allS (Or.inl (List.mem_of_getElem? (i := 0) rfl)) (allS (Or.inl (List.mem_of_getElem? (i := 1) rfl)) all0))
  have O102 := X00.keep K101q (allS g_b (allS g_v all0))
  refine zpop Y B o133 rfl <| zalN Y B o134 rfl ?_
  exact zrR Y B hret rfl rfl rfl hlk o135 rfl ⟨rfl, N101, K102, P101_0, P101_1, P101_2, P101_3, P101_4, P101_5⟩ rfl rfl
def Q_asbl1 (Z : State)  (h0 : Heap) (n0 : Nat) : QT := fun rv hE LE => rv = some (.int 1) ∧ Fr n0 LE ∧ hE = h0
theorem rm_asbl1 (l : Launch) (Z : State) (a0 : Array Value) (hw : HW a0 Z) (ws : List Jvm.Cond) (b : Addr) (G1 : Int32) (h0 : Heap) (n0 : Nat) (Z0 : n0 ≤ h0.size) (B0 : Exa Z h0 b ss5) (B1 : Fld Z h0 b ss2 ss3 "B" (.int 0)) (O2 : Sta Z Z.heap ss0 ss8 "Z" (.int G1)) (P5 : ¬ (G1 = (0 : Int32))) (X00 : Old Z n0 h0) :
    MF l Z mn14 (Jvm.Cond.code mn14 cB14 1 (Option.some Jvm.ClassFile.FieldType.boolean)) ws Ro0 #[(.ref b)] h0 (Q_asbl1 Z  h0 n0) := by
  refine MF.of ss2 rfl #[rv b] (plainFor_of_name opn_3) (fun _ => rfl) ?_
  intro p e s m below meth c _ hZ hh B hml hret hlk hown hnm Y e0
  have N0 := Fr.nil n0
  refine zgs Y B hZ hown (ow45 hw) e0 (O2.ext X00.2) o136 fun _ Y e101 => ?_
  refine zN Y B o137 ((if0 _ _).trans (feq P5).1) ?_
  refine zalN Y B o138 rfl ?_
  refine zgf Y B hZ hown (ow48 hw) Via.refl e101 B1 o139 fun _ Y e102 => ?_
  refine zN Y B o140 (by decide) ?_
  refine zc1 Y B o141 <| zgo Y B j8 ?_
  exact zrN Y B (t := .boolean) hret (by simp) hlk o142 e102 ⟨rfl, N0, rfl⟩ rfl rfl
def Q_getval (Z : State) (v : Addr) (h0 : Heap) (n0 : Nat) : QT := fun rv hE LE => rv = some (.ref v) ∧ Fr n0 LE ∧ hE = h0
theorem rm_getval (l : Launch) (Z : State) (a0 : Array Value) (hw : HW a0 Z) (ws : List Jvm.Cond) (b v : Addr) (h0 : Heap) (n0 : Nat) (Z0 : n0 ≤ h0.size) (B0 : Exa Z h0 b ss5) (B2 : Fld Z h0 b ss2 ss4 "[B" (.ref v)) :
    MF l Z mn15 (Jvm.Cond.code mn15 cB15 1 (Option.some (Jvm.ClassFile.FieldType.array Jvm.ClassFile.FieldType.byte))) ws Ro0 #[(.ref b)] h0 (Q_getval Z v h0 n0) := by
  refine MF.of ss2 rfl #[rv b] (plainFor_of_name opn_3) (fun _ => rfl) ?_
  intro p e s m below meth c _ hZ hh B hml hret hlk hown hnm Y e0
  have N0 := Fr.nil n0
  refine zalN Y B o143 rfl ?_
  refine zgf Y B hZ hown (ow46 hw) Via.refl e0 B2 o144 fun _ Y e101 => ?_
  exact zrR Y B hret rfl rfl rfl hlk o145 e101 ⟨rfl, N0, rfl⟩ rfl rfl
def Q_asblen (Z : State) (z : Int32) (h0 : Heap) (n0 : Nat) : QT := fun rv hE LE => rv = some (.int z) ∧ Fr n0 LE ∧ hE = h0
theorem rm_asblen (l : Launch) (Z : State) (a0 : Array Value) (hw : HW a0 Z) (ws : List Jvm.Cond) (b : Addr) (z : Int32) (h0 : Heap) (n0 : Nat) (Z0 : n0 ≤ h0.size) (B0 : Exa Z h0 b ss5) (B3 : Fld Z h0 b ss2 ss9 "I" (.int z)) :
    MF l Z mn16 (Jvm.Cond.code mn16 cB16 1 (Option.some Jvm.ClassFile.FieldType.int)) ws Ro0 #[(.ref b)] h0 (Q_asblen Z z h0 n0) := by
  refine MF.of ss2 rfl #[rv b] (plainFor_of_name opn_3) (fun _ => rfl) ?_
  intro p e s m below meth c _ hZ hh B hml hret hlk hown hnm Y e0
  have N0 := Fr.nil n0
  refine zalN Y B o146 rfl ?_
  refine zgf Y B hZ hown (ow72 hw) Via.refl e0 B3 o147 fun _ Y e101 => ?_
  exact zrI Y B hret hlk o148 e101 ⟨rfl, N0, rfl⟩ rfl rfl
def Q_sblen (Z : State) (z : Int32) (h0 : Heap) (n0 : Nat) : QT := fun rv hE LE => rv = some (.int z) ∧ Fr n0 LE ∧ hE = h0
theorem rm_sblen (l : Launch) (Z : State) (a0 : Array Value) (hw : HW a0 Z) (ws : List Jvm.Cond) (b : Addr) (z : Int32) (h0 : Heap) (n0 : Nat) (Z0 : n0 ≤ h0.size) (B0 : Exa Z h0 b ss5) (B3 : Fld Z h0 b ss2 ss9 "I" (.int z)) :
    MF l Z mn17 (Jvm.Cond.code mn17 cB17 1 (Option.some Jvm.ClassFile.FieldType.int)) ws Ro10 #[(.ref b)] h0 (Q_sblen Z z h0 n0) := by
  refine MF.of ss5 rfl #[rv b] (plainFor_of_name opn_4) (fun _ => rfl) ?_
  intro p e s m below meth c _ hZ hh B hml hret hlk hown hnm Y e0
  have N0 := Fr.nil n0
  refine zalN Y B o149 rfl ?_
  obtain ⟨_, _, ⟨T101, L101, k101, n101⟩, -, Y, ⟨Lc101, hQ101, l101, y101, z101⟩, st101⟩ := superBack Y B.1 hZ (y := mn16) hown (ow146 hw) (own_same (ow142 hw) (ow77 hw) rfl (by decide)) (ow142 hw) (ow58 hw) (by decide) (backOf (W := 0) (rm_asblen l Z a0 hw [] b z h0 n0 (Nat.le_trans Z0 (Nat.le_refl _)) B0 B3) hZ (ow147 hw) (ow42 hw) (by decide) (by decide)) e0 (Ins.self B0) (g := (mkF m 1 #[rv b] [(.ref b)])) rfl (by rw [hml]; rfl) (ow147 hw) (argsL := []) (rest := []) (lenOf opd_7 rfl) rfl (by show 2 * 0 + _ ≤ _; exact Nat.le_of_eq rfl) (hb B.2 o150.1) (fun _ _ => ⟨rfl, e0, (by decide : 0 + 0 ≤ _), (by decide : 0 + 0 ≤ _)⟩)
  dsimp only [Pt.U, Pt.locs, Pt.cells, Pt.slots] at Y l101 y101 z101 st101 hQ101
  subst l101 y101 z101
  obtain ⟨rfl, N101q, e101⟩ := hQ101
  have N101 := Fr.app N0 N101q
  refine Go.tr st101 ?_
  exact zrI Y B hret hlk o151 e101 ⟨rfl, N101, rfl⟩ rfl rfl
def Q_mmax (Z : State) (a d : Nat) (h0 : Heap) (n0 : Nat) : QT := fun rv hE LE => rv = some (.int (Int32.ofNat (max a d))) ∧ Fr n0 LE ∧ hE = h0
theorem rm_mmax (l : Launch) (Z : State) (a0 : Array Value) (hw : HW a0 Z) (ws : List Jvm.Cond) (a d : Nat) (h0 : Heap) (n0 : Nat) (Z0 : n0 ≤ h0.size) (HA : a < 2 ^ 31) (HD : d < 2 ^ 31) :
    MF l Z mn18 (Jvm.Cond.code mn18 cB18 2 (Option.some Jvm.ClassFile.FieldType.int)) ws Ro0 #[(.int (Int32.ofNat a)), (.int (Int32.ofNat d))] h0 (Q_mmax Z a d h0 n0) := by
  refine MF.of "java/lang/Math" rfl #[iv (Int32.ofNat a), iv (Int32.ofNat d)] (by decide +kernel) (fun _ => rfl) ?_
  intro p e s m below meth c _ hZ hh B hml hret hlk hown hnm Y e0
  have N0 := Fr.nil n0
  refine zilN Y B o152 rfl <| zilN Y B o153 rfl ?_
  by_cases h1 : (Int32.ofNat a) < (Int32.ofNat d)
  · refine zCY Y B j9 (tlt h1).1 ?_
    refine zilN Y B o155 rfl ?_
    exact zrI Y B hret hlk o156 e0 ⟨(by rw [Nat.max_eq_right (Nat.le_of_lt ((lt_on HA HD).mp h1))]), N0, rfl⟩ rfl rfl
  · refine zCN Y B o154 (flt h1).1 ?_
    refine zilN Y B o157 rfl <| zgo Y B j10 ?_
    exact zrI Y B hret hlk o156 e0 ⟨(by rw [Nat.max_eq_left (Nat.le_of_not_lt fun q => h1 ((lt_on HA HD).mpr q))]), N0, rfl⟩ rfl rfl
def Q_mmin (Z : State) (a d : Nat) (h0 : Heap) (n0 : Nat) : QT := fun rv hE LE => rv = some (.int (Int32.ofNat (min a d))) ∧ Fr n0 LE ∧ hE = h0
theorem rm_mmin (l : Launch) (Z : State) (a0 : Array Value) (hw : HW a0 Z) (ws : List Jvm.Cond) (a d : Nat) (h0 : Heap) (n0 : Nat) (Z0 : n0 ≤ h0.size) (HA : a < 2 ^ 31) (HD : d < 2 ^ 31) :
    MF l Z mn19 (Jvm.Cond.code mn19 cB19 2 (Option.some Jvm.ClassFile.FieldType.int)) ws Ro0 #[(.int (Int32.ofNat a)), (.int (Int32.ofNat d))] h0 (Q_mmin Z a d h0 n0) := by
  refine MF.of "java/lang/Math" rfl #[iv (Int32.ofNat a), iv (Int32.ofNat d)] (by decide +kernel) (fun _ => rfl) ?_
  intro p e s m below meth c _ hZ hh B hml hret hlk hown hnm Y e0
  have N0 := Fr.nil n0
  refine zilN Y B o158 rfl <| zilN Y B o159 rfl ?_
  by_cases h1 : (Int32.ofNat d) < (Int32.ofNat a)
  · refine zCY Y B j11 (tlt h1).2.2.1 ?_
    refine zilN Y B o161 rfl ?_
    exact zrI Y B hret hlk o162 e0 ⟨(by rw [Nat.min_eq_right (Nat.le_of_lt ((lt_on HD HA).mp h1))]), N0, rfl⟩ rfl rfl
  · refine zCN Y B o160 (flt h1).2.2.1 ?_
    refine zilN Y B o163 rfl <| zgo Y B j12 ?_
    exact zrI Y B hret hlk o162 e0 ⟨(by rw [Nat.min_eq_left (Nat.le_of_not_lt fun q => h1 ((lt_on HD HA).mpr q))]), N0, rfl⟩ rfl rfl
def Q_newlen (Z : State) (o mi pr : Nat) (h0 : Heap) (n0 : Nat) : QT := fun rv hE LE => rv = some (.int (Int32.ofNat (o + max mi pr))) ∧ Fr n0 LE ∧ hE = h0
theorem rm_newlen (l : Launch) (Z : State) (a0 : Array Value) (hw : HW a0 Z) (ws : List Jvm.Cond) (o mi pr : Nat) (h0 : Heap) (n0 : Nat) (Z0 : n0 ≤ h0.size) (HB1 : o < 100000 ∧ mi < 100000 ∧ pr < 100000 ∧ 0 < pr) :
    MF l Z mn20 (Jvm.Cond.code mn20 cB20 4 (Option.some Jvm.ClassFile.FieldType.int)) ws Ro2 #[(.int (Int32.ofNat o)), (.int (Int32.ofNat mi)), (.int (Int32.ofNat pr))] h0 (Q_newlen Z o mi pr h0 n0) := by
  refine MF.of "jdk/internal/util/ArraysSupport" rfl #[iv (Int32.ofNat o), iv (Int32.ofNat mi), iv (Int32.ofNat pr), un] (plainFor_of_name opn_5) (fun _ => rfl) ?_
  intro p e s m below meth c _ hZ hh B hml hret hlk hown hnm Y e0
  have N0 := Fr.nil n0
  refine zilN Y B o164 rfl <| zilN Y B o165 rfl <| zilN Y B o166 rfl ?_
  refine zcs Y B hZ hown (ow88 hw) (ow89 hw) (ow90 hw) (ow91 hw) (by decide) (rm_mmax l Z a0 hw [] mi pr h0 n0 (Nat.le_trans Z0 (Nat.le_refl _)) (by omega) (by omega)) e0 hml opd_11 rfl o167 rfl rfl rfl rfl rfl fun _ T101 _ Y hQ => ?_
  obtain ⟨rfl, N101q, e101⟩ := hQ
  have N101 := Fr.app N0 N101q
  refine ziadd Y B o168 rfl ?_
  rw [show ((Int32.ofNat o) + (Int32.ofNat (max mi pr))) = (Int32.ofNat (o + max mi pr)) from (on_add _ _)]
  refine zisN Y B o169 (s3 rfl) <| zc0 Y B o170 <| zilN Y B o171 rfl ?_
  refine zCN Y B o172 (tlt (show (0 : Int32) < (Int32.ofNat (o + max mi pr)) from (on_lt (a := 0) (by omega) (by omega)))).2.1 ?_
  refine zilN Y B o173 rfl ?_
  refine Go.f2 (Y.ldcInt B.1 hown (mvT hZ (ow92 hw)) rfl (hb B.2 o174.1)) ?_
  refine zCN Y B o175 (flt (show ¬ ((2147483639 : Int32) < (Int32.ofNat (o + max mi pr))) from (fun q => absurd ((lt_on (a := 2147483639) (by decide) (by omega)).mp q) (by omega)))).2.2.1 ?_
  refine zilN Y B o176 rfl ?_
  exact zrI Y B hret hlk o177 e101 ⟨rfl, N101, rfl⟩ rfl rfl
def Q_newcap (Z : State) (cap mc : Nat) (h0 : Heap) (n0 : Nat) : QT := fun rv hE LE => rv = some (.int (Int32.ofNat (newCap cap mc))) ∧ Fr n0 LE ∧ hE = h0
theorem rm_newcap (l : Launch) (Z : State) (a0 : Array Value) (hw : HW a0 Z) (ws : List Jvm.Cond) (b v : Addr) (kv : ClassId) (cap : Nat) (cs : List Int32) (mc : Nat) (h0 : Heap) (n0 : Nat) (Z0 : n0 ≤ h0.size) (B0 : Exa Z h0 b ss5) (B1 : Fld Z h0 b ss2 ss3 "B" (.int 0)) (B2 : Fld Z h0 b ss2 ss4 "[B" (.ref v)) (B3 : Fld Z h0 b ss2 ss9 "I" (.int (Int32.ofNat cs.length))) (B4 : Arv Z h0 v kv .byte (Int32.ofNat cap) (B8 cs) (.int 0)) (B5 : Exa Z h0 v "[B") (HMC : cap < mc ∧ mc < 100000) (HNC : newCap cap mc ≤ 86) :
    MF l Z mn21 (Jvm.Cond.code mn21 cB21 6 (Option.some Jvm.ClassFile.FieldType.int)) ws Ro11 #[(.ref b), (.int (Int32.ofNat mc))] h0 (Q_newcap Z cap mc h0 n0) := by
  refine MF.of ss2 rfl #[rv b, iv (Int32.ofNat mc), un, un, un, un] (plainFor_of_name opn_3) (fun _ => rfl) ?_
  intro p e s m below meth c _ hZ hh B hml hret hlk hown hnm Y e0
  have N0 := Fr.nil n0
  refine zalN Y B o178 rfl ?_
  refine zgf Y B hZ hown (ow46 hw) Via.refl e0 B2 o179 fun _ Y e101 => ?_
  refine zln Y B hZ e101 B4 o180 ?_
  refine zisN Y B o181 (s2 rfl) <| zilN Y B o182 rfl <| zalN Y B o183 rfl ?_
  refine zgf Y B hZ hown (ow48 hw) Via.refl e101 B1 o184 fun _ Y e103 => ?_
  refine zishl Y B o185 rfl ?_
  rw [shl0 (Int32.ofNat mc)]
  refine zisN Y B o186 (s3 rfl) <| zilN Y B o187 rfl <| zilN Y B o188 rfl <| zisub Y B o189 rfl ?_
  rw [show ((Int32.ofNat mc) - (Int32.ofNat cap)) = (Int32.ofNat (mc - cap)) from (on_sub (by omega) (by omega))]
  refine zis Y B o190 (s4 rfl) <| zilN Y B o191 rfl <| zil Y B o192 rfl <| zilN Y B o193 rfl <| zc2 Y B o194 <| zalN Y B o195 rfl ?_
  refine zgf Y B hZ hown (ow48 hw) Via.refl e103 B1 o196 fun _ Y e104 => ?_
  refine zishl Y B o197 (v := 2) rfl <| ziadd Y B o198 rfl ?_
  rw [show ((Int32.ofNat cap) + (2 : Int32)) = (Int32.ofNat (cap + 2)) from (on_add _ 2)]
  refine zcs Y B hZ hown (ow84 hw) (ow85 hw) (ow86 hw) (ow87 hw) (by decide) (rm_newlen l Z a0 hw [] cap (mc - cap) (cap + 2) h0 n0 (Nat.le_trans Z0 (Nat.le_refl _)) (by unfold newCap at HNC; omega)) e104 hml opd_12 rfl o199 rfl rfl rfl rfl rfl fun _ T105 _ Y hQ => ?_
  obtain ⟨rfl, N105q, e105⟩ := hQ
  have N105 := Fr.app N0 N105q
  refine zis Y B o200 (s5 rfl) <| zil Y B o201 rfl ?_
  refine Go.f2 (Y.ldcInt B.1 hown (mvT hZ (ow93 hw)) rfl (hb B.2 o202.1)) ?_
  refine zCY Y B j13 (feq (show ¬ ((Int32.ofNat (cap + max (mc - cap) (cap + 2))) = (2147483647 : Int32)) from (fun q => by have := congrArg Int32.toInt q; rw [on_int (by unfold newCap at HNC; omega)] at this; have e : (2147483647 : Int32).toInt = 2147483647 := rfl; unfold newCap at HNC; omega))).2 ?_
  refine zil Y B o203 rfl <| zalN Y B o204 rfl ?_
  refine zgf Y B hZ hown (ow48 hw) Via.refl e105 B1 o205 fun _ Y e106 => ?_
  refine zishr Y B o206 rfl ?_
  rw [shr0 (Int32.ofNat (cap + max (mc - cap) (cap + 2)))]
  exact zrI Y B hret hlk o207 e106 ⟨rfl, N105, rfl⟩ rfl rfl
def Q_copyof (Z : State) (cs : List Int32) (nc : Nat) (h0 : Heap) (n0 : Nat) : QT := fun rv hE LE => ∃ t : Addr, ∃ kt : ClassId, rv = some (.ref t) ∧ Fr n0 LE ∧ Keep h0 hE [] ∧ (h0.size ≤ t) ∧ (Exa Z hE t "[B") ∧ (Arv Z hE t kt .byte (Int32.ofNat nc) (B8 cs) (.int 0))
theorem rm_copyof (l : Launch) (Z : State) (a0 : Array Value) (hw : HW a0 Z) (ws : List Jvm.Cond) (v : Addr) (kv : ClassId) (cap : Nat) (cs : List Int32) (nc : Nat) (h0 : Heap) (n0 : Nat) (Z0 : n0 ≤ h0.size) (B4 : Arv Z h0 v kv .byte (Int32.ofNat cap) (B8 cs) (.int 0)) (HCS : cs.length ≤ cap) (HNC : nc ≤ 86) (HLT : cap < nc) :
    MF l Z mn22 (Jvm.Cond.code mn22 cB22 3 (Option.some (Jvm.ClassFile.FieldType.array Jvm.ClassFile.FieldType.byte))) ws Ro12 #[(.ref v), (.int (Int32.ofNat nc))] h0 (Q_copyof Z cs nc h0 n0) := by
  refine MF.of ss23 rfl #[rv v, iv (Int32.ofNat nc), un] (plainFor_of_name opn_6) (fun _ => rfl) ?_
  intro p e s m below meth c _ hZ hh B hml hret hlk hown hnm Y e0
  have N0 := Fr.nil n0
  have K0 := Keep.refl h0 []
  refine zilN Y B o208 rfl <| zalN Y B o209 rfl ?_
  refine zln Y B hZ e0 B4 o210 ?_
  refine zCY Y B j14 (feq (show ¬ ((Int32.ofNat nc) = (Int32.ofNat cap)) from (fun q => absurd ((eq_on (by omega) (by omega)).mp q) (by omega)))).2 ?_
  refine zilN Y B o211 rfl ?_
  refine znq Y B hZ (aty := .byte) (ow19 hw) e0 o212 (on_pos (by omega)) (cap := 86) (by rw [on_nat (by omega)]; exact HNC) rfl rfl rfl (ad := "[B") (by decide +kernel) fun T102 h102 k102 b102 g102 Y e102 E102 A102 B102 => ?_
  have K103 := K0.ext E102
  refine zasN Y B o213 (s2 rfl) rfl <| zalN Y B o214 rfl <| zc0 Y B o215 <| zalN Y B o216 rfl <| zc0 Y B o217 <| zalN Y B o218 rfl ?_
  have F105 := (B4.ext E102)
  refine zln Y B hZ e102 F105 o219 ?_
  refine zilN Y B o220 rfl ?_
  refine zcs Y B hZ hown (ow98 hw) (ow99 hw) (ow90 hw) (ow100 hw) (by decide) (rm_mmin l Z a0 hw [] cap nc h102 n0 (Nat.le_trans Z0 K103.1) (by omega) (by omega)) e102 hml opd_11 rfl o221 rfl rfl rfl rfl rfl fun _ T106 _ Y hQ => ?_
  obtain ⟨rfl, N106q, e106⟩ := hQ
  have N106 := Fr.app N0 N106q
  obtain ⟨T107, h107, L107, Y, e107, N107, K107, A107, st107⟩ := own_cpy Y B.1 hZ hown (ow101 hw) (ow104 hw) (ow102 hw) (ow103 hw) e106 (cs := cs) (es := ([] : List Int32)) (ca := cap) (cb := nc) (n := cap) F105 (Arv.new A102 (on_pos (by omega))) (by rw [Nat.min_eq_left (by omega)]) rfl HCS (Nat.le_refl _) (by show 0 + cap ≤ nc; omega) (by omega) (by omega) N106 (Nat.le_trans (Nat.le_trans Z0 (Nat.le_refl _)) (Nat.le_of_eq g102.symm)) (g := (mkF m 28 #[rv v, iv (Int32.ofNat nc), rv b102] [(.int (Int32.ofNat (min cap nc))), (.int 0), (.ref b102), (.int 0), (.ref v)])) rfl (by rw [hml]; rfl) rfl (hb B.2 o222.1) (by decide) (W := 0) (by show 2 * 0 + _ ≤ _; exact Nat.le_of_eq rfl) (by decide)
  refine Go.by st107 ?_
  have K108 := K103.trans K107 (allS (Or.inr (Nat.le_trans (Nat.le_refl _) (Nat.le_of_eq g102.symm))) all0)
  show Go p e below _ _ (mkF m 31 #[rv v, iv (Int32.ofNat nc), rv b102] [])
  refine zalN Y B o223 rfl ?_
  have F109 := (B102.keep K107)
  exact zrR Y B hret rfl rfl rfl hlk o224 e107 ⟨b102, k102, rfl, N107, K108, (Nat.le_trans (Nat.le_refl _) (Nat.le_of_eq g102.symm)), F109, A107⟩ rfl rfl
def Q_ens1 (Z : State) (b : Addr) (cap : Nat) (cs : List Int32) (mc : Nat) (h0 : Heap) (n0 : Nat) : QT := fun rv hE LE => ∃ t : Addr, ∃ kt : ClassId, rv = none ∧ Fr n0 LE ∧ Keep h0 hE [b] ∧ (h0.size ≤ t) ∧ (Exa Z hE b ss5) ∧ (Fld Z hE b ss2 ss3 "B" (.int 0)) ∧ (Fld Z hE b ss2 ss4 "[B" (.ref t)) ∧ (Fld Z hE b ss2 ss9 "I" (.int (Int32.ofNat cs.length))) ∧ (Arv Z hE t kt .byte (Int32.ofNat (newCap cap mc)) (B8 cs) (.int 0)) ∧ (Exa Z hE t "[B")
theorem rm_ens1 (l : Launch) (Z : State) (a0 : Array Value) (hw : HW a0 Z) (ws : List Jvm.Cond) (b v : Addr) (kv : ClassId) (cap : Nat) (cs : List Int32) (mc : Nat) (h0 : Heap) (n0 : Nat) (Z0 : n0 ≤ h0.size) (B0 : Exa Z h0 b ss5) (B1 : Fld Z h0 b ss2 ss3 "B" (.int 0)) (B2 : Fld Z h0 b ss2 ss4 "[B" (.ref v)) (B3 : Fld Z h0 b ss2 ss9 "I" (.int (Int32.ofNat cs.length))) (B4 : Arv Z h0 v kv .byte (Int32.ofNat cap) (B8 cs) (.int 0)) (B5 : Exa Z h0 v "[B") (HMC : cap < mc ∧ mc < 100000) (HNC : newCap cap mc ≤ 86) (HCS : cs.length ≤ cap) (g_b : n0 ≤ b) :
    MF l Z mn8 (Jvm.Cond.code mn8 cB8 3 (Option.none : Option Jvm.ClassFile.FieldType)) ws Ro13 #[(.ref b), (.int (Int32.ofNat mc))] h0 (Q_ens1 Z b cap cs mc h0 n0) := by
  refine MF.of ss2 rfl #[rv b, iv (Int32.ofNat mc), un] (plainFor_of_name opn_3) (fun _ => rfl) ?_
  intro p e s m below meth c _ hZ hh B hml hret hlk hown hnm Y e0
  have N0 := Fr.nil n0
  have K0 := Keep.refl h0 [b]
  refine zalN Y B o62 rfl ?_
  refine zgf Y B hZ hown (ow46 hw) Via.refl e0 B2 o63 fun _ Y e101 => ?_
  refine zln Y B hZ e101 B4 o64 ?_
  refine zalN Y B o65 rfl ?_
  refine zgf Y B hZ hown (ow48 hw) Via.refl e101 B1 o66 fun _ Y e103 => ?_
  refine zishr Y B o67 rfl ?_
  rw [shr0 (Int32.ofNat cap)]
  refine zisN Y B o68 (s2 rfl) <| zilN Y B o69 rfl <| zilN Y B o70 rfl <| zisub Y B o71 rfl ?_
  rw [show ((Int32.ofNat mc) - (Int32.ofNat cap)) = (Int32.ofNat (mc - cap)) from (on_sub (by omega) (by omega))]
  refine zN Y B o225 ((if0 _ _).trans (tlt (show (0 : Int32) < (Int32.ofNat (mc - cap)) from (on_lt (a := 0) (by omega) (by omega)))).2.2.2) ?_
  refine zalN Y B o226 rfl <| zalN Y B o227 rfl ?_
  refine zgf Y B hZ hown (ow46 hw) Via.refl e103 B2 o228 fun _ Y e104 => ?_
  refine zalN Y B o229 rfl <| zilN Y B o230 rfl ?_
  refine zcp Y B hZ hown (ow79 hw) (ow80 hw) (own_selp (ow80 hw) (ow81 hw) (ow82 hw) (by decide)) (ow81 hw) (ow42 hw) (ow83 hw) (by decide) B0 (rm_newcap l Z a0 hw [] b v kv cap cs mc h0 n0 (Nat.le_trans Z0 (Nat.le_refl _)) B0 B1 B2 B3 B4 B5 HMC HNC) e104 hml opd_13 rfl o231 rfl rfl rfl rfl rfl fun _ T105 _ Y hQ => ?_
  obtain ⟨rfl, N105q, e105⟩ := hQ
  have N105 := Fr.app N0 N105q
  refine zalN Y B o232 rfl ?_
  refine zgf Y B hZ hown (ow48 hw) Via.refl e105 B1 o233 fun _ Y e106 => ?_
  refine zishl Y B o234 rfl ?_
  rw [shl0 (Int32.ofNat (newCap cap mc))]
  refine zcs Y B hZ hown (ow94 hw) (ow95 hw) (ow96 hw) (ow97 hw) (by decide) (rm_copyof l Z a0 hw [] v kv cap cs (newCap cap mc) h0 n0 (Nat.le_trans Z0 (Nat.le_refl _)) B4 HCS HNC (by unfold newCap; omega)) e106 hml opd_14 rfl o235 rfl rfl rfl rfl rfl fun _ T107 _ Y hQ => ?_
  obtain ⟨t_107, kt_107, rfl, N107q, K107q, P107_0, P107_1, P107_2⟩ := hQ
  have N107 := Fr.app N105 N107q
  have K108 := K0.trans K107q all0
  have F110 := (B2.keep K107q nin0)
  have F111 := (B0.keep K107q)
  refine Go.b3 (putF Y B.1 hZ hown (host := "") (Or.inl (ow46 hw)) Via.refl rfl F110 F111 (Or.inl (ow47 hw)) (ow33 hw) (ty := (.array .byte)) (by decide) rfl rfl rfl rfl (hb B.2 o236.1)) fun T109 h109 Y e109 W109 => ?_
  have N109 := Fr.snoc Y N107 g_b
  have K112 := K108.wr W109 (Or.inl (List.mem_of_getElem? (i := 0) rfl))
  have F113 := (F111.wr W109)
  have F114 := ((B1.keep K107q nin0).other W109 (Or.inr (slot_ne (Or.inl (ow49 hw)) (Or.inl (ow47 hw)) (by decide) (t := .byte) (t' := (.array .byte)) (by decide) (by decide))))
  have F115 := ((B3.keep K107q nin0).other W109 (Or.inr (slot_ne (Or.inl (ow73 hw)) (Or.inl (ow47 hw)) (by decide) (t := .int) (t' := (.array .byte)) (by decide) (by decide))))
  have F116 := (P107_2.other W109 (Ne.symm (Nat.ne_of_lt (Nat.lt_of_lt_of_le B0.lt P107_0))))
  have F117 := (P107_1.wr W109)
  exact zr0 Y B hret hlk o72 e109 ⟨t_107, kt_107, rfl, N109, K112, (Nat.le_trans (Nat.le_refl _) P107_0), F113, F114, (F110.same W109), F115, F116, F117⟩ rfl rfl
def Q_asbappS1 (Z : State) (b : Addr) (cap : Nat) (cs ds : List Int32) (h0 : Heap) (n0 : Nat) : QT := fun rv hE LE => ∃ tn : Addr, ∃ kn : ClassId, rv = some (.ref b) ∧ Fr n0 LE ∧ Keep h0 hE [b] ∧ (h0.size ≤ tn) ∧ (Exa Z hE b ss5) ∧ (Fld Z hE b ss2 ss3 "B" (.int 0)) ∧ (Fld Z hE b ss2 ss4 "[B" (.ref tn)) ∧ (Fld Z hE b ss2 ss9 "I" (.int (Int32.ofNat (cs ++ ds).length))) ∧ (Arv Z hE tn kn .byte (Int32.ofNat (newCap cap (cs.length + ds.length))) (B8 (cs ++ ds)) (.int 0)) ∧ (Exa Z hE tn "[B")
theorem rm_asbappS1 (l : Launch) (Z : State) (a0 : Array Value) (hw : HW a0 Z) (ws : List Jvm.Cond) (b v : Addr) (kv : ClassId) (cap : Nat) (cs : List Int32) (x t : Addr) (kt : ClassId) (ds : List Int32) (G1 : Int32) (h0 : Heap) (n0 : Nat) (Z0 : n0 ≤ h0.size) (B0 : Exa Z h0 b ss5) (B1 : Fld Z h0 b ss2 ss3 "B" (.int 0)) (B2 : Fld Z h0 b ss2 ss4 "[B" (.ref v)) (B3 : Fld Z h0 b ss2 ss9 "I" (.int (Int32.ofNat cs.length))) (B4 : Arv Z h0 v kv .byte (Int32.ofNat cap) (B8 cs) (.int 0)) (B5 : Exa Z h0 v "[B") (S0 : Exa Z h0 x ss0) (S1 : Fld Z h0 x ss0 ss3 "B" (.int 0)) (S2 : Fld Z h0 x ss0 ss4 "[B" (.ref t)) (S3 : Arv Z h0 t kt .byte (Int32.ofNat ds.length) (B8 ds) (.int 0)) (HMC : cap < (cs.length + ds.length) ∧ (cs.length + ds.length) < 100000) (HNC : (newCap cap (cs.length + ds.length)) ≤ 86) (HCS : cs.length ≤ cap) (g_b : n0 ≤ b) (O2 : Sta Z Z.heap ss0 ss8 "Z" (.int G1)) (P5 : ¬ (G1 = (0 : Int32))) (X00 : Old Z n0 h0) :
    MF l Z mn12 (Jvm.Cond.code mn12 cB12 3 (Option.some (Jvm.ClassFile.FieldType.object ss2))) ws Ro14 #[(.ref b), (.ref x)] h0 (Q_asbappS1 Z b cap cs ds h0 n0) := by
  refine MF.of ss2 rfl #[rv b, rv x, un] (plainFor_of_name opn_3) (fun _ => rfl) ?_
  intro p e s m below meth c _ hZ hh B hml hret hlk hown hnm Y e0
  have N0 := Fr.nil n0
  have K0 := Keep.refl h0 [b]
  refine zalN Y B o107 rfl <| znnY Y B j7 <| zalN Y B o108 rfl ?_
  refine zcv Y B hZ hown (ow61 hw) (ow62 hw) (notFace_of_selects (args := #[]) (mvT hZ (ow64 hw))) (ow64 hw) (ow63 hw) (ow6 hw) (ow65 hw) (by decide) S0 (rm_slen l Z a0 hw [] x t kt ds G1 h0 n0 (Nat.le_trans Z0 (Nat.le_refl _)) S0 S1 S2 S3 O2 P5 X00) e0 hml opd_7 rfl o109 rfl rfl rfl rfl rfl fun _ T101 _ Y hQ => ?_
  obtain ⟨rfl, N101q, e101⟩ := hQ
  have N101 := Fr.app N0 N101q
  refine zisN Y B o110 (s2 rfl) <| zalN Y B o111 rfl <| zalN Y B o112 rfl ?_
  refine zgf Y B hZ hown (ow72 hw) Via.refl e101 B3 o113 fun _ Y e102 => ?_
  refine zilN Y B o114 rfl <| ziadd Y B o115 rfl ?_
  rw [show ((Int32.ofNat cs.length) + (Int32.ofNat ds.length)) = (Int32.ofNat (cs.length + ds.length)) from (on_add _ _)]
  refine zcp Y B hZ hown (ow74 hw) (ow75 hw) (own_selp (ow75 hw) (ow76 hw) (ow77 hw) (by decide)) (ow76 hw) (ow42 hw) (ow78 hw) (by decide) B0 (rm_ens1 l Z a0 hw [] b v kv cap cs (cs.length + ds.length) h0 n0 (Nat.le_trans Z0 (Nat.le_refl _)) B0 B1 B2 B3 B4 B5 HMC HNC HCS g_b) e102 hml opd_8 rfl o116 rfl rfl rfl rfl rfl fun _ T103 _ Y hQ => ?_
  obtain ⟨t_103, kt_103, rfl, N103q, K103q, P103_0, P103_1, P103_2, P103_3, P103_4, P103_5, P103_6⟩ := hQ
  have N103 := Fr.app N101 N103q
  have K104 := K0.trans K103q (allS (Or.inl (List.mem_of_getElem? (i := 0) rfl)) all0)
  have O104 := X00.keep K103q (allS g_b all0)
  refine zalN Y B o117 rfl <| zalN Y B o118 rfl ?_
  refine zgf Y B hZ hown (ow72 hw) Via.refl rfl P103_4 o119 fun _ Y e105 => ?_
  refine zalN Y B o120 rfl ?_
  have F107 := (S0.keep K103q)
  have F108 := (S1.keep K103q (ninS (ne_exa S0 B0 (by decide)) nin0))
  have F109 := (S2.keep K103q (ninS (ne_exa S0 B0 (by decide)) nin0))
  have F110 := (S3.keep K103q (ninS (Ne.symm (ne_arv B0 (ow33 hw) S3)) nin0))
  refine zcp Y B hZ hown (ow105 hw) (ow106 hw) (own_selp (ow106 hw) (ow107 hw) (ow108 hw) (by decide)) (ow107 hw) (ow42 hw) (ow109 hw) (by decide) P103_1 (rm_putstr l Z a0 hw [] b t_103 kt_103 (newCap cap (cs.length + ds.length)) cs x t kt ds G1 T103.heap n0 (Nat.le_trans Z0 K104.1) P103_1 P103_2 P103_3 P103_4 P103_5 P103_6 F107 F108 F109 F110 (by unfold newCap; omega) (by omega) ((Nat.le_trans (Nat.le_trans Z0 (Nat.le_refl _)) P103_0)) O2 P5 O104) e105 hml opd_9 rfl o121 rfl rfl rfl rfl rfl fun _ T106 _ Y hQ => ?_
  obtain ⟨rfl, N106q, K106q, P106_0⟩ := hQ
  have N106 := Fr.app N103 N106q
  have K111 := K104.trans K106q (allS (Or.inr (Nat.le_trans (Nat.le_refl _) P103_0)) all0)
  have O111 := O104.keep K106q (allS (Nat.le_trans (Nat.le_trans Z0 (Nat.le_refl _)) P103_0) all0)
  refine zalN Y B o122 rfl <| zdup Y B o123 rfl ?_
  have F113 := (P103_4.keep K106q (ninS (Nat.ne_of_lt (Nat.lt_of_lt_of_le B0.lt P103_0)) nin0))
  refine zgf Y B hZ hown (ow72 hw) Via.refl rfl F113 o124 fun _ Y e112 => ?_
  refine zilN Y B o125 rfl <| ziadd Y B o126 rfl ?_
  rw [show ((Int32.ofNat cs.length) + (Int32.ofNat ds.length)) = (Int32.ofNat (cs ++ ds).length) from (by rw [on_add, List.length_append])]
  have F115 := (P103_1.keep K106q)
  refine Go.b3 (putF Y B.1 hZ hown (host := "") (Or.inl (ow72 hw)) Via.refl e112 F113 F115 (Or.inl (ow73 hw)) (ow33 hw) (ty := .int) (by decide) rfl rfl rfl rfl (hb B.2 o127.1)) fun T114 h114 Y e114 W114 => ?_
  have N114 := Fr.snoc Y N106 g_b
  have K116 := K111.wr W114 (Or.inl (List.mem_of_getElem? (i := 0) rfl))
  have O116 := O111.wr W114 g_b
  refine zalN Y B o128 rfl ?_
  have F117 := (F115.wr W114)
  have F118 := ((P103_2.keep K106q (ninS (Nat.ne_of_lt (Nat.lt_of_lt_of_le B0.lt P103_0)) nin0)).other W114 (Or.inr (slot_ne (Or.inl (ow49 hw)) (Or.inl (ow73 hw)) (by decide) (t := .byte) (t' := .int) (by decide) (by decide))))
  have F119 := ((P103_3.keep K106q (ninS (Nat.ne_of_lt (Nat.lt_of_lt_of_le B0.lt P103_0)) nin0)).other W114 (Or.inr (slot_ne (Or.inl (ow47 hw)) (Or.inl (ow73 hw)) (by decide) (t := (.array .byte)) (t' := .int) (by decide) (by decide))))
  have F120 := (P106_0.other W114 (Ne.symm (Nat.ne_of_lt (Nat.lt_of_lt_of_le B0.lt P103_0))))
  have F121 := ((P103_6.keep K106q).wr W114)
  exact zrR Y B hret rfl rfl rfl hlk o129 e114 ⟨t_103, kt_103, rfl, N114, K116, (Nat.le_trans (Nat.le_refl _) P103_0), F117, F118, F119, (F113.same W114), F120, F121⟩ rfl rfl
def Q_sbappS1 (Z : State) (b : Addr) (cap : Nat) (cs ds : List Int32) (h0 : Heap) (n0 : Nat) : QT := fun rv hE LE => ∃ tn : Addr, ∃ kn : ClassId, rv = some (.ref b) ∧ Fr n0 LE ∧ Keep h0 hE [b] ∧ (h0.size ≤ tn) ∧ (Exa Z hE b ss5) ∧ (Fld Z hE b ss2 ss3 "B" (.int 0)) ∧ (Fld Z hE b ss2 ss4 "[B" (.ref tn)) ∧ (Fld Z hE b ss2 ss9 "I" (.int (Int32.ofNat (cs ++ ds).length))) ∧ (Arv Z hE tn kn .byte (Int32.ofNat (newCap cap (cs.length + ds.length))) (B8 (cs ++ ds)) (.int 0)) ∧ (Exa Z hE tn "[B")
theorem rm_sbappS1 (l : Launch) (Z : State) (a0 : Array Value) (hw : HW a0 Z) (ws : List Jvm.Cond) (b v : Addr) (kv : ClassId) (cap : Nat) (cs : List Int32) (x t : Addr) (kt : ClassId) (ds : List Int32) (G1 : Int32) (h0 : Heap) (n0 : Nat) (Z0 : n0 ≤ h0.size) (B0 : Exa Z h0 b ss5) (B1 : Fld Z h0 b ss2 ss3 "B" (.int 0)) (B2 : Fld Z h0 b ss2 ss4 "[B" (.ref v)) (B3 : Fld Z h0 b ss2 ss9 "I" (.int (Int32.ofNat cs.length))) (B4 : Arv Z h0 v kv .byte (Int32.ofNat cap) (B8 cs) (.int 0)) (B5 : Exa Z h0 v "[B") (S0 : Exa Z h0 x ss0) (S1 : Fld Z h0 x ss0 ss3 "B" (.int 0)) (S2 : Fld Z h0 x ss0 ss4 "[B" (.ref t)) (S3 : Arv Z h0 t kt .byte (Int32.ofNat ds.length) (B8 ds) (.int 0)) (HMC : cap < (cs.length + ds.length) ∧ (cs.length + ds.length) < 100000) (HNC : (newCap cap (cs.length + ds.length)) ≤ 86) (HCS : cs.length ≤ cap) (g_b : n0 ≤ b) (O2 : Sta Z Z.heap ss0 ss8 "Z" (.int G1)) (P5 : ¬ (G1 = (0 : Int32))) (X00 : Old Z n0 h0) :
    MF l Z mn13 (Jvm.Cond.code mn13 cB13 2 (Option.some (Jvm.ClassFile.FieldType.object ss5))) ws Ro15 #[(.ref b), (.ref x)] h0 (Q_sbappS1 Z b cap cs ds h0 n0) := by
  refine MF.of ss5 rfl #[rv b, rv x] (plainFor_of_name opn_4) (fun _ => rfl) ?_
  intro p e s m below meth c _ hZ hh B hml hret hlk hown hnm Y e0
  have N0 := Fr.nil n0
  have K0 := Keep.refl h0 [b]
  refine zalN Y B o130 rfl <| zalN Y B o131 rfl ?_
  obtain ⟨_, _, ⟨T101, L101, k101, n101⟩, -, Y, ⟨Lc101, hQ101, l101, y101, z101⟩, st101⟩ := superBack Y B.1 hZ (y := mn12) hown (ow56 hw) (own_same (ow57 hw) (ow77 hw) rfl (by decide)) (ow57 hw) (ow58 hw) (by decide) (backOf (W := 0) (rm_asbappS1 l Z a0 hw [] b v kv cap cs x t kt ds G1 h0 n0 (Nat.le_trans Z0 (Nat.le_refl _)) B0 B1 B2 B3 B4 B5 S0 S1 S2 S3 HMC HNC HCS g_b O2 P5 X00) hZ (ow60 hw) (ow42 hw) (by decide) (by decide)) e0 (Ins.self B0) (g := (mkF m 2 #[rv b, rv x] [(.ref x), (.ref b)])) rfl (by rw [hml]; rfl) (ow60 hw) (argsL := [(.ref x)]) (rest := []) (lenOf opd_10 rfl) rfl (by show 2 * 0 + _ ≤ _; exact Nat.le_of_eq rfl) (hb B.2 o132.1) (fun _ _ => ⟨rfl, e0, (by decide : 0 + 1 ≤ _), (by decide : 0 + 86 ≤ _)⟩)
  dsimp only [Pt.U, Pt.locs, Pt.cells, Pt.slots] at Y l101 y101 z101 st101 hQ101
  subst l101 y101 z101
  obtain ⟨tn_101, kn_101, rfl, N101q, K101q, P101_0, P101_1, P101_2, P101_3, P101_4, P101_5, P101_6⟩ := hQ101
  have N101 := Fr.app N0 N101q
  refine Go.tr st101 ?_
  have K102 := K0.trans K101q (allS (Or.inl (List.mem_of_getElem? (i := 0) rfl)) all0)
  have O102 := X00.keep K101q (allS g_b all0)
  refine zpop Y B o133 rfl <| zalN Y B o134 rfl ?_
  exact zrR Y B hret rfl rfl rfl hlk o135 rfl ⟨tn_101, kn_101, rfl, N101, K102, (Nat.le_trans (Nat.le_refl _) P101_0), P101_1, P101_2, P101_3, P101_4, P101_5, P101_6⟩ rfl rfl
def Q_sbinit0 (Z : State) (b : Addr) (h0 : Heap) (n0 : Nat) : QT := fun rv hE LE => ∃ v : Addr, ∃ kv : ClassId, rv = none ∧ Fr n0 LE ∧ Keep h0 hE [b] ∧ (h0.size ≤ v) ∧ (Exa Z hE b ss5) ∧ (Fld Z hE b ss2 ss3 "B" (.int 0)) ∧ (Fld Z hE b ss2 ss4 "[B" (.ref v)) ∧ (Fld Z hE b ss2 ss9 "I" (.int (Int32.ofNat ([] : List Int32).length))) ∧ (Arv Z hE v kv .byte (Int32.ofNat 16) (B8 ([] : List Int32)) (.int 0)) ∧ (Exa Z hE v "[B")
theorem rm_sbinit0 (l : Launch) (Z : State) (a0 : Array Value) (hw : HW a0 Z) (ws : List Jvm.Cond) (b : Addr) (G1 : Int32) (h0 : Heap) (n0 : Nat) (Z0 : n0 ≤ h0.size) (B0 : Exa Z h0 b ss5) (B1 : Fld Z h0 b ss2 ss3 "B" (.int 0)) (B2 : Fld Z h0 b ss2 ss4 "[B" .null) (B3 : Fld Z h0 b ss2 ss9 "I" (.int 0)) (g_b : n0 ≤ b) (O2 : Sta Z Z.heap ss0 ss8 "Z" (.int G1)) (P5 : ¬ (G1 = (0 : Int32))) (X00 : Old Z n0 h0) :
    MF l Z mn23 (Jvm.Cond.code mn23 cB23 1 (Option.none : Option Jvm.ClassFile.FieldType)) ws Ro16 #[(.ref b)] h0 (Q_sbinit0 Z b h0 n0) := by
  refine MF.of ss5 rfl #[rv b] (plainFor_of_name opn_4) (fun _ => rfl) ?_
  intro p e s m below meth c _ hZ hh B hml hret hlk hown hnm Y e0
  have N0 := Fr.nil n0
  have K0 := Keep.refl h0 [b]
  refine zalN Y B o237 rfl <| zbp Y B o238 (v := 16) rfl ?_
  refine zci Y B hZ rfl hown (ow38 hw) (ow39 hw) (ow42 hw) (ow43 hw) (by decide) (rm_asbinit l Z a0 hw [] b 16 G1 h0 n0 (Nat.le_trans Z0 (Nat.le_refl _)) B0 B1 B2 B3 g_b (by decide) O2 P5 X00) e0 hml opd_8 rfl o239 rfl rfl rfl rfl rfl fun _ T101 _ Y hQ => ?_
  obtain ⟨v_101, kv_101, rfl, N101q, K101q, P101_0, P101_1, P101_2, P101_3, P101_4, P101_5, P101_6⟩ := hQ
  have N101 := Fr.app N0 N101q
  have K102 := K0.trans K101q (allS (Or.inl (List.mem_of_getElem? (i := 0) rfl)) all0)
  have O102 := X00.keep K101q (allS g_b all0)
  exact zr0 Y B hret hlk o240 rfl ⟨v_101, kv_101, rfl, N101, K102, (Nat.le_trans (Nat.le_refl _) P101_0), P101_1, P101_2, P101_3, P101_4, P101_5, P101_6⟩ rfl rfl
def Q_chklen (Z : State)  (h0 : Heap) (n0 : Nat) : QT := fun rv hE LE => rv = none ∧ Fr n0 LE ∧ hE = h0
theorem rm_chklen (l : Launch) (Z : State) (a0 : Array Value) (hw : HW a0 Z) (ws : List Jvm.Cond) (j : Nat) (h0 : Heap) (n0 : Nat) (Z0 : n0 ≤ h0.size) (HB : j < 2 ^ 31) :
    MF l Z mn24 (Jvm.Cond.code mn24 cB24 2 (Option.none : Option Jvm.ClassFile.FieldType)) ws Ro0 #[(.int 0), (.int (Int32.ofNat j))] h0 (Q_chklen Z  h0 n0) := by
  refine MF.of ss23 rfl #[iv 0, iv (Int32.ofNat j)] (plainFor_of_name opn_6) (fun _ => rfl) ?_
  intro p e s m below meth c _ hZ hh B hml hret hlk hown hnm Y e0
  have N0 := Fr.nil n0
  refine zilN Y B o241 rfl <| zilN Y B o242 rfl ?_
  refine zCY Y B j15 (flt (show ¬ ((Int32.ofNat j) < (0 : Int32)) from (on_pos HB))).2.1 ?_
  exact zr0 Y B hret hlk o243 e0 ⟨rfl, N0, rfl⟩ rfl rfl
def Q_corb (Z : State) (cs : List Int32) (h0 : Heap) (n0 : Nat) : QT := fun rv hE LE => ∃ t : Addr, ∃ kt : ClassId, rv = some (.ref t) ∧ Fr n0 LE ∧ Keep h0 hE [] ∧ (h0.size ≤ t) ∧ (Arv Z hE t kt .byte (Int32.ofNat cs.length) (B8 cs) (.int 0))
theorem rm_corb (l : Launch) (Z : State) (a0 : Array Value) (hw : HW a0 Z) (ws : List Jvm.Cond) (v : Addr) (kv : ClassId) (cs : List Int32) (cap : Nat) (h0 : Heap) (n0 : Nat) (Z0 : n0 ≤ h0.size) (B4 : Arv Z h0 v kv .byte (Int32.ofNat cap) (B8 cs) (.int 0)) (HLT : cs.length < cap) (HCB : cap < 100000) (HLG : cs.length ≤ 86) :
    MF l Z mn25 (Jvm.Cond.code mn25 cB25 5 (Option.some (Jvm.ClassFile.FieldType.array Jvm.ClassFile.FieldType.byte))) ws Ro12 #[(.ref v), (.int 0), (.int (Int32.ofNat cs.length))] h0 (Q_corb Z cs h0 n0) := by
  refine MF.of ss23 rfl #[rv v, iv 0, iv (Int32.ofNat cs.length), un, un] (plainFor_of_name opn_6) (fun _ => rfl) ?_
  intro p e s m below meth c _ hZ hh B hml hret hlk hown hnm Y e0
  have N0 := Fr.nil n0
  have K0 := Keep.refl h0 []
  refine zilN Y B o244 rfl <| zilN Y B o245 rfl ?_
  refine zcs Y B hZ hown (ow159 hw) (ow160 hw) (ow96 hw) (ow161 hw) (by decide) (rm_chklen l Z a0 hw [] cs.length h0 n0 (Nat.le_trans Z0 (Nat.le_refl _)) (by omega)) e0 hml opd_2 rfl o246 rfl rfl rfl rfl rfl fun _ T101 _ Y hQ => ?_
  obtain ⟨rfl, N101q, e101⟩ := hQ
  have N101 := Fr.app N0 N101q
  refine zilN Y B o247 rfl <| zilN Y B o248 rfl <| zisub Y B o249 rfl ?_
  rw [show ((Int32.ofNat cs.length) - (0 : Int32)) = (Int32.ofNat cs.length) from (on_sub (b := 0) (by omega) (by omega))]
  refine zisN Y B o250 (s3 rfl) <| zilN Y B o251 rfl ?_
  refine znq Y B hZ (aty := .byte) (ow19 hw) e101 o252 (on_pos (by omega)) (cap := 86) (by rw [on_nat (by omega)]; exact HLG) rfl rfl rfl (ad := "[B") (by decide +kernel) fun T102 h102 k102 b102 g102 Y e102 E102 A102 B102 => ?_
  have K103 := K0.ext E102
  refine zas Y B o253 (s4 rfl) rfl <| zalN Y B o254 rfl <| zilN Y B o255 rfl <| zal Y B o256 rfl <| zc0 Y B o257 <| zalN Y B o258 rfl ?_
  have F105 := (B4.ext E102)
  refine zln Y B hZ e102 F105 o259 ?_
  refine zilN Y B o260 rfl <| zisub Y B o261 rfl ?_
  rw [show ((Int32.ofNat cap) - (0 : Int32)) = (Int32.ofNat cap) from (on_sub (b := 0) (by omega) (by omega))]
  refine zilN Y B o262 rfl ?_
  refine zcs Y B hZ hown (ow98 hw) (ow99 hw) (ow90 hw) (ow100 hw) (by decide) (rm_mmin l Z a0 hw [] cap cs.length h102 n0 (Nat.le_trans Z0 K103.1) (by omega) (by omega)) e102 hml opd_11 rfl o263 rfl rfl rfl rfl rfl fun _ T106 _ Y hQ => ?_
  obtain ⟨rfl, N106q, e106⟩ := hQ
  have N106 := Fr.app N101 N106q
  obtain ⟨T107, h107, L107, Y, e107, N107, K107, A107, st107⟩ := own_cpy Y B.1 hZ hown (ow101 hw) (ow104 hw) (ow102 hw) (ow103 hw) e106 (cs := cs) (es := ([] : List Int32)) (ca := cap) (cb := cs.length) (n := cs.length) F105 (Arv.new A102 (on_pos (by omega))) (by rw [Nat.min_eq_right (by omega)]) rfl (Nat.le_refl _) (by omega) (by show 0 + cs.length ≤ cs.length; omega) (by omega) (by omega) N106 (Nat.le_trans (Nat.le_trans Z0 (Nat.le_refl _)) (Nat.le_of_eq g102.symm)) (g := (mkF m 27 #[rv v, iv 0, iv (Int32.ofNat cs.length), iv (Int32.ofNat cs.length), rv b102] [(.int (Int32.ofNat (min cap cs.length))), (.int 0), (.ref b102), (.int 0), (.ref v)])) rfl (by rw [hml]; rfl) rfl (hb B.2 o264.1) (by decide) (W := 0) (by show 2 * 0 + _ ≤ _; exact Nat.le_of_eq rfl) (by decide)
  refine Go.by st107 ?_
  have K108 := K103.trans K107 (allS (Or.inr (Nat.le_trans (Nat.le_refl _) (Nat.le_of_eq g102.symm))) all0)
  show Go p e below _ _ (mkF m 30 #[rv v, iv 0, iv (Int32.ofNat cs.length), iv (Int32.ofNat cs.length), rv b102] [])
  refine zal Y B o265 rfl ?_
  exact zrR Y B hret rfl rfl rfl hlk o266 e107 ⟨b102, k102, rfl, N107, K108, (Nat.le_trans (Nat.le_refl _) (Nat.le_of_eq g102.symm)), A107⟩ rfl rfl
def Q_cor2 (Z : State) (cs : List Int32) (h0 : Heap) (n0 : Nat) : QT := fun rv hE LE => ∃ t : Addr, ∃ kt : ClassId, rv = some (.ref t) ∧ Fr n0 LE ∧ Keep h0 hE [] ∧ (h0.size ≤ t) ∧ (Arv Z hE t kt .byte (Int32.ofNat cs.length) (B8 cs) (.int 0))
theorem rm_cor2 (l : Launch) (Z : State) (a0 : Array Value) (hw : HW a0 Z) (ws : List Jvm.Cond) (v : Addr) (kv : ClassId) (cs : List Int32) (cap : Nat) (h0 : Heap) (n0 : Nat) (Z0 : n0 ≤ h0.size) (B4 : Arv Z h0 v kv .byte (Int32.ofNat cap) (B8 cs) (.int 0)) (HLT : cs.length < cap) (HCB : cap < 100000) (HLG : cs.length ≤ 86) :
    MF l Z mn26 (Jvm.Cond.code mn26 cB26 3 (Option.some (Jvm.ClassFile.FieldType.array Jvm.ClassFile.FieldType.byte))) ws Ro17 #[(.ref v), (.int 0), (.int (Int32.ofNat cs.length))] h0 (Q_cor2 Z cs h0 n0) := by
  refine MF.of ss23 rfl #[rv v, iv 0, iv (Int32.ofNat cs.length)] (plainFor_of_name opn_6) (fun _ => rfl) ?_
  intro p e s m below meth c _ hZ hh B hml hret hlk hown hnm Y e0
  have N0 := Fr.nil n0
  have K0 := Keep.refl h0 []
  refine zilN Y B o267 rfl <| zN Y B o268 (by decide) ?_
  refine zilN Y B o269 rfl <| zalN Y B o270 rfl ?_
  refine zln Y B hZ e0 B4 o271 ?_
  refine zCN Y B o272 (feq (show ¬ ((Int32.ofNat cs.length) = (Int32.ofNat cap)) from (fun q => absurd ((eq_on (by omega) (by omega)).mp q) (by omega)))).1 ?_
  refine zalN Y B o273 rfl <| zilN Y B o274 rfl <| zilN Y B o275 rfl ?_
  refine zcs Y B hZ hown (ow156 hw) (ow157 hw) (ow96 hw) (ow158 hw) (by decide) (rm_corb l Z a0 hw [] v kv cs cap h0 n0 (Nat.le_trans Z0 (Nat.le_refl _)) B4 HLT HCB HLG) e0 hml opd_15 rfl o276 rfl rfl rfl rfl rfl fun _ T102 _ Y hQ => ?_
  obtain ⟨t_102, kt_102, rfl, N102q, K102q, P102_0, P102_1⟩ := hQ
  have N102 := Fr.app N0 N102q
  have K103 := K0.trans K102q all0
  exact zrR Y B hret rfl rfl rfl hlk o277 rfl ⟨t_102, kt_102, rfl, N102, K103, (Nat.le_trans (Nat.le_refl _) P102_0), P102_1⟩ rfl rfl
def Q_siniAV2 (Z : State) (x : Addr) (cs : List Int32) (h0 : Heap) (n0 : Nat) : QT := fun rv hE LE => ∃ t : Addr, ∃ kt : ClassId, rv = none ∧ Fr n0 LE ∧ Keep h0 hE [x] ∧ (h0.size ≤ t) ∧ (Exa Z hE x ss0) ∧ (Fld Z hE x ss0 ss3 "B" (.int 0)) ∧ (Fld Z hE x ss0 ss4 "[B" (.ref t)) ∧ (Arv Z hE t kt .byte (Int32.ofNat cs.length) (B8 cs) (.int 0))
theorem rm_siniAV2 (l : Launch) (Z : State) (a0 : Array Value) (hw : HW a0 Z) (ws : List Jvm.Cond) (x b v : Addr) (kv : ClassId) (cs : List Int32) (cap : Nat) (G1 : Int32) (h0 : Heap) (n0 : Nat) (Z0 : n0 ≤ h0.size) (E1 : Exa Z h0 x ss0) (g_x : n0 ≤ x) (F1 : Fld Z h0 x ss0 ss4 "[B" .null) (F2 : Fld Z h0 x ss0 ss3 "B" (.int 0)) (B0 : Exa Z h0 b ss5) (B1 : Fld Z h0 b ss2 ss3 "B" (.int 0)) (B2 : Fld Z h0 b ss2 ss4 "[B" (.ref v)) (B3 : Fld Z h0 b ss2 ss9 "I" (.int (Int32.ofNat cs.length))) (B4 : Arv Z h0 v kv .byte (Int32.ofNat cap) (B8 cs) (.int 0)) (B5 : Exa Z h0 v "[B") (HLT : cs.length < cap) (HCB : cap < 100000) (HLG : cs.length ≤ 86) (O2 : Sta Z Z.heap ss0 ss8 "Z" (.int G1)) (P5 : ¬ (G1 = (0 : Int32))) (X00 : Old Z n0 h0) :
    MF l Z mn27 (Jvm.Cond.code mn27 cB27 5 (Option.none : Option Jvm.ClassFile.FieldType)) ws Ro18 #[(.ref x), (.ref b), .null] h0 (Q_siniAV2 Z x cs h0 n0) := by
  refine MF.of ss0 rfl #[rv x, rv b, .val .null, un, un] (plainFor_of_name opn_0) (fun _ => rfl) ?_
  intro p e s m below meth c _ hZ hh B hml hret hlk hown hnm Y e0
  have N0 := Fr.nil n0
  have K0 := Keep.refl h0 [x]
  refine zalN Y B o278 rfl ?_
  refine Go.a3 (initO Y B.1 hZ hown (ow15 hw) (ow16 hw) (ow17 hw) e0 rfl (by rw [hml]; rfl) rfl (hb B.2 o279.1) (by decide) (W := 0) (by show 2 * 0 + _ ≤ _; exact Nat.le_of_eq rfl) (by decide)) fun _ Y e101 => ?_
  refine zalN Y B o280 rfl ?_
  refine zcv Y B hZ hown (ow135 hw) (ow136 hw) (notFace_of_selects (args := #[]) (mvT hZ (ow138 hw))) (ow138 hw) (ow137 hw) (ow42 hw) (ow139 hw) (by decide) B0 (rm_getval l Z a0 hw [] b v h0 n0 (Nat.le_trans Z0 (Nat.le_refl _)) B0 B2) e101 hml opd_16 rfl o281 rfl rfl rfl rfl rfl fun _ T102 _ Y hQ => ?_
  obtain ⟨rfl, N102q, e102⟩ := hQ
  have N102 := Fr.app N0 N102q
  refine zasN Y B o282 (s3 rfl) rfl <| zalN Y B o283 rfl ?_
  refine zcv Y B hZ hown (ow140 hw) (ow141 hw) (own_notface (args := #[]) (mvT hZ (ow77 hw)) rfl) (ow143 hw) (ow144 hw) (ow34 hw) (ow145 hw) (by decide) B0 (rm_sblen l Z a0 hw [] b (Int32.ofNat cs.length) h0 n0 (Nat.le_trans Z0 (Nat.le_refl _)) B0 B3) e102 hml opd_7 rfl o284 rfl rfl rfl rfl rfl fun _ T103 _ Y hQ => ?_
  obtain ⟨rfl, N103q, e103⟩ := hQ
  have N103 := Fr.app N102 N103q
  refine zis Y B o285 (s4 rfl) <| zalN Y B o286 rfl ?_
  refine zcv Y B hZ hown (ow148 hw) (ow149 hw) (notFace_of_selects (args := #[]) (mvT hZ (ow151 hw))) (ow151 hw) (ow150 hw) (ow42 hw) (ow152 hw) (by decide) B0 (rm_asbl1 l Z a0 hw [] b G1 h0 n0 (Nat.le_trans Z0 (Nat.le_refl _)) B0 B1 O2 P5 X00) e103 hml opd_3 rfl o287 rfl rfl rfl rfl rfl fun _ T104 _ Y hQ => ?_
  obtain ⟨rfl, N104q, e104⟩ := hQ
  have N104 := Fr.app N103 N104q
  refine zN Y B o288 (by decide) ?_
  refine zalN Y B o289 rfl <| zc0 Y B o290 ?_
  refine Go.b3 (putFN Y B.1 hZ hown (ow25 hw) Via.refl e104 F2 E1 (Or.inr ⟨(ow21 hw), rfl, hnm⟩) (ow5 hw) (ty := .byte) (v' := (.int (nar .byte (0 : Int32)))) (by decide) rfl (fits_nar_byte _) rfl rfl (hb B.2 o291.1)) fun T105 h105 Y e105 W105 => ?_
  have N105 := Fr.snoc Y N104 g_x
  have K106 := K0.wr W105 (Or.inl (List.mem_of_getElem? (i := 0) rfl))
  have O106 := X00.wr W105 g_x
  refine zalN Y B o292 rfl <| zalN Y B o293 rfl <| zc0 Y B o294 <| zil Y B o295 rfl ?_
  have F108 := (B4.other W105 (ne_exa B5 E1 (by decide)))
  refine zcs Y B hZ hown (ow153 hw) (ow154 hw) (ow96 hw) (ow155 hw) (by decide) (rm_cor2 l Z a0 hw [] v kv cs cap h105 n0 (Nat.le_trans Z0 K106.1) F108 HLT HCB HLG) e105 hml opd_15 rfl o296 rfl rfl rfl rfl rfl fun _ T107 _ Y hQ => ?_
  obtain ⟨t_107, kt_107, rfl, N107q, K107q, P107_0, P107_1⟩ := hQ
  have N107 := Fr.app N105 N107q
  have K109 := K106.trans K107q all0
  have O109 := O106.keep K107q all0
  have F111 := ((F1.other W105 (Or.inr (slot_ne (Or.inr (ow20 hw)) (Or.inr (ow21 hw)) (by decide) (t := (.array .byte)) (t' := .byte) (by decide) (by decide)))).keep K107q nin0)
  have F112 := ((E1.wr W105).keep K107q)
  refine Go.b3 (putF Y B.1 hZ hown (host := "") (Or.inl (ow24 hw)) Via.refl rfl F111 F112 (Or.inr ⟨(ow20 hw), rfl, hnm⟩) (ow5 hw) (ty := (.array .byte)) (by decide) rfl rfl rfl rfl (hb B.2 o297.1)) fun T110 h110 Y e110 W110 => ?_
  have N110 := Fr.snoc Y N107 g_x
  have K113 := K109.wr W110 (Or.inl (List.mem_of_getElem? (i := 0) rfl))
  have O113 := O109.wr W110 g_x
  refine zgo Y B j16 ?_
  have F114 := (F112.wr W110)
  have F115 := (((F2.same W105).keep K107q nin0).other W110 (Or.inr (slot_ne (Or.inr (ow21 hw)) (Or.inr (ow20 hw)) (by decide) (t := .byte) (t' := (.array .byte)) (by decide) (by decide))))
  have F116 := (P107_1.other W110 (Ne.symm (Nat.ne_of_lt (Nat.lt_of_lt_of_le (E1.wr W105).lt P107_0))))
  exact zr0 Y B hret hlk o298 e110 ⟨t_107, kt_107, rfl, N110, K113, (Nat.le_trans K106.1 P107_0), F114, F115, (F111.same W110), F116⟩ rfl rfl
def Q_siniSB2 (Z : State) (x : Addr) (cs : List Int32) (h0 : Heap) (n0 : Nat) : QT := fun rv hE LE => ∃ t : Addr, ∃ kt : ClassId, rv = none ∧ Fr n0 LE ∧ Keep h0 hE [x] ∧ (h0.size ≤ t) ∧ (Exa Z hE x ss0) ∧ (Fld Z hE x ss0 ss3 "B" (.int 0)) ∧ (Fld Z hE x ss0 ss4 "[B" (.ref t)) ∧ (Arv Z hE t kt .byte (Int32.ofNat cs.length) (B8 cs) (.int 0))
theorem rm_siniSB2 (l : Launch) (Z : State) (a0 : Array Value) (hw : HW a0 Z) (ws : List Jvm.Cond) (x b v : Addr) (kv : ClassId) (cs : List Int32) (cap : Nat) (G1 : Int32) (h0 : Heap) (n0 : Nat) (Z0 : n0 ≤ h0.size) (E1 : Exa Z h0 x ss0) (g_x : n0 ≤ x) (F1 : Fld Z h0 x ss0 ss4 "[B" .null) (F2 : Fld Z h0 x ss0 ss3 "B" (.int 0)) (B0 : Exa Z h0 b ss5) (B1 : Fld Z h0 b ss2 ss3 "B" (.int 0)) (B2 : Fld Z h0 b ss2 ss4 "[B" (.ref v)) (B3 : Fld Z h0 b ss2 ss9 "I" (.int (Int32.ofNat cs.length))) (B4 : Arv Z h0 v kv .byte (Int32.ofNat cap) (B8 cs) (.int 0)) (B5 : Exa Z h0 v "[B") (HLT : cs.length < cap) (HCB : cap < 100000) (HLG : cs.length ≤ 86) (O2 : Sta Z Z.heap ss0 ss8 "Z" (.int G1)) (P5 : ¬ (G1 = (0 : Int32))) (X00 : Old Z n0 h0) :
    MF l Z mn28 (Jvm.Cond.code mn28 cB28 2 (Option.none : Option Jvm.ClassFile.FieldType)) ws Ro19 #[(.ref x), (.ref b)] h0 (Q_siniSB2 Z x cs h0 n0) := by
  refine MF.of ss0 rfl #[rv x, rv b] (plainFor_of_name opn_0) (fun _ => rfl) ?_
  intro p e s m below meth c _ hZ hh B hml hret hlk hown hnm Y e0
  have N0 := Fr.nil n0
  have K0 := Keep.refl h0 [x]
  refine zalN Y B o299 rfl <| zalN Y B o300 rfl <| znull Y B o301 ?_
  refine zci Y B hZ rfl hown (ow132 hw) (ow133 hw) (ow6 hw) (ow134 hw) (by decide) (rm_siniAV2 l Z a0 hw [] x b v kv cs cap G1 h0 n0 (Nat.le_trans Z0 (Nat.le_refl _)) E1 g_x F1 F2 B0 B1 B2 B3 B4 B5 HLT HCB HLG O2 P5 X00) e0 hml opd_17 rfl o302 rfl rfl rfl rfl rfl fun _ T101 _ Y hQ => ?_
  obtain ⟨t_101, kt_101, rfl, N101q, K101q, P101_0, P101_1, P101_2, P101_3, P101_4⟩ := hQ
  have N101 := Fr.app N0 N101q
  have K102 := K0.trans K101q (allS (Or.inl (List.mem_of_getElem? (i := 0) rfl)) all0)
  have O102 := X00.keep K101q (allS g_x all0)
  exact zr0 Y B hret hlk o303 rfl ⟨t_101, kt_101, rfl, N101, K102, (Nat.le_trans (Nat.le_refl _) P101_0), P101_1, P101_2, P101_3, P101_4⟩ rfl rfl
def Q_tostr2 (Z : State) (cs : List Int32) (h0 : Heap) (n0 : Nat) : QT := fun rv hE LE => ∃ x : Addr, ∃ t : Addr, ∃ kt : ClassId, rv = some (.ref x) ∧ Fr n0 LE ∧ Keep h0 hE [] ∧ (h0.size ≤ x) ∧ (h0.size ≤ t) ∧ (Exa Z hE x ss0) ∧ (Fld Z hE x ss0 ss3 "B" (.int 0)) ∧ (Fld Z hE x ss0 ss4 "[B" (.ref t)) ∧ (Arv Z hE t kt .byte (Int32.ofNat cs.length) (B8 cs) (.int 0))
theorem rm_tostr2 (l : Launch) (Z : State) (a0 : Array Value) (hw : HW a0 Z) (ws : List Jvm.Cond) (b v : Addr) (kv : ClassId) (cs : List Int32) (cap : Nat) (G1 : Int32) (h0 : Heap) (n0 : Nat) (Z0 : n0 ≤ h0.size) (B0 : Exa Z h0 b ss5) (B1 : Fld Z h0 b ss2 ss3 "B" (.int 0)) (B2 : Fld Z h0 b ss2 ss4 "[B" (.ref v)) (B3 : Fld Z h0 b ss2 ss9 "I" (.int (Int32.ofNat cs.length))) (B4 : Arv Z h0 v kv .byte (Int32.ofNat cap) (B8 cs) (.int 0)) (B5 : Exa Z h0 v "[B") (HLT : cs.length < cap) (HCB : cap < 100000) (HLG : cs.length ≤ 86) (O2 : Sta Z Z.heap ss0 ss8 "Z" (.int G1)) (P5 : ¬ (G1 = (0 : Int32))) (X00 : Old Z n0 h0) :
    MF l Z mn29 (Jvm.Cond.code mn29 cB29 1 (Option.some (Jvm.ClassFile.FieldType.object ss0))) ws Ro20 #[(.ref b)] h0 (Q_tostr2 Z cs h0 n0) := by
  refine MF.of ss5 rfl #[rv b] (plainFor_of_name opn_4) (fun _ => rfl) ?_
  intro p e s m below meth c _ hZ hh B hml hret hlk hown hnm Y e0
  have N0 := Fr.nil n0
  have K0 := Keep.refl h0 []
  refine zno Y B hZ hown (ow128 hw) (ow5 hw) (ow6 hw) e0 o304 rfl rfl fun T101 h101 b101 g101 Y e101 E101 A101 D101 U101 => ?_
  have K102 := K0.ext E101
  have O102 := X00.ext E101
  refine zdup Y B o305 rfl <| zalN Y B o306 rfl ?_
  have F104 := (B0.ext E101)
  have F105 := (B1.ext E101)
  have F106 := (B2.ext E101)
  have F107 := (B3.ext E101)
  have F108 := (B4.ext E101)
  have F109 := (B5.ext E101)
  refine zci Y B hZ rfl hown (ow129 hw) (ow130 hw) (ow6 hw) (ow131 hw) (by decide) (rm_siniSB2 l Z a0 hw [] b101 b v kv cs cap G1 h101 n0 (Nat.le_trans Z0 K102.1) A101 ((Nat.le_trans (Nat.le_trans Z0 (Nat.le_refl _)) (Nat.le_of_eq g101.symm))) (D101 (Or.inr (ow20 hw)) (ty := (.array .byte)) (by decide)) (D101 (Or.inr (ow21 hw)) (ty := .byte) (by decide)) F104 F105 F106 F107 F108 F109 HLT HCB HLG O2 P5 O102) e101 hml opd_18 rfl o307 rfl rfl rfl rfl rfl fun _ T103 _ Y hQ => ?_
  obtain ⟨t_103, kt_103, rfl, N103q, K103q, P103_0, P103_1, P103_2, P103_3, P103_4⟩ := hQ
  have N103 := Fr.app N0 N103q
  have K110 := K102.trans K103q (allS (Or.inr (Nat.le_trans (Nat.le_refl _) (Nat.le_of_eq g101.symm))) all0)
  have O110 := O102.keep K103q (allS (Nat.le_trans (Nat.le_trans Z0 (Nat.le_refl _)) (Nat.le_of_eq g101.symm)) all0)
  exact zrR Y B hret rfl rfl rfl hlk o308 rfl ⟨b101, t_103, kt_103, rfl, N103, K110, (Nat.le_trans (Nat.le_refl _) (Nat.le_of_eq g101.symm)), (Nat.le_trans K102.1 P103_0), P103_1, P103_2, P103_3, P103_4⟩ rfl rfl
def Q_getmsg (Z : State) (mm : Addr) (h0 : Heap) (n0 : Nat) : QT := fun rv hE LE => rv = some (.ref mm) ∧ Fr n0 LE ∧ hE = h0
theorem rm_getmsg (l : Launch) (Z : State) (a0 : Array Value) (hw : HW a0 Z) (ws : List Jvm.Cond) (a mm : Addr) (h0 : Heap) (n0 : Nat) (Z0 : n0 ≤ h0.size) (F1 : Fld Z h0 a ss1 ss15 ss16 (.ref mm)) :
    MF l Z mn30 (Jvm.Cond.code mn30 cB30 1 (Option.some (Jvm.ClassFile.FieldType.object ss0))) ws Ro0 #[(.ref a)] h0 (Q_getmsg Z mm h0 n0) := by
  refine MF.of ss1 rfl #[rv a] (plainFor_of_name opn_7) (fun _ => rfl) ?_
  intro p e s m below meth c _ hZ hh B hml hret hlk hown hnm Y e0
  have N0 := Fr.nil n0
  refine zalN Y B o309 rfl ?_
  refine zgf Y B hZ hown (ow212 hw) Via.refl e0 F1 o310 fun _ Y e101 => ?_
  exact zrR Y B hret rfl rfl rfl hlk o311 e101 ⟨rfl, N0, rfl⟩ rfl rfl
def Q_thini (Z : State) (a mm : Addr) (h0 : Heap) (n0 : Nat) : QT := fun rv hE LE => rv = none ∧ Fr n0 LE ∧ Keep h0 hE [a] ∧ (Exa Z hE a ss11) ∧ (Unt hE a) ∧ (Fld Z hE a ss1 "cause" ss17 (.ref a)) ∧ (Fld Z hE a ss1 ss15 ss16 (.ref mm))
theorem rm_thini (l : Launch) (Z : State) (a0 : Array Value) (hw : HW a0 Z) (ws : List Jvm.Cond) (a mm : Addr) (uv sv : Value) (h0 : Heap) (n0 : Nat) (Z0 : n0 ≤ h0.size) (E0 : Exa Z h0 a ss11) (E1 : Unt h0 a) (E2 : Fld Z h0 a ss1 "cause" ss17 .null) (E3 : Fld Z h0 a ss1 "stackTrace" ss12 .null) (E4 : Fld Z h0 a ss1 ss24 ss13 .null) (E5 : Fld Z h0 a ss1 "backtrace" "Ljava/lang/Object;" .null) (E6 : Fld Z h0 a ss1 ss15 ss16 .null) (g_a : n0 ≤ a) (hl : l.stackTraces = true) (SU : Sta Z Z.heap ss1 ss19 ss12 uv) (hu : uv.isRef = true) (SS : Sta Z Z.heap ss1 ss20 ss13 sv) (hv : sv.isRef = true) (X00 : Old Z n0 h0) :
    MetFree l mn31 (head1 (Jvm.Cond.code mn31 cB31 2 (Option.none : Option Jvm.ClassFile.FieldType) :: ws) Ro21) (fun ar_ U => ar_ = #[(.ref a), (.ref mm)] ∧ Z.Warmed39 U.vm ∧ U.heap = h0) (fun _ _ bl s _ => s.vm.MethodsKnown ∧ s.vm.FramesKnown bl) (fun _ U o_ U' => Out U (Q_thini Z a mm h0 n0) Ro21.cells Ro21.slots o_ U') := by
  refine MetFree.of_bodySF (plainFor_of_name opn_7) hisR ?_
  intro p e s m args below meth c s₁ Bd hml0 hP hK
  obtain ⟨rfl, hZ, hh⟩ := hP
  obtain ⟨hTK, hBelow⟩ := hK
  have hZ0 : Z.Warmed39 s.vm := hZ
  have B : HB p c _ := ⟨Bd.exec, Bd.bytes⟩
  have hml : c.maxLocals = 2 := hml0
  have hret := Bd.returns
  have hlk : meth.locks = false := BodyLoose.notSynchronized Bd
  have hown : s.vm.findClass ss1 = some m.cls := findClass_of_methodNamed Bd.named
  have hnm := (name_of_methodNamed Bd.named Bd.method).1
  have Y : Stand p l e Ro21 s m #[(.ref a), (.ref mm)] below meth c s₁ [] 0 0 := Stand.of_body Bd
  have e0 : s₁.heap = h0 := by rw [← hh, Bd.state]; rfl
  have N0 := Fr.nil n0
  have K0 : Keep h0 h0 [a] := Keep.refl h0 _
  show Go p e below (Out s (Q_thini Z a mm h0 n0) Ro21.cells Ro21.slots) s₁ (entryFrame m #[(.ref a), (.ref mm)] 2)
  refine Go.cast (oef_thini m a mm) ?_
  show Go p e below _ _ (mkF m 0 #[rv a, rv mm] [])
  rcases ref_cases hu with rfl | ⟨u, rfl⟩
  · rcases ref_cases hv with rfl | ⟨z, rfl⟩
    · show Go p e below _ _ (mkF m 0 #[rv a, rv mm] [])
      refine zalN Y B o312 rfl ?_
      refine Go.a3 (initO Y B.1 hZ hown (ow176 hw) (ow16 hw) (ow17 hw) e0 rfl (by rw [hml]; rfl) rfl (hb B.2 o313.1) (by decide) (W := 0) (by show 2 * 0 + _ ≤ _; exact Nat.le_of_eq rfl) (by decide)) fun _ Y e101 => ?_
      refine zalN Y B o314 rfl <| zalN Y B o315 rfl ?_
      refine Go.b3 (putF Y B.1 hZ hown (host := "") (Or.inl (ow177 hw)) Via.refl e101 E2 E0 (Or.inl (ow178 hw)) (ow31 hw) (ty := (.object ss1)) (by decide) rfl rfl rfl rfl (hb B.2 o316.1)) fun T102 h102 Y e102 W102 => ?_
      have N102 := Fr.snoc Y N0 g_a
      have K103 := K0.wr W102 (Or.inl (List.mem_of_getElem? (i := 0) rfl))
      have O103 := X00.wr W102 g_a
      refine zalN Y B o317 rfl ?_
      refine zgs Y B hZ hown (ow179 hw) e102 (SU.ext O103.2) o318 fun _ Y e104 => ?_
      have F106 := (E3.other W102 (Or.inr (slot_ne (Or.inl (ow181 hw)) (Or.inl (ow178 hw)) (by decide) (t := (.array (.object ss6))) (t' := (.object ss1)) (by decide) (by decide))))
      have F107 := (E0.wr W102)
      refine Go.b3 (putF Y B.1 hZ hown (host := "") (Or.inl (ow180 hw)) Via.refl e104 F106 F107 (Or.inl (ow181 hw)) (ow31 hw) (ty := (.array (.object ss6))) (by decide) rfl rfl rfl rfl (hb B.2 o319.1)) fun T105 h105 Y e105 W105 => ?_
      have N105 := Fr.snoc Y N102 g_a
      have K108 := K103.wr W105 (Or.inl (List.mem_of_getElem? (i := 0) rfl))
      have O108 := O103.wr W105 g_a
      refine zalN Y B o320 rfl ?_
      refine zgs Y B hZ hown (ow182 hw) e105 (SS.ext O108.2) o321 fun _ Y e109 => ?_
      have F111 := ((E4.other W102 (Or.inr (slot_ne (Or.inl (ow184 hw)) (Or.inl (ow178 hw)) (by decide) (t := (.object ss7)) (t' := (.object ss1)) (by decide) (by decide)))).other W105 (Or.inr (slot_ne (Or.inl (ow184 hw)) (Or.inl (ow181 hw)) (by decide) (t := (.object ss7)) (t' := (.array (.object ss6))) (by decide) (by decide))))
      have F112 := (F107.wr W105)
      refine Go.b3 (putF Y B.1 hZ hown (host := "") (Or.inl (ow183 hw)) Via.refl e109 F111 F112 (Or.inl (ow184 hw)) (ow31 hw) (ty := (.object ss7)) (by decide) rfl rfl rfl rfl (hb B.2 o322.1)) fun T110 h110 Y e110 W110 => ?_
      have N110 := Fr.snoc Y N105 g_a
      have K113 := K108.wr W110 (Or.inl (List.mem_of_getElem? (i := 0) rfl))
      have O113 := O108.wr W110 g_a
      refine zalN Y B o323 rfl ?_
      have F115 := (((E5.other W102 (Or.inr (slot_ne (Or.inl (ow209 hw)) (Or.inl (ow178 hw)) (by decide) (t := (.object ss10)) (t' := (.object ss1)) (by decide) (by decide)))).other W105 (Or.inr (slot_ne (Or.inl (ow209 hw)) (Or.inl (ow181 hw)) (by decide) (t := (.object ss10)) (t' := (.array (.object ss6))) (by decide) (by decide)))).other W110 (Or.inr (slot_ne (Or.inl (ow209 hw)) (Or.inl (ow184 hw)) (by decide) (t := (.object ss10)) (t' := (.object ss7)) (by decide) (by decide))))
      have F116 := ((F106.same W105).other W110 (Or.inr (slot_ne (Or.inl (ow181 hw)) (Or.inl (ow184 hw)) (by decide) (t := (.array (.object ss6))) (t' := (.object ss7)) (by decide) (by decide))))
      have F117 := (((E2.same W102).other W105 (Or.inr (slot_ne (Or.inl (ow178 hw)) (Or.inl (ow181 hw)) (by decide) (t := (.object ss1)) (t' := (.array (.object ss6))) (by decide) (by decide)))).other W110 (Or.inr (slot_ne (Or.inl (ow178 hw)) (Or.inl (ow184 hw)) (by decide) (t := (.object ss1)) (t' := (.object ss7)) (by decide) (by decide))))
      have F118 := (((E6.other W102 (Or.inr (slot_ne (Or.inl (ow208 hw)) (Or.inl (ow178 hw)) (by decide) (t := (.object ss0)) (t' := (.object ss1)) (by decide) (by decide)))).other W105 (Or.inr (slot_ne (Or.inl (ow208 hw)) (Or.inl (ow181 hw)) (by decide) (t := (.object ss0)) (t' := (.array (.object ss6))) (by decide) (by decide)))).other W110 (Or.inr (slot_ne (Or.inl (ow208 hw)) (Or.inl (ow184 hw)) (by decide) (t := (.object ss0)) (t' := (.object ss7)) (by decide) (by decide))))
      have F119 := (F112.wr W110)
      have F120 := (((E1.wr W102).wr W105).wr W110)
      obtain ⟨T114, h114, L114, Y, e114, NL114, K114, PE114, PU114, PC114, PM114, st114⟩ := own_fill (n0 := n0) Y B.1 hl hZ hown (otw hw) (by rw [show s.heap = h0 from hh]; exact ThS.start.ext X00.2) (ThS.start.ext O113.2) hTK hBelow e110 (by intro y hy; simp only [List.nil_append, List.cons_append, List.mem_cons, List.not_mem_nil, or_false] at hy; rcases hy with rfl | rfl | rfl <;> rfl) g_a F119 F120 F115 F116 SU rfl F117 F118 (ow31 hw) (g := (mkF m 24 #[rv a, rv mm] [(.ref a)])) rfl (by rw [hml]; rfl) rfl rfl (hb B.2 o324.1) (by decide) (by decide) (by decide) (by decide)
      have N114 := Fr.app N110 NL114
      refine Go.by st114 ?_
      have K121 := K113.trans K114 (allS (Or.inl (List.mem_of_getElem? (i := 0) rfl)) all0)
      have O121 := O113.keep K114 (allS g_a all0)
      show Go p e below _ _ (mkF m 27 #[rv a, rv mm] [(.ref a)])
      refine zpop Y B o325 rfl <| zalN Y B o326 rfl <| zalN Y B o327 rfl ?_
      refine Go.b3 (putF Y B.1 hZ hown (host := "") (Or.inl (ow212 hw)) Via.refl e114 PM114 PE114 (Or.inl (ow208 hw)) (ow31 hw) (ty := (.object ss0)) (by decide) rfl rfl rfl rfl (hb B.2 o328.1)) fun T122 h122 Y e122 W122 => ?_
      have N122 := Fr.snoc Y N114 g_a
      have K123 := K121.wr W122 (Or.inl (List.mem_of_getElem? (i := 0) rfl))
      have O123 := O121.wr W122 g_a
      have F124 := (PE114.wr W122)
      have F125 := (PU114.wr W122)
      have F126 := (PC114.other W122 (Or.inr (slot_ne (Or.inl (ow178 hw)) (Or.inl (ow208 hw)) (by decide) (t := (.object ss1)) (t' := (.object ss0)) (by decide) (by decide))))
      exact zr0 Y B hret hlk o329 e122 ⟨rfl, N122, K123, F124, F125, F126, (PM114.same W122)⟩ rfl rfl
    · show Go p e below _ _ (mkF m 0 #[rv a, rv mm] [])
      refine zalN Y B o312 rfl ?_
      refine Go.a3 (initO Y B.1 hZ hown (ow176 hw) (ow16 hw) (ow17 hw) e0 rfl (by rw [hml]; rfl) rfl (hb B.2 o313.1) (by decide) (W := 0) (by show 2 * 0 + _ ≤ _; exact Nat.le_of_eq rfl) (by decide)) fun _ Y e127 => ?_
      refine zalN Y B o314 rfl <| zalN Y B o315 rfl ?_
      refine Go.b3 (putF Y B.1 hZ hown (host := "") (Or.inl (ow177 hw)) Via.refl e127 E2 E0 (Or.inl (ow178 hw)) (ow31 hw) (ty := (.object ss1)) (by decide) rfl rfl rfl rfl (hb B.2 o316.1)) fun T128 h128 Y e128 W128 => ?_
      have N128 := Fr.snoc Y N0 g_a
      have K129 := K0.wr W128 (Or.inl (List.mem_of_getElem? (i := 0) rfl))
      have O129 := X00.wr W128 g_a
      refine zalN Y B o317 rfl ?_
      refine zgs Y B hZ hown (ow179 hw) e128 (SU.ext O129.2) o318 fun _ Y e130 => ?_
      have F132 := (E3.other W128 (Or.inr (slot_ne (Or.inl (ow181 hw)) (Or.inl (ow178 hw)) (by decide) (t := (.array (.object ss6))) (t' := (.object ss1)) (by decide) (by decide))))
      have F133 := (E0.wr W128)
      refine Go.b3 (putF Y B.1 hZ hown (host := "") (Or.inl (ow180 hw)) Via.refl e130 F132 F133 (Or.inl (ow181 hw)) (ow31 hw) (ty := (.array (.object ss6))) (by decide) rfl rfl rfl rfl (hb B.2 o319.1)) fun T131 h131 Y e131 W131 => ?_
      have N131 := Fr.snoc Y N128 g_a
      have K134 := K129.wr W131 (Or.inl (List.mem_of_getElem? (i := 0) rfl))
      have O134 := O129.wr W131 g_a
      refine zalN Y B o320 rfl ?_
      refine zgs Y B hZ hown (ow182 hw) e131 (SS.ext O134.2) o321 fun _ Y e135 => ?_
      have F137 := ((E4.other W128 (Or.inr (slot_ne (Or.inl (ow184 hw)) (Or.inl (ow178 hw)) (by decide) (t := (.object ss7)) (t' := (.object ss1)) (by decide) (by decide)))).other W131 (Or.inr (slot_ne (Or.inl (ow184 hw)) (Or.inl (ow181 hw)) (by decide) (t := (.object ss7)) (t' := (.array (.object ss6))) (by decide) (by decide))))
      have F138 := (F133.wr W131)
      refine Go.b3 (putF Y B.1 hZ hown (host := "") (Or.inl (ow183 hw)) Via.refl e135 F137 F138 (Or.inl (ow184 hw)) (ow31 hw) (ty := (.object ss7)) (by decide) rfl rfl rfl rfl (hb B.2 o322.1)) fun T136 h136 Y e136 W136 => ?_
      have N136 := Fr.snoc Y N131 g_a
      have K139 := K134.wr W136 (Or.inl (List.mem_of_getElem? (i := 0) rfl))
      have O139 := O134.wr W136 g_a
      refine zalN Y B o323 rfl ?_
      have F141 := (((E5.other W128 (Or.inr (slot_ne (Or.inl (ow209 hw)) (Or.inl (ow178 hw)) (by decide) (t := (.object ss10)) (t' := (.object ss1)) (by decide) (by decide)))).other W131 (Or.inr (slot_ne (Or.inl (ow209 hw)) (Or.inl (ow181 hw)) (by decide) (t := (.object ss10)) (t' := (.array (.object ss6))) (by decide) (by decide)))).other W136 (Or.inr (slot_ne (Or.inl (ow209 hw)) (Or.inl (ow184 hw)) (by decide) (t := (.object ss10)) (t' := (.object ss7)) (by decide) (by decide))))
      have F142 := ((F132.same W131).other W136 (Or.inr (slot_ne (Or.inl (ow181 hw)) (Or.inl (ow184 hw)) (by decide) (t := (.array (.object ss6))) (t' := (.object ss7)) (by decide) (by decide))))
      have F143 := (((E2.same W128).other W131 (Or.inr (slot_ne (Or.inl (ow178 hw)) (Or.inl (ow181 hw)) (by decide) (t := (.object ss1)) (t' := (.array (.object ss6))) (by decide) (by decide)))).other W136 (Or.inr (slot_ne (Or.inl (ow178 hw)) (Or.inl (ow184 hw)) (by decide) (t := (.object ss1)) (t' := (.object ss7)) (by decide) (by decide))))
      have F144 := (((E6.other W128 (Or.inr (slot_ne (Or.inl (ow208 hw)) (Or.inl (ow178 hw)) (by decide) (t := (.object ss0)) (t' := (.object ss1)) (by decide) (by decide)))).other W131 (Or.inr (slot_ne (Or.inl (ow208 hw)) (Or.inl (ow181 hw)) (by decide) (t := (.object ss0)) (t' := (.array (.object ss6))) (by decide) (by decide)))).other W136 (Or.inr (slot_ne (Or.inl (ow208 hw)) (Or.inl (ow184 hw)) (by decide) (t := (.object ss0)) (t' := (.object ss7)) (by decide) (by decide))))
      have F145 := (F138.wr W136)
      have F146 := (((E1.wr W128).wr W131).wr W136)
      obtain ⟨T140, h140, L140, Y, e140, NL140, K140, PE140, PU140, PC140, PM140, st140⟩ := own_fill (n0 := n0) Y B.1 hl hZ hown (otw hw) (by rw [show s.heap = h0 from hh]; exact ThS.start.ext X00.2) (ThS.start.ext O139.2) hTK hBelow e136 (by intro y hy; simp only [List.nil_append, List.cons_append, List.mem_cons, List.not_mem_nil, or_false] at hy; rcases hy with rfl | rfl | rfl <;> rfl) g_a F145 F146 F141 F142 SU rfl F143 F144 (ow31 hw) (g := (mkF m 24 #[rv a, rv mm] [(.ref a)])) rfl (by rw [hml]; rfl) rfl rfl (hb B.2 o324.1) (by decide) (by decide) (by decide) (by decide)
      have N140 := Fr.app N136 NL140
      refine Go.by st140 ?_
      have K147 := K139.trans K140 (allS (Or.inl (List.mem_of_getElem? (i := 0) rfl)) all0)
      have O147 := O139.keep K140 (allS g_a all0)
      show Go p e below _ _ (mkF m 27 #[rv a, rv mm] [(.ref a)])
      refine zpop Y B o325 rfl <| zalN Y B o326 rfl <| zalN Y B o327 rfl ?_
      refine Go.b3 (putF Y B.1 hZ hown (host := "") (Or.inl (ow212 hw)) Via.refl e140 PM140 PE140 (Or.inl (ow208 hw)) (ow31 hw) (ty := (.object ss0)) (by decide) rfl rfl rfl rfl (hb B.2 o328.1)) fun T148 h148 Y e148 W148 => ?_
      have N148 := Fr.snoc Y N140 g_a
      have K149 := K147.wr W148 (Or.inl (List.mem_of_getElem? (i := 0) rfl))
      have O149 := O147.wr W148 g_a
      have F150 := (PE140.wr W148)
      have F151 := (PU140.wr W148)
      have F152 := (PC140.other W148 (Or.inr (slot_ne (Or.inl (ow178 hw)) (Or.inl (ow208 hw)) (by decide) (t := (.object ss1)) (t' := (.object ss0)) (by decide) (by decide))))
      exact zr0 Y B hret hlk o329 e148 ⟨rfl, N148, K149, F150, F151, F152, (PM140.same W148)⟩ rfl rfl
  · rcases ref_cases hv with rfl | ⟨z, rfl⟩
    · show Go p e below _ _ (mkF m 0 #[rv a, rv mm] [])
      refine zalN Y B o312 rfl ?_
      refine Go.a3 (initO Y B.1 hZ hown (ow176 hw) (ow16 hw) (ow17 hw) e0 rfl (by rw [hml]; rfl) rfl (hb B.2 o313.1) (by decide) (W := 0) (by show 2 * 0 + _ ≤ _; exact Nat.le_of_eq rfl) (by decide)) fun _ Y e153 => ?_
      refine zalN Y B o314 rfl <| zalN Y B o315 rfl ?_
      refine Go.b3 (putF Y B.1 hZ hown (host := "") (Or.inl (ow177 hw)) Via.refl e153 E2 E0 (Or.inl (ow178 hw)) (ow31 hw) (ty := (.object ss1)) (by decide) rfl rfl rfl rfl (hb B.2 o316.1)) fun T154 h154 Y e154 W154 => ?_
      have N154 := Fr.snoc Y N0 g_a
      have K155 := K0.wr W154 (Or.inl (List.mem_of_getElem? (i := 0) rfl))
      have O155 := X00.wr W154 g_a
      refine zalN Y B o317 rfl ?_
      refine zgs Y B hZ hown (ow179 hw) e154 (SU.ext O155.2) o318 fun _ Y e156 => ?_
      have F158 := (E3.other W154 (Or.inr (slot_ne (Or.inl (ow181 hw)) (Or.inl (ow178 hw)) (by decide) (t := (.array (.object ss6))) (t' := (.object ss1)) (by decide) (by decide))))
      have F159 := (E0.wr W154)
      refine Go.b3 (putF Y B.1 hZ hown (host := "") (Or.inl (ow180 hw)) Via.refl e156 F158 F159 (Or.inl (ow181 hw)) (ow31 hw) (ty := (.array (.object ss6))) (by decide) rfl rfl rfl rfl (hb B.2 o319.1)) fun T157 h157 Y e157 W157 => ?_
      have N157 := Fr.snoc Y N154 g_a
      have K160 := K155.wr W157 (Or.inl (List.mem_of_getElem? (i := 0) rfl))
      have O160 := O155.wr W157 g_a
      refine zalN Y B o320 rfl ?_
      refine zgs Y B hZ hown (ow182 hw) e157 (SS.ext O160.2) o321 fun _ Y e161 => ?_
      have F163 := ((E4.other W154 (Or.inr (slot_ne (Or.inl (ow184 hw)) (Or.inl (ow178 hw)) (by decide) (t := (.object ss7)) (t' := (.object ss1)) (by decide) (by decide)))).other W157 (Or.inr (slot_ne (Or.inl (ow184 hw)) (Or.inl (ow181 hw)) (by decide) (t := (.object ss7)) (t' := (.array (.object ss6))) (by decide) (by decide))))
      have F164 := (F159.wr W157)
      refine Go.b3 (putF Y B.1 hZ hown (host := "") (Or.inl (ow183 hw)) Via.refl e161 F163 F164 (Or.inl (ow184 hw)) (ow31 hw) (ty := (.object ss7)) (by decide) rfl rfl rfl rfl (hb B.2 o322.1)) fun T162 h162 Y e162 W162 => ?_
      have N162 := Fr.snoc Y N157 g_a
      have K165 := K160.wr W162 (Or.inl (List.mem_of_getElem? (i := 0) rfl))
      have O165 := O160.wr W162 g_a
      refine zalN Y B o323 rfl ?_
      have F167 := (((E5.other W154 (Or.inr (slot_ne (Or.inl (ow209 hw)) (Or.inl (ow178 hw)) (by decide) (t := (.object ss10)) (t' := (.object ss1)) (by decide) (by decide)))).other W157 (Or.inr (slot_ne (Or.inl (ow209 hw)) (Or.inl (ow181 hw)) (by decide) (t := (.object ss10)) (t' := (.array (.object ss6))) (by decide) (by decide)))).other W162 (Or.inr (slot_ne (Or.inl (ow209 hw)) (Or.inl (ow184 hw)) (by decide) (t := (.object ss10)) (t' := (.object ss7)) (by decide) (by decide))))
      have F168 := ((F158.same W157).other W162 (Or.inr (slot_ne (Or.inl (ow181 hw)) (Or.inl (ow184 hw)) (by decide) (t := (.array (.object ss6))) (t' := (.object ss7)) (by decide) (by decide))))
      have F169 := (((E2.same W154).other W157 (Or.inr (slot_ne (Or.inl (ow178 hw)) (Or.inl (ow181 hw)) (by decide) (t := (.object ss1)) (t' := (.array (.object ss6))) (by decide) (by decide)))).other W162 (Or.inr (slot_ne (Or.inl (ow178 hw)) (Or.inl (ow184 hw)) (by decide) (t := (.object ss1)) (t' := (.object ss7)) (by decide) (by decide))))
      have F170 := (((E6.other W154 (Or.inr (slot_ne (Or.inl (ow208 hw)) (Or.inl (ow178 hw)) (by decide) (t := (.object ss0)) (t' := (.object ss1)) (by decide) (by decide)))).other W157 (Or.inr (slot_ne (Or.inl (ow208 hw)) (Or.inl (ow181 hw)) (by decide) (t := (.object ss0)) (t' := (.array (.object ss6))) (by decide) (by decide)))).other W162 (Or.inr (slot_ne (Or.inl (ow208 hw)) (Or.inl (ow184 hw)) (by decide) (t := (.object ss0)) (t' := (.object ss7)) (by decide) (by decide))))
      have F171 := (F164.wr W162)
      have F172 := (((E1.wr W154).wr W157).wr W162)
      obtain ⟨T166, h166, L166, Y, e166, NL166, K166, PE166, PU166, PC166, PM166, st166⟩ := own_fill (n0 := n0) Y B.1 hl hZ hown (otw hw) (by rw [show s.heap = h0 from hh]; exact ThS.start.ext X00.2) (ThS.start.ext O165.2) hTK hBelow e162 (by intro y hy; simp only [List.nil_append, List.cons_append, List.mem_cons, List.not_mem_nil, or_false] at hy; rcases hy with rfl | rfl | rfl <;> rfl) g_a F171 F172 F167 F168 SU rfl F169 F170 (ow31 hw) (g := (mkF m 24 #[rv a, rv mm] [(.ref a)])) rfl (by rw [hml]; rfl) rfl rfl (hb B.2 o324.1) (by decide) (by decide) (by decide) (by decide)
      have N166 := Fr.app N162 NL166
      refine Go.by st166 ?_
      have K173 := K165.trans K166 (allS (Or.inl (List.mem_of_getElem? (i := 0) rfl)) all0)
      have O173 := O165.keep K166 (allS g_a all0)
      show Go p e below _ _ (mkF m 27 #[rv a, rv mm] [(.ref a)])
      refine zpop Y B o325 rfl <| zalN Y B o326 rfl <| zalN Y B o327 rfl ?_
      refine Go.b3 (putF Y B.1 hZ hown (host := "") (Or.inl (ow212 hw)) Via.refl e166 PM166 PE166 (Or.inl (ow208 hw)) (ow31 hw) (ty := (.object ss0)) (by decide) rfl rfl rfl rfl (hb B.2 o328.1)) fun T174 h174 Y e174 W174 => ?_
      have N174 := Fr.snoc Y N166 g_a
      have K175 := K173.wr W174 (Or.inl (List.mem_of_getElem? (i := 0) rfl))
      have O175 := O173.wr W174 g_a
      have F176 := (PE166.wr W174)
      have F177 := (PU166.wr W174)
      have F178 := (PC166.other W174 (Or.inr (slot_ne (Or.inl (ow178 hw)) (Or.inl (ow208 hw)) (by decide) (t := (.object ss1)) (t' := (.object ss0)) (by decide) (by decide))))
      exact zr0 Y B hret hlk o329 e174 ⟨rfl, N174, K175, F176, F177, F178, (PM166.same W174)⟩ rfl rfl
    · show Go p e below _ _ (mkF m 0 #[rv a, rv mm] [])
      refine zalN Y B o312 rfl ?_
      refine Go.a3 (initO Y B.1 hZ hown (ow176 hw) (ow16 hw) (ow17 hw) e0 rfl (by rw [hml]; rfl) rfl (hb B.2 o313.1) (by decide) (W := 0) (by show 2 * 0 + _ ≤ _; exact Nat.le_of_eq rfl) (by decide)) fun _ Y e179 => ?_
      refine zalN Y B o314 rfl <| zalN Y B o315 rfl ?_
      refine Go.b3 (putF Y B.1 hZ hown (host := "") (Or.inl (ow177 hw)) Via.refl e179 E2 E0 (Or.inl (ow178 hw)) (ow31 hw) (ty := (.object ss1)) (by decide) rfl rfl rfl rfl (hb B.2 o316.1)) fun T180 h180 Y e180 W180 => ?_
      have N180 := Fr.snoc Y N0 g_a
      have K181 := K0.wr W180 (Or.inl (List.mem_of_getElem? (i := 0) rfl))
      have O181 := X00.wr W180 g_a
      refine zalN Y B o317 rfl ?_
      refine zgs Y B hZ hown (ow179 hw) e180 (SU.ext O181.2) o318 fun _ Y e182 => ?_
      have F184 := (E3.other W180 (Or.inr (slot_ne (Or.inl (ow181 hw)) (Or.inl (ow178 hw)) (by decide) (t := (.array (.object ss6))) (t' := (.object ss1)) (by decide) (by decide))))
      have F185 := (E0.wr W180)
      refine Go.b3 (putF Y B.1 hZ hown (host := "") (Or.inl (ow180 hw)) Via.refl e182 F184 F185 (Or.inl (ow181 hw)) (ow31 hw) (ty := (.array (.object ss6))) (by decide) rfl rfl rfl rfl (hb B.2 o319.1)) fun T183 h183 Y e183 W183 => ?_
      have N183 := Fr.snoc Y N180 g_a
      have K186 := K181.wr W183 (Or.inl (List.mem_of_getElem? (i := 0) rfl))
      have O186 := O181.wr W183 g_a
      refine zalN Y B o320 rfl ?_
      refine zgs Y B hZ hown (ow182 hw) e183 (SS.ext O186.2) o321 fun _ Y e187 => ?_
      have F189 := ((E4.other W180 (Or.inr (slot_ne (Or.inl (ow184 hw)) (Or.inl (ow178 hw)) (by decide) (t := (.object ss7)) (t' := (.object ss1)) (by decide) (by decide)))).other W183 (Or.inr (slot_ne (Or.inl (ow184 hw)) (Or.inl (ow181 hw)) (by decide) (t := (.object ss7)) (t' := (.array (.object ss6))) (by decide) (by decide))))
      have F190 := (F185.wr W183)
      refine Go.b3 (putF Y B.1 hZ hown (host := "") (Or.inl (ow183 hw)) Via.refl e187 F189 F190 (Or.inl (ow184 hw)) (ow31 hw) (ty := (.object ss7)) (by decide) rfl rfl rfl rfl (hb B.2 o322.1)) fun T188 h188 Y e188 W188 => ?_
      have N188 := Fr.snoc Y N183 g_a
      have K191 := K186.wr W188 (Or.inl (List.mem_of_getElem? (i := 0) rfl))
      have O191 := O186.wr W188 g_a
      refine zalN Y B o323 rfl ?_
      have F193 := (((E5.other W180 (Or.inr (slot_ne (Or.inl (ow209 hw)) (Or.inl (ow178 hw)) (by decide) (t := (.object ss10)) (t' := (.object ss1)) (by decide) (by decide)))).other W183 (Or.inr (slot_ne (Or.inl (ow209 hw)) (Or.inl (ow181 hw)) (by decide) (t := (.object ss10)) (t' := (.array (.object ss6))) (by decide) (by decide)))).other W188 (Or.inr (slot_ne (Or.inl (ow209 hw)) (Or.inl (ow184 hw)) (by decide) (t := (.object ss10)) (t' := (.object ss7)) (by decide) (by decide))))
      have F194 := ((F184.same W183).other W188 (Or.inr (slot_ne (Or.inl (ow181 hw)) (Or.inl (ow184 hw)) (by decide) (t := (.array (.object ss6))) (t' := (.object ss7)) (by decide) (by decide))))
      have F195 := (((E2.same W180).other W183 (Or.inr (slot_ne (Or.inl (ow178 hw)) (Or.inl (ow181 hw)) (by decide) (t := (.object ss1)) (t' := (.array (.object ss6))) (by decide) (by decide)))).other W188 (Or.inr (slot_ne (Or.inl (ow178 hw)) (Or.inl (ow184 hw)) (by decide) (t := (.object ss1)) (t' := (.object ss7)) (by decide) (by decide))))
      have F196 := (((E6.other W180 (Or.inr (slot_ne (Or.inl (ow208 hw)) (Or.inl (ow178 hw)) (by decide) (t := (.object ss0)) (t' := (.object ss1)) (by decide) (by decide)))).other W183 (Or.inr (slot_ne (Or.inl (ow208 hw)) (Or.inl (ow181 hw)) (by decide) (t := (.object ss0)) (t' := (.array (.object ss6))) (by decide) (by decide)))).other W188 (Or.inr (slot_ne (Or.inl (ow208 hw)) (Or.inl (ow184 hw)) (by decide) (t := (.object ss0)) (t' := (.object ss7)) (by decide) (by decide))))
      have F197 := (F190.wr W188)
      have F198 := (((E1.wr W180).wr W183).wr W188)
      obtain ⟨T192, h192, L192, Y, e192, NL192, K192, PE192, PU192, PC192, PM192, st192⟩ := own_fill (n0 := n0) Y B.1 hl hZ hown (otw hw) (by rw [show s.heap = h0 from hh]; exact ThS.start.ext X00.2) (ThS.start.ext O191.2) hTK hBelow e188 (by intro y hy; simp only [List.nil_append, List.cons_append, List.mem_cons, List.not_mem_nil, or_false] at hy; rcases hy with rfl | rfl | rfl <;> rfl) g_a F197 F198 F193 F194 SU rfl F195 F196 (ow31 hw) (g := (mkF m 24 #[rv a, rv mm] [(.ref a)])) rfl (by rw [hml]; rfl) rfl rfl (hb B.2 o324.1) (by decide) (by decide) (by decide) (by decide)
      have N192 := Fr.app N188 NL192
      refine Go.by st192 ?_
      have K199 := K191.trans K192 (allS (Or.inl (List.mem_of_getElem? (i := 0) rfl)) all0)
      have O199 := O191.keep K192 (allS g_a all0)
      show Go p e below _ _ (mkF m 27 #[rv a, rv mm] [(.ref a)])
      refine zpop Y B o325 rfl <| zalN Y B o326 rfl <| zalN Y B o327 rfl ?_
      refine Go.b3 (putF Y B.1 hZ hown (host := "") (Or.inl (ow212 hw)) Via.refl e192 PM192 PE192 (Or.inl (ow208 hw)) (ow31 hw) (ty := (.object ss0)) (by decide) rfl rfl rfl rfl (hb B.2 o328.1)) fun T200 h200 Y e200 W200 => ?_
      have N200 := Fr.snoc Y N192 g_a
      have K201 := K199.wr W200 (Or.inl (List.mem_of_getElem? (i := 0) rfl))
      have O201 := O199.wr W200 g_a
      have F202 := (PE192.wr W200)
      have F203 := (PU192.wr W200)
      have F204 := (PC192.other W200 (Or.inr (slot_ne (Or.inl (ow178 hw)) (Or.inl (ow208 hw)) (by decide) (t := (.object ss1)) (t' := (.object ss0)) (by decide) (by decide))))
      exact zr0 Y B hret hlk o329 e200 ⟨rfl, N200, K201, F202, F203, F204, (PM192.same W200)⟩ rfl rfl
def Q_exini (Z : State) (a mm : Addr) (h0 : Heap) (n0 : Nat) : QT := fun rv hE LE => rv = none ∧ Fr n0 LE ∧ Keep h0 hE [a] ∧ (Exa Z hE a ss11) ∧ (Unt hE a) ∧ (Fld Z hE a ss1 "cause" ss17 (.ref a)) ∧ (Fld Z hE a ss1 ss15 ss16 (.ref mm))
theorem rm_exini (l : Launch) (Z : State) (a0 : Array Value) (hw : HW a0 Z) (ws : List Jvm.Cond) (a mm : Addr) (uv sv : Value) (h0 : Heap) (n0 : Nat) (Z0 : n0 ≤ h0.size) (E0 : Exa Z h0 a ss11) (E1 : Unt h0 a) (E2 : Fld Z h0 a ss1 "cause" ss17 .null) (E3 : Fld Z h0 a ss1 "stackTrace" ss12 .null) (E4 : Fld Z h0 a ss1 ss24 ss13 .null) (E5 : Fld Z h0 a ss1 "backtrace" "Ljava/lang/Object;" .null) (E6 : Fld Z h0 a ss1 ss15 ss16 .null) (g_a : n0 ≤ a) (hl : l.stackTraces = true) (SU : Sta Z Z.heap ss1 ss19 ss12 uv) (hu : uv.isRef = true) (SS : Sta Z Z.heap ss1 ss20 ss13 sv) (hv : sv.isRef = true) (X00 : Old Z n0 h0) :
    MetFree l mn32 (head1 (Jvm.Cond.code mn32 cB32 2 (Option.none : Option Jvm.ClassFile.FieldType) :: ws) Ro22) (fun ar_ U => ar_ = #[(.ref a), (.ref mm)] ∧ Z.Warmed39 U.vm ∧ U.heap = h0) (fun _ _ bl s _ => s.vm.MethodsKnown ∧ s.vm.FramesKnown bl) (fun _ U o_ U' => Out U (Q_exini Z a mm h0 n0) Ro22.cells Ro22.slots o_ U') := by
  refine MetFree.of_bodySF (plainFor_of_name opn_8) hisR ?_
  intro p e s m args below meth c s₁ Bd hml0 hP hK
  obtain ⟨rfl, hZ, hh⟩ := hP
  obtain ⟨hTK, hBelow⟩ := hK
  have hZ0 : Z.Warmed39 s.vm := hZ
  have B : HB p c _ := ⟨Bd.exec, Bd.bytes⟩
  have hml : c.maxLocals = 2 := hml0
  have hret := Bd.returns
  have hlk : meth.locks = false := BodyLoose.notSynchronized Bd
  have hown : s.vm.findClass "java/lang/Exception" = some m.cls := findClass_of_methodNamed Bd.named
  have hnm := (name_of_methodNamed Bd.named Bd.method).1
  have Y : Stand p l e Ro22 s m #[(.ref a), (.ref mm)] below meth c s₁ [] 0 0 := Stand.of_body Bd
  have e0 : s₁.heap = h0 := by rw [← hh, Bd.state]; rfl
  have N0 := Fr.nil n0
  have K0 : Keep h0 h0 [a] := Keep.refl h0 _
  show Go p e below (Out s (Q_exini Z a mm h0 n0) Ro22.cells Ro22.slots) s₁ (entryFrame m #[(.ref a), (.ref mm)] 2)
  refine Go.cast (oef_exini m a mm) ?_
  show Go p e below _ _ (mkF m 0 #[rv a, rv mm] [])
  refine zalN Y B o330 rfl <| zalN Y B o331 rfl ?_
  obtain ⟨_, _, ⟨T101, L101, k101, n101⟩, -, Y, ⟨Lc101, hQ101, l101, y101, z101⟩, st101⟩ := Y.specialBack B.1 (y := mn31) rfl hown (mvT hZ (ow170 hw)) (mvT hZ (ow171 hw)) (mvT hZ (ow175 hw)) (by decide) (backOfKL (W := 0) (rm_thini l Z a0 hw [] a mm uv sv h0 n0 (Nat.le_trans Z0 (Nat.le_refl _)) E0 E1 E2 E3 E4 E5 E6 g_a hl SU hu SS hv X00) hZ (ow175 hw) (ow174 hw) (by decide) (by decide) hTK hBelow) (g := (mkF m 2 #[rv a, rv mm] [(.ref mm), (.ref a)])) rfl (by rw [hml]; rfl) (Steps.refl _) (a := a) (argsL := [(.ref mm)]) (rest := []) (lenOf opd_5 rfl) rfl (by show 2 * 0 + _ ≤ _; exact Nat.le_of_eq rfl) (hb B.2 o332.1) (fun _ _ => ⟨rfl, e0, (by decide : 0 + 1 ≤ _), (by decide : 0 + 2752 ≤ _)⟩)
  dsimp only [Pt.U, Pt.locs, Pt.cells, Pt.slots] at Y l101 y101 z101 st101 hQ101
  subst l101 y101 z101
  obtain ⟨rfl, N101q, K101q, P101_0, P101_1, P101_2, P101_3⟩ := hQ101
  have N101 := Fr.app N0 N101q
  refine Go.tr st101 ?_
  have K102 := K0.trans K101q (allS (Or.inl (List.mem_of_getElem? (i := 0) rfl)) all0)
  have O102 := X00.keep K101q (allS g_a all0)
  exact zr0 Y B hret hlk o333 rfl ⟨rfl, N101, K102, P101_0, P101_1, P101_2, P101_3⟩ rfl rfl
def Q_reini (Z : State) (a mm : Addr) (h0 : Heap) (n0 : Nat) : QT := fun rv hE LE => rv = none ∧ Fr n0 LE ∧ Keep h0 hE [a] ∧ (Exa Z hE a ss11) ∧ (Unt hE a) ∧ (Fld Z hE a ss1 "cause" ss17 (.ref a)) ∧ (Fld Z hE a ss1 ss15 ss16 (.ref mm))
theorem rm_reini (l : Launch) (Z : State) (a0 : Array Value) (hw : HW a0 Z) (ws : List Jvm.Cond) (a mm : Addr) (uv sv : Value) (h0 : Heap) (n0 : Nat) (Z0 : n0 ≤ h0.size) (E0 : Exa Z h0 a ss11) (E1 : Unt h0 a) (E2 : Fld Z h0 a ss1 "cause" ss17 .null) (E3 : Fld Z h0 a ss1 "stackTrace" ss12 .null) (E4 : Fld Z h0 a ss1 ss24 ss13 .null) (E5 : Fld Z h0 a ss1 "backtrace" "Ljava/lang/Object;" .null) (E6 : Fld Z h0 a ss1 ss15 ss16 .null) (g_a : n0 ≤ a) (hl : l.stackTraces = true) (SU : Sta Z Z.heap ss1 ss19 ss12 uv) (hu : uv.isRef = true) (SS : Sta Z Z.heap ss1 ss20 ss13 sv) (hv : sv.isRef = true) (X00 : Old Z n0 h0) :
    MetFree l mn33 (head1 (Jvm.Cond.code mn33 cB33 2 (Option.none : Option Jvm.ClassFile.FieldType) :: ws) Ro23) (fun ar_ U => ar_ = #[(.ref a), (.ref mm)] ∧ Z.Warmed39 U.vm ∧ U.heap = h0) (fun _ _ bl s _ => s.vm.MethodsKnown ∧ s.vm.FramesKnown bl) (fun _ U o_ U' => Out U (Q_reini Z a mm h0 n0) Ro23.cells Ro23.slots o_ U') := by
  refine MetFree.of_bodySF (plainFor_of_name opn_9) hisR ?_
  intro p e s m args below meth c s₁ Bd hml0 hP hK
  obtain ⟨rfl, hZ, hh⟩ := hP
  obtain ⟨hTK, hBelow⟩ := hK
  have hZ0 : Z.Warmed39 s.vm := hZ
  have B : HB p c _ := ⟨Bd.exec, Bd.bytes⟩
  have hml : c.maxLocals = 2 := hml0
  have hret := Bd.returns
  have hlk : meth.locks = false := BodyLoose.notSynchronized Bd
  have hown : s.vm.findClass ss11 = some m.cls := findClass_of_methodNamed Bd.named
  have hnm := (name_of_methodNamed Bd.named Bd.method).1
  have Y : Stand p l e Ro23 s m #[(.ref a), (.ref mm)] below meth c s₁ [] 0 0 := Stand.of_body Bd
  have e0 : s₁.heap = h0 := by rw [← hh, Bd.state]; rfl
  have N0 := Fr.nil n0
  have K0 : Keep h0 h0 [a] := Keep.refl h0 _
  show Go p e below (Out s (Q_reini Z a mm h0 n0) Ro23.cells Ro23.slots) s₁ (entryFrame m #[(.ref a), (.ref mm)] 2)
  refine Go.cast (oef_reini m a mm) ?_
  show Go p e below _ _ (mkF m 0 #[rv a, rv mm] [])
  refine zalN Y B o334 rfl <| zalN Y B o335 rfl ?_
  obtain ⟨_, _, ⟨T101, L101, k101, n101⟩, -, Y, ⟨Lc101, hQ101, l101, y101, z101⟩, st101⟩ := Y.specialBack B.1 (y := mn32) rfl hown (mvT hZ (ow165 hw)) (mvT hZ (ow166 hw)) (mvT hZ (ow169 hw)) (by decide) (backOfKL (W := 0) (rm_exini l Z a0 hw [] a mm uv sv h0 n0 (Nat.le_trans Z0 (Nat.le_refl _)) E0 E1 E2 E3 E4 E5 E6 g_a hl SU hu SS hv X00) hZ (ow169 hw) (ow168 hw) (by decide) (by decide) hTK hBelow) (g := (mkF m 2 #[rv a, rv mm] [(.ref mm), (.ref a)])) rfl (by rw [hml]; rfl) (Steps.refl _) (a := a) (argsL := [(.ref mm)]) (rest := []) (lenOf opd_5 rfl) rfl (by show 2 * 0 + _ ≤ _; exact Nat.le_of_eq rfl) (hb B.2 o336.1) (fun _ _ => ⟨rfl, e0, (by decide : 0 + 1 ≤ _), (by decide : 0 + 2752 ≤ _)⟩)
  dsimp only [Pt.U, Pt.locs, Pt.cells, Pt.slots] at Y l101 y101 z101 st101 hQ101
  subst l101 y101 z101
  obtain ⟨rfl, N101q, K101q, P101_0, P101_1, P101_2, P101_3⟩ := hQ101
  have N101 := Fr.app N0 N101q
  refine Go.tr st101 ?_
  have K102 := K0.trans K101q (allS (Or.inl (List.mem_of_getElem? (i := 0) rfl)) all0)
  have O102 := X00.keep K101q (allS g_a all0)
  exact zr0 Y B hret hlk o337 rfl ⟨rfl, N101, K102, P101_0, P101_1, P101_2, P101_3⟩ rfl rfl
def Q_nt0 (Z : State) (ds : List Int32) (h0 : Heap) (n0 : Nat) : QT := fun rv hE LE => ∃ o : Addr, ∃ mx : Addr, ∃ mt : Addr, ∃ mk : ClassId, rv = some (.ref o) ∧ Fr n0 LE ∧ Keep h0 hE [] ∧ (h0.size ≤ o) ∧ (h0.size ≤ mx) ∧ (h0.size ≤ mt) ∧ (Exa Z hE o ss11) ∧ (Unt hE o) ∧ (Fld Z hE o ss1 "cause" ss17 (.ref o)) ∧ (Fld Z hE o ss1 ss15 ss16 (.ref mx)) ∧ (Exa Z hE mx ss0) ∧ (Fld Z hE mx ss0 ss3 "B" (.int 0)) ∧ (Fld Z hE mx ss0 ss4 "[B" (.ref mt)) ∧ (Arv Z hE mt mk .byte (Int32.ofNat (((([] : List Int32) ++ T42) ++ ds) ++ T1).length) (B8 (((([] : List Int32) ++ T42) ++ ds) ++ T1)) (.int 0))
theorem rm_nt0 (l : Launch) (Z : State) (a0 : Array Value) (hw : HW a0 Z) (ws : List Jvm.Cond) (x t : Addr) (kt : ClassId) (ds : List Int32) (uv sv : Value) (G1 : Int32) (h0 : Heap) (n0 : Nat) (Z0 : n0 ≤ h0.size) (S0 : Exa Z h0 x ss0) (S1 : Fld Z h0 x ss0 ss3 "B" (.int 0)) (S2 : Fld Z h0 x ss0 ss4 "[B" (.ref t)) (S3 : Arv Z h0 t kt .byte (Int32.ofNat ds.length) (B8 ds) (.int 0)) (HDL : ds.length = 0) (hl : l.stackTraces = true) (SU : Sta Z Z.heap ss1 ss19 ss12 uv) (hu : uv.isRef = true) (SS : Sta Z Z.heap ss1 ss20 ss13 sv) (hv : sv.isRef = true) (O2 : Sta Z Z.heap ss0 ss8 "Z" (.int G1)) (P5 : ¬ (G1 = (0 : Int32))) (X00 : Old Z n0 h0) :
    MetFree l mn34 (head1 (Jvm.Cond.code mn34 cB34 1 (Option.some (Jvm.ClassFile.FieldType.object ss11)) :: ws) Ro24) (fun ar_ U => ar_ = #[(.ref x)] ∧ Z.Warmed39 U.vm ∧ U.heap = h0 ∧ CHv Z EL U.vm h0) (fun _ _ bl s _ => s.vm.MethodsKnown ∧ s.vm.FramesKnown bl) (fun _ U o_ U' => OutW Z EL U (Q_nt0 Z ds h0 n0) Ro24.cells Ro24.slots o_ U') := by
  refine MetFree.of_bodySF (plainFor_of_name opn_9) hisR ?_
  intro p e s m args below meth c s₁ Bd hml0 hP hK
  obtain ⟨rfl, hZ, hh, hCH⟩ := hP
  obtain ⟨hTK, hBelow⟩ := hK
  have hZ0 : Z.Warmed39 s.vm := hZ
  have B : HB p c _ := ⟨Bd.exec, Bd.bytes⟩
  have hml : c.maxLocals = 1 := hml0
  have hret := Bd.returns
  have hlk : meth.locks = false := BodyLoose.notSynchronized Bd
  have hown : s.vm.findClass ss11 = some m.cls := findClass_of_methodNamed Bd.named
  have hnm := (name_of_methodNamed Bd.named Bd.method).1
  have Y : Stand p l e Ro24 (s.setVm s.vm) m #[(.ref x)] below meth c s₁ [] 0 0 := Stand.of_body Bd
  have e0 : s₁.heap = h0 := by rw [← hh, Bd.state]; rfl
  have N0 := Fr.nil n0
  have hS0 : s.Since s.vm h0.size := (State.WarmedH.refl s).since _
  have CR0 : CHr Z EL s.vm s.heap s.vm h0 := by rw [hh]; exact CHr.refl hCH
  have K0 : Keep h0 h0 [] := Keep.refl h0 _
  show Go p e below (OutW Z EL s (Q_nt0 Z ds h0 n0) Ro24.cells Ro24.slots) s₁ (entryFrame m #[(.ref x)] 1)
  refine Go.cast (oef_nt0 m x) ?_
  show Go p e below _ _ (mkF m 0 #[rv x] [])
  refine zno Y B hZ hown (ow30 hw) (ow31 hw) (ow28 hw) e0 o338 rfl rfl fun T101 h101 b101 g101 Y e101 E101 A101 D101 U101 => ?_
  have R102 := CHr.ext E101 CR0.1
  have CR102 := CR0.trans R102
  have K102 := K0.ext E101
  have O102 := X00.ext E101
  have Sf103 : Safe Z EL s.vm h101 b101 := Safe.ext E101 CR0.1 (Safe.new (Nat.le_of_eq g101.symm))
  refine zdup Y B o339 rfl ?_
  refine zno Y B hZ hown (ow32 hw) (ow33 hw) (ow34 hw) e101 o340 rfl rfl fun T104 h104 b104 g104 Y e104 E104 A104 D104 U104 => ?_
  have R105 := CHr.ext E104 CR102.1
  have CR105 := CR102.trans R105
  have K105 := K102.ext E104
  have O105 := O102.ext E104
  have Sf106 : Safe Z EL s.vm h104 b104 := Safe.ext E104 CR102.1 (Safe.new (Nat.le_of_eq g104.symm))
  refine zdup Y B o341 rfl ?_
  refine zci Y B hZ rfl hown (ow35 hw) (ow36 hw) (ow34 hw) (ow37 hw) (by decide) (rm_sbinit0 l Z a0 hw [] b104 G1 h104 n0 (Nat.le_trans Z0 K105.1) A104 (D104 (Or.inl (ow49 hw)) (ty := .byte) (by decide)) (D104 (Or.inl (ow47 hw)) (ty := (.array .byte)) (by decide)) (D104 (Or.inl (ow73 hw)) (ty := .int) (by decide)) ((Nat.le_trans (Nat.le_trans Z0 K102.1) (Nat.le_of_eq g104.symm))) O2 P5 O105) e104 hml opd_19 rfl o342 rfl rfl rfl rfl rfl fun _ T107 _ Y hQ => ?_
  obtain ⟨v_107, kv_107, rfl, N107q, K107q, P107_0, P107_1, P107_2, P107_3, P107_4, P107_5, P107_6⟩ := hQ
  have N107 := Fr.app N0 N107q
  have R108 := CHr.keep K107q (allS (Safe.exa hZ.alike A104 (by decide) (by decide)) all0) CR105.1
  have CR108 := CR105.trans R108
  have K108 := K105.trans K107q (allS (Or.inr (Nat.le_trans K102.1 (Nat.le_of_eq g104.symm))) all0)
  have O108 := O105.keep K107q (allS (Nat.le_trans (Nat.le_trans Z0 K102.1) (Nat.le_of_eq g104.symm)) all0)
  have Sf109 : Safe Z EL s.vm T107.heap v_107 := Safe.keep K107q (allS (Safe.exa hZ.alike A104 (by decide) (by decide)) all0) CR105.1 (Safe.new P107_0)
  obtain ⟨sa110, T110, h110, k110, sb110, kb110, Y, e110, E110, hS110, hk110, hZ110, hown110, PE110, PC110, PV110, PA110, la110, lb110, R110, LT110, SF110, st110⟩ := ldcCH Y B.1 hZ hown (ow50 hw) (ostr hw) rfl hS0 (Nat.le_trans (Nat.le_refl _) K108.1) (hEW hw) (List.mem_of_getElem? (i := 0) rfl) CR108.1 (vs := ((([116, 104, 101, 32, 115, 116, 111, 114, 101, 32, 97, 108, 114, 101, 97, 100, 121, 32, 104, 111, 108, 100, 115, 32, 97, 32, 100, 111, 99, 117, 109, 101, 110, 116, 32, 110, 97, 109, 101, 100, 32, 39] : List Int32).map (fun c => c.toInt8.toInt32)).map Value.int)) (z := (42 : Int32)) (by decide +kernel) (by decide) (by decide) (g := (mkF m 11 #[rv x] [(.ref b104), (.ref b101), (.ref b101)])) rfl (hb B.2 o343.1) (n := 168) (by decide) (by decide) (by decide) (by decide)
  refine Go.by st110 ?_
  have CR111 := CR108.trans R110
  have K111 := K108.ext E110
  have O111 := O108.ext E110
  show Go p e below _ _ (mkF m 13 #[rv x] [(.ref sa110), (.ref b104), (.ref b101), (.ref b101)])
  have F113 := (P107_1.ext E110)
  have F114 := (P107_2.ext E110)
  have F115 := (P107_3.ext E110)
  have F116 := (P107_4.ext E110)
  have F117 := (P107_5.ext E110)
  have F118 := (P107_6.ext E110)
  refine zcv Y B hZ110 hown110 (ow51 hw) (ow52 hw) (notFace_of_selects (args := #[]) (mvT hZ110 (ow54 hw))) (ow54 hw) (ow53 hw) (ow34 hw) (ow55 hw) (by decide) F113 (rm_sbappS1 l Z a0 hw [] b104 v_107 kv_107 16 ([] : List Int32) sa110 sb110 kb110 T42 G1 h110 n0 (Nat.le_trans Z0 K111.1) F113 F114 F115 F116 F117 F118 PE110 PC110 PV110 PA110 (by refine ⟨?_, ?_⟩ <;> (try simp only [List.length_append, List.length_cons, List.length_nil, T42_len, T1_len]) <;> omega) (by unfold newCap; (try simp only [List.length_append, List.length_cons, List.length_nil, T42_len, T1_len]) <;> omega) (by (try simp only [List.length_append, List.length_cons, List.length_nil, T42_len, T1_len]) <;> omega) ((Nat.le_trans (Nat.le_trans Z0 K102.1) (Nat.le_of_eq g104.symm))) O2 P5 O111) e110 hml opd_20 rfl o344 rfl rfl rfl rfl rfl fun _ T112 _ Y hQ => ?_
  obtain ⟨tn_112, kn_112, rfl, N112q, K112q, P112_0, P112_1, P112_2, P112_3, P112_4, P112_5, P112_6⟩ := hQ
  have N112 := Fr.app N107 N112q
  have R119 := CHr.keep K112q (allS (Safe.exa hZ110.alike F113 (by decide) (by decide)) all0) CR111.1
  have CR119 := CR111.trans R119
  have K119 := K111.trans K112q (allS (Or.inr (Nat.le_trans K102.1 (Nat.le_of_eq g104.symm))) all0)
  have O119 := O111.keep K112q (allS (Nat.le_trans (Nat.le_trans Z0 K102.1) (Nat.le_of_eq g104.symm)) all0)
  have Sf120 : Safe Z EL T110.vm T112.heap tn_112 := Safe.keep K112q (allS (Safe.exa hZ110.alike F113 (by decide) (by decide)) all0) CR111.1 (Safe.new P112_0)
  have F121 : Arv Z T112.heap tn_112 kn_112 .byte (Int32.ofNat 42) (B8 (([] : List Int32) ++ T42)) (.int 0) := by have q := P112_5; rw [show newCap 16 (([] : List Int32).length + T42.length) = 42 from by unfold newCap; (try simp only [List.length_append, List.length_cons, List.length_nil, T42_len, T1_len]) <;> omega] at q; exact q
  refine zalN Y B o345 rfl ?_
  have F123 := (((((S0.ext E101).ext E104).keep K107q).ext E110).keep K112q)
  have F124 := (((((S1.ext E101).ext E104).keep K107q (ninS (Nat.ne_of_lt (Nat.lt_of_lt_of_le (S0.ext E101).lt (Nat.le_of_eq g104.symm))) nin0)).ext E110).keep K112q (ninS (Nat.ne_of_lt (Nat.lt_of_lt_of_le (S0.ext E101).lt (Nat.le_of_eq g104.symm))) nin0))
  have F125 := (((((S2.ext E101).ext E104).keep K107q (ninS (Nat.ne_of_lt (Nat.lt_of_lt_of_le (S0.ext E101).lt (Nat.le_of_eq g104.symm))) nin0)).ext E110).keep K112q (ninS (Nat.ne_of_lt (Nat.lt_of_lt_of_le (S0.ext E101).lt (Nat.le_of_eq g104.symm))) nin0))
  have F126 := (((((S3.ext E101).ext E104).keep K107q (ninS (Nat.ne_of_lt (Nat.lt_of_lt_of_le (S3.ext E101).lt (Nat.le_of_eq g104.symm))) nin0)).ext E110).keep K112q (ninS (Nat.ne_of_lt (Nat.lt_of_lt_of_le (S3.ext E101).lt (Nat.le_of_eq g104.symm))) nin0))
  refine zcv Y B hZ110 hown110 (ow51 hw) (ow52 hw) (notFace_of_selects (args := #[]) (mvT hZ110 (ow54 hw))) (ow54 hw) (ow53 hw) (ow34 hw) (ow55 hw) (by decide) P112_1 (rm_sbappS l Z a0 hw [] b104 tn_112 kn_112 42 (([] : List Int32) ++ T42) x t kt ds G1 T112.heap n0 (Nat.le_trans Z0 K119.1) P112_1 P112_2 P112_3 P112_4 F121 P112_6 F123 F124 F125 F126 (by (try simp only [List.length_append, List.length_cons, List.length_nil, T42_len, T1_len]) <;> omega) (by decide) ((Nat.le_trans (Nat.le_trans Z0 K111.1) P112_0)) ((Nat.le_trans (Nat.le_trans Z0 K102.1) (Nat.le_of_eq g104.symm))) O2 P5 O119) rfl hml opd_20 rfl o346 rfl rfl rfl rfl rfl fun _ T122 _ Y hQ => ?_
  obtain ⟨rfl, N122q, K122q, P122_0, P122_1, P122_2, P122_3, P122_4, P122_5⟩ := hQ
  have N122 := Fr.app N112 N122q
  have R127 := CHr.keep K122q (allS (Safe.exa hZ110.alike P112_1 (by decide) (by decide)) (allS Sf120 all0)) CR119.1
  have CR127 := CR119.trans R127
  have K127 := K119.trans K122q (allS (Or.inr (Nat.le_trans K102.1 (Nat.le_of_eq g104.symm))) (allS (Or.inr (Nat.le_trans K111.1 P112_0)) all0))
  have O127 := O119.keep K122q (allS (Nat.le_trans (Nat.le_trans Z0 K102.1) (Nat.le_of_eq g104.symm)) (allS (Nat.le_trans (Nat.le_trans Z0 K111.1) P112_0) all0))
  obtain ⟨sa128, T128, h128, k128, sb128, kb128, Y, e128, E128, hS128, hk128, hZ128, hown128, PE128, PC128, PV128, PA128, la128, lb128, R128, LT128, SF128, st128⟩ := ldcCH Y B.1 hZ110 hown110 (ow122 hw) (ostr hw) rfl hS110 (Nat.le_trans hk110 (Nat.le_trans K112q.1 K122q.1)) (hEW hw) (List.mem_of_getElem? (i := 1) rfl) CR127.1 (vs := ((([39] : List Int32).map (fun c => c.toInt8.toInt32)).map Value.int)) (z := (1 : Int32)) (by decide +kernel) (by decide) (by decide) (g := (mkF m 20 #[rv x] [(.ref b104), (.ref b101), (.ref b101)])) rfl (hb B.2 o347.1) (n := 4) (by decide) (by decide) (by decide) (by decide)
  refine Go.by st128 ?_
  have CR129 := CR127.trans R128
  have K129 := K127.ext E128
  have O129 := O127.ext E128
  show Go p e below _ _ (mkF m 22 #[rv x] [(.ref sa128), (.ref b104), (.ref b101), (.ref b101)])
  have F131 := (P122_0.ext E128)
  have F132 := (P122_1.ext E128)
  have F133 := (P122_2.ext E128)
  have F134 := (P122_3.ext E128)
  have F135 := (P122_4.ext E128)
  have F136 := (P122_5.ext E128)
  refine zcv Y B hZ128 hown128 (ow51 hw) (ow52 hw) (notFace_of_selects (args := #[]) (mvT hZ128 (ow54 hw))) (ow54 hw) (ow53 hw) (ow34 hw) (ow55 hw) (by decide) F131 (rm_sbappS1 l Z a0 hw [] b104 tn_112 kn_112 42 ((([] : List Int32) ++ T42) ++ ds) sa128 sb128 kb128 T1 G1 h128 n0 (Nat.le_trans Z0 K129.1) F131 F132 F133 F134 F135 F136 PE128 PC128 PV128 PA128 (by refine ⟨?_, ?_⟩ <;> (try simp only [List.length_append, List.length_cons, List.length_nil, T42_len, T1_len]) <;> omega) (by unfold newCap; (try simp only [List.length_append, List.length_cons, List.length_nil, T42_len, T1_len]) <;> omega) (by (try simp only [List.length_append, List.length_cons, List.length_nil, T42_len, T1_len]) <;> omega) ((Nat.le_trans (Nat.le_trans Z0 K102.1) (Nat.le_of_eq g104.symm))) O2 P5 O129) e128 hml opd_20 rfl o348 rfl rfl rfl rfl rfl fun _ T130 _ Y hQ => ?_
  obtain ⟨tn_130, kn_130, rfl, N130q, K130q, P130_0, P130_1, P130_2, P130_3, P130_4, P130_5, P130_6⟩ := hQ
  have N130 := Fr.app N122 N130q
  have R137 := CHr.keep K130q (allS (Safe.exa hZ128.alike F131 (by decide) (by decide)) all0) CR129.1
  have CR137 := CR129.trans R137
  have K137 := K129.trans K130q (allS (Or.inr (Nat.le_trans K102.1 (Nat.le_of_eq g104.symm))) all0)
  have O137 := O129.keep K130q (allS (Nat.le_trans (Nat.le_trans Z0 K102.1) (Nat.le_of_eq g104.symm)) all0)
  have Sf138 : Safe Z EL T128.vm T130.heap tn_130 := Safe.keep K130q (allS (Safe.exa hZ128.alike F131 (by decide) (by decide)) all0) CR129.1 (Safe.new P130_0)
  have F139 : Arv Z T130.heap tn_130 kn_130 .byte (Int32.ofNat 86) (B8 (((([] : List Int32) ++ T42) ++ ds) ++ T1)) (.int 0) := by have q := P130_5; rw [show newCap 42 (((([] : List Int32) ++ T42) ++ ds).length + T1.length) = 86 from by unfold newCap; (try simp only [List.length_append, List.length_cons, List.length_nil, T42_len, T1_len]) <;> omega] at q; exact q
  refine zcv Y B hZ128 hown128 (ow123 hw) (ow124 hw) (notFace_of_selects (args := #[]) (mvT hZ128 (ow126 hw))) (ow126 hw) (ow125 hw) (ow34 hw) (ow127 hw) (by decide) P130_1 (rm_tostr2 l Z a0 hw [] b104 tn_130 kn_130 (((([] : List Int32) ++ T42) ++ ds) ++ T1) 86 G1 T130.heap n0 (Nat.le_trans Z0 K137.1) P130_1 P130_2 P130_3 P130_4 F139 P130_6 (by (try simp only [List.length_append, List.length_cons, List.length_nil, T42_len, T1_len]) <;> omega) (by decide) (by (try simp only [List.length_append, List.length_cons, List.length_nil, T42_len, T1_len]) <;> omega) O2 P5 O137) rfl hml opd_21 rfl o349 rfl rfl rfl rfl rfl fun _ T140 _ Y hQ => ?_
  obtain ⟨x_140, t_140, kt_140, rfl, N140q, K140q, P140_0, P140_1, P140_2, P140_3, P140_4, P140_5⟩ := hQ
  have N140 := Fr.app N130 N140q
  have R141 := CHr.keep K140q all0 CR137.1
  have CR141 := CR137.trans R141
  have K141 := K137.trans K140q all0
  have O141 := O137.keep K140q all0
  have Sf142 : Safe Z EL T128.vm T140.heap x_140 := Safe.keep K140q all0 CR137.1 (Safe.new P140_0)
  have Sf143 : Safe Z EL T128.vm T140.heap t_140 := Safe.keep K140q all0 CR137.1 (Safe.new P140_1)
  have F145 := ((((((((A101.ext E104).keep K107q).ext E110).keep K112q).keep K122q).ext E128).keep K130q).keep K140q)
  have F146 := (((((((((show Unt h101 b101 from U101).ext E104).keep K107q (ninS (Nat.ne_of_lt (Nat.lt_of_lt_of_le A101.lt (Nat.le_of_eq g104.symm))) nin0)).ext E110).keep K112q (ninS (Nat.ne_of_lt (Nat.lt_of_lt_of_le A101.lt (Nat.le_of_eq g104.symm))) nin0)).keep K122q (ninS (Nat.ne_of_lt (Nat.lt_of_lt_of_le A101.lt (Nat.le_of_eq g104.symm))) (ninS (Nat.ne_of_lt (Nat.lt_of_lt_of_le (((A101.ext E104).keep K107q).ext E110).lt P112_0)) nin0))).ext E128).keep K130q (ninS (Nat.ne_of_lt (Nat.lt_of_lt_of_le A101.lt (Nat.le_of_eq g104.symm))) nin0)).keep K140q nin0)
  have F147 := (((((((((D101 (Or.inl (ow178 hw)) (ty := (.object ss1)) (by decide)).ext E104).keep K107q (ninS (Nat.ne_of_lt (Nat.lt_of_lt_of_le A101.lt (Nat.le_of_eq g104.symm))) nin0)).ext E110).keep K112q (ninS (Nat.ne_of_lt (Nat.lt_of_lt_of_le A101.lt (Nat.le_of_eq g104.symm))) nin0)).keep K122q (ninS (Nat.ne_of_lt (Nat.lt_of_lt_of_le A101.lt (Nat.le_of_eq g104.symm))) (ninS (Nat.ne_of_lt (Nat.lt_of_lt_of_le (((A101.ext E104).keep K107q).ext E110).lt P112_0)) nin0))).ext E128).keep K130q (ninS (Nat.ne_of_lt (Nat.lt_of_lt_of_le A101.lt (Nat.le_of_eq g104.symm))) nin0)).keep K140q nin0)
  have F148 := (((((((((D101 (Or.inl (ow181 hw)) (ty := (.array (.object ss6))) (by decide)).ext E104).keep K107q (ninS (Nat.ne_of_lt (Nat.lt_of_lt_of_le A101.lt (Nat.le_of_eq g104.symm))) nin0)).ext E110).keep K112q (ninS (Nat.ne_of_lt (Nat.lt_of_lt_of_le A101.lt (Nat.le_of_eq g104.symm))) nin0)).keep K122q (ninS (Nat.ne_of_lt (Nat.lt_of_lt_of_le A101.lt (Nat.le_of_eq g104.symm))) (ninS (Nat.ne_of_lt (Nat.lt_of_lt_of_le (((A101.ext E104).keep K107q).ext E110).lt P112_0)) nin0))).ext E128).keep K130q (ninS (Nat.ne_of_lt (Nat.lt_of_lt_of_le A101.lt (Nat.le_of_eq g104.symm))) nin0)).keep K140q nin0)
  have F149 := (((((((((D101 (Or.inl (ow184 hw)) (ty := (.object ss7)) (by decide)).ext E104).keep K107q (ninS (Nat.ne_of_lt (Nat.lt_of_lt_of_le A101.lt (Nat.le_of_eq g104.symm))) nin0)).ext E110).keep K112q (ninS (Nat.ne_of_lt (Nat.lt_of_lt_of_le A101.lt (Nat.le_of_eq g104.symm))) nin0)).keep K122q (ninS (Nat.ne_of_lt (Nat.lt_of_lt_of_le A101.lt (Nat.le_of_eq g104.symm))) (ninS (Nat.ne_of_lt (Nat.lt_of_lt_of_le (((A101.ext E104).keep K107q).ext E110).lt P112_0)) nin0))).ext E128).keep K130q (ninS (Nat.ne_of_lt (Nat.lt_of_lt_of_le A101.lt (Nat.le_of_eq g104.symm))) nin0)).keep K140q nin0)
  have F150 := (((((((((D101 (Or.inl (ow209 hw)) (ty := (.object ss10)) (by decide)).ext E104).keep K107q (ninS (Nat.ne_of_lt (Nat.lt_of_lt_of_le A101.lt (Nat.le_of_eq g104.symm))) nin0)).ext E110).keep K112q (ninS (Nat.ne_of_lt (Nat.lt_of_lt_of_le A101.lt (Nat.le_of_eq g104.symm))) nin0)).keep K122q (ninS (Nat.ne_of_lt (Nat.lt_of_lt_of_le A101.lt (Nat.le_of_eq g104.symm))) (ninS (Nat.ne_of_lt (Nat.lt_of_lt_of_le (((A101.ext E104).keep K107q).ext E110).lt P112_0)) nin0))).ext E128).keep K130q (ninS (Nat.ne_of_lt (Nat.lt_of_lt_of_le A101.lt (Nat.le_of_eq g104.symm))) nin0)).keep K140q nin0)
  have F151 := (((((((((D101 (Or.inl (ow208 hw)) (ty := (.object ss0)) (by decide)).ext E104).keep K107q (ninS (Nat.ne_of_lt (Nat.lt_of_lt_of_le A101.lt (Nat.le_of_eq g104.symm))) nin0)).ext E110).keep K112q (ninS (Nat.ne_of_lt (Nat.lt_of_lt_of_le A101.lt (Nat.le_of_eq g104.symm))) nin0)).keep K122q (ninS (Nat.ne_of_lt (Nat.lt_of_lt_of_le A101.lt (Nat.le_of_eq g104.symm))) (ninS (Nat.ne_of_lt (Nat.lt_of_lt_of_le (((A101.ext E104).keep K107q).ext E110).lt P112_0)) nin0))).ext E128).keep K130q (ninS (Nat.ne_of_lt (Nat.lt_of_lt_of_le A101.lt (Nat.le_of_eq g104.symm))) nin0)).keep K140q nin0)
  obtain ⟨_, _, ⟨T144, L144, k144, n144⟩, -, Y, ⟨Lc144, hQ144, l144, y144, z144⟩, st144⟩ := Y.specialBack B.1 (y := mn33) rfl hown128 (mvT hZ128 (ow162 hw)) (mvT hZ128 (ow163 hw)) (mvT hZ128 (ow164 hw)) (by decide) (backOfKL (W := 1) (rm_reini l Z a0 hw [] b101 x_140 uv sv T140.heap n0 (Nat.le_trans Z0 K141.1) F145 F146 F147 F148 F149 F150 F151 ((Nat.le_trans (Nat.le_trans Z0 (Nat.le_refl _)) (Nat.le_of_eq g101.symm))) hl SU hu SS hv O141) hZ128 (ow164 hw) (ow28 hw) (by decide) (by decide) (Vm.MethodsKnown.alikeC (hZ0.alike.symm.trans hZ128.alike) hTK) (Vm.FramesKnown.alikeC (hZ0.alike.symm.trans hZ128.alike) hBelow)) (g := (mkF m 28 #[rv x] [(.ref x_140), (.ref b101), (.ref b101)])) rfl (by rw [hml]; rfl) (Steps.refl _) (a := b101) (argsL := [(.ref x_140)]) (rest := [(.ref b101)]) (lenOf opd_5 rfl) rfl (by show 2 * 0 + _ ≤ _; exact Nat.le_of_eq rfl) (hb B.2 o350.1) (fun _ _ => ⟨rfl, rfl, (by decide : 11 + 1 ≤ _), (by decide : 468 + 2752 ≤ _)⟩)
  dsimp only [Pt.U, Pt.locs, Pt.cells, Pt.slots] at Y l144 y144 z144 st144 hQ144
  subst l144 y144 z144
  obtain ⟨rfl, N144q, K144q, P144_0, P144_1, P144_2, P144_3⟩ := hQ144
  have N144 := Fr.app N140 N144q
  refine Go.tr st144 ?_
  have R152 := CHr.keep K144q (allS (Safe.exa hZ128.alike F145 (by decide) (by decide)) all0) CR141.1
  have CR152 := CR141.trans R152
  have K152 := K141.trans K144q (allS (Or.inr (Nat.le_trans (Nat.le_refl _) (Nat.le_of_eq g101.symm))) all0)
  have O152 := O141.keep K144q (allS (Nat.le_trans (Nat.le_trans Z0 (Nat.le_refl _)) (Nat.le_of_eq g101.symm)) all0)
  have F153 := (P140_2.keep K144q)
  have F154 := (P140_3.keep K144q (ninS (Ne.symm (Nat.ne_of_lt (Nat.lt_of_lt_of_le (((((((A101.ext E104).keep K107q).ext E110).keep K112q).keep K122q).ext E128).keep K130q).lt P140_0))) nin0))
  have F155 := (P140_4.keep K144q (ninS (Ne.symm (Nat.ne_of_lt (Nat.lt_of_lt_of_le (((((((A101.ext E104).keep K107q).ext E110).keep K112q).keep K122q).ext E128).keep K130q).lt P140_0))) nin0))
  have F156 := (P140_5.keep K144q (ninS (Ne.symm (Nat.ne_of_lt (Nat.lt_of_lt_of_le (((((((A101.ext E104).keep K107q).ext E110).keep K112q).keep K122q).ext E128).keep K130q).lt P140_1))) nin0))
  exact Go.retRW Y B.1 hret rfl rfl rfl hlk (hb B.2 o351.1) hS128 (Nat.le_trans hk128 (Nat.le_trans (Nat.le_trans K130q.1 K140q.1) K144q.1)) hZ128 (hEW hw) CR152 ⟨b101, x_140, t_140, kt_140, rfl, N144, K152, (Nat.le_trans (Nat.le_refl _) (Nat.le_of_eq g101.symm)), (Nat.le_trans K137.1 P140_0), (Nat.le_trans K137.1 P140_1), P144_0, P144_1, P144_2, P144_3, F153, F154, F155, F156⟩ (by decide) (by decide)
def Q_nt1 (Z : State) (ds : List Int32) (h0 : Heap) (n0 : Nat) : QT := fun rv hE LE => ∃ o : Addr, ∃ mx : Addr, ∃ mt : Addr, ∃ mk : ClassId, rv = some (.ref o) ∧ Fr n0 LE ∧ Keep h0 hE [] ∧ (h0.size ≤ o) ∧ (h0.size ≤ mx) ∧ (h0.size ≤ mt) ∧ (Exa Z hE o ss11) ∧ (Unt hE o) ∧ (Fld Z hE o ss1 "cause" ss17 (.ref o)) ∧ (Fld Z hE o ss1 ss15 ss16 (.ref mx)) ∧ (Exa Z hE mx ss0) ∧ (Fld Z hE mx ss0 ss3 "B" (.int 0)) ∧ (Fld Z hE mx ss0 ss4 "[B" (.ref mt)) ∧ (Arv Z hE mt mk .byte (Int32.ofNat (((([] : List Int32) ++ T42) ++ ds) ++ T1).length) (B8 (((([] : List Int32) ++ T42) ++ ds) ++ T1)) (.int 0))
theorem rm_nt1 (l : Launch) (Z : State) (a0 : Array Value) (hw : HW a0 Z) (ws : List Jvm.Cond) (x t : Addr) (kt : ClassId) (ds : List Int32) (uv sv : Value) (G1 : Int32) (h0 : Heap) (n0 : Nat) (Z0 : n0 ≤ h0.size) (S0 : Exa Z h0 x ss0) (S1 : Fld Z h0 x ss0 ss3 "B" (.int 0)) (S2 : Fld Z h0 x ss0 ss4 "[B" (.ref t)) (S3 : Arv Z h0 t kt .byte (Int32.ofNat ds.length) (B8 ds) (.int 0)) (HDL : 1 ≤ ds.length ∧ ds.length ≤ 3) (hl : l.stackTraces = true) (SU : Sta Z Z.heap ss1 ss19 ss12 uv) (hu : uv.isRef = true) (SS : Sta Z Z.heap ss1 ss20 ss13 sv) (hv : sv.isRef = true) (O2 : Sta Z Z.heap ss0 ss8 "Z" (.int G1)) (P5 : ¬ (G1 = (0 : Int32))) (X00 : Old Z n0 h0) :
    MetFree l mn34 (head1 (Jvm.Cond.code mn34 cB34 1 (Option.some (Jvm.ClassFile.FieldType.object ss11)) :: ws) Ro24) (fun ar_ U => ar_ = #[(.ref x)] ∧ Z.Warmed39 U.vm ∧ U.heap = h0 ∧ CHv Z EL U.vm h0) (fun _ _ bl s _ => s.vm.MethodsKnown ∧ s.vm.FramesKnown bl) (fun _ U o_ U' => OutW Z EL U (Q_nt1 Z ds h0 n0) Ro24.cells Ro24.slots o_ U') := by
  refine MetFree.of_bodySF (plainFor_of_name opn_9) hisR ?_
  intro p e s m args below meth c s₁ Bd hml0 hP hK
  obtain ⟨rfl, hZ, hh, hCH⟩ := hP
  obtain ⟨hTK, hBelow⟩ := hK
  have hZ0 : Z.Warmed39 s.vm := hZ
  have B : HB p c _ := ⟨Bd.exec, Bd.bytes⟩
  have hml : c.maxLocals = 1 := hml0
  have hret := Bd.returns
  have hlk : meth.locks = false := BodyLoose.notSynchronized Bd
  have hown : s.vm.findClass ss11 = some m.cls := findClass_of_methodNamed Bd.named
  have hnm := (name_of_methodNamed Bd.named Bd.method).1
  have Y : Stand p l e Ro24 (s.setVm s.vm) m #[(.ref x)] below meth c s₁ [] 0 0 := Stand.of_body Bd
  have e0 : s₁.heap = h0 := by rw [← hh, Bd.state]; rfl
  have N0 := Fr.nil n0
  have hS0 : s.Since s.vm h0.size := (State.WarmedH.refl s).since _
  have CR0 : CHr Z EL s.vm s.heap s.vm h0 := by rw [hh]; exact CHr.refl hCH
  have K0 : Keep h0 h0 [] := Keep.refl h0 _
  show Go p e below (OutW Z EL s (Q_nt1 Z ds h0 n0) Ro24.cells Ro24.slots) s₁ (entryFrame m #[(.ref x)] 1)
  refine Go.cast (oef_nt1 m x) ?_
  show Go p e below _ _ (mkF m 0 #[rv x] [])
  refine zno Y B hZ hown (ow30 hw) (ow31 hw) (ow28 hw) e0 o338 rfl rfl fun T101 h101 b101 g101 Y e101 E101 A101 D101 U101 => ?_
  have R102 := CHr.ext E101 CR0.1
  have CR102 := CR0.trans R102
  have K102 := K0.ext E101
  have O102 := X00.ext E101
  have Sf103 : Safe Z EL s.vm h101 b101 := Safe.ext E101 CR0.1 (Safe.new (Nat.le_of_eq g101.symm))
  refine zdup Y B o339 rfl ?_
  refine zno Y B hZ hown (ow32 hw) (ow33 hw) (ow34 hw) e101 o340 rfl rfl fun T104 h104 b104 g104 Y e104 E104 A104 D104 U104 => ?_
  have R105 := CHr.ext E104 CR102.1
  have CR105 := CR102.trans R105
  have K105 := K102.ext E104
  have O105 := O102.ext E104
  have Sf106 : Safe Z EL s.vm h104 b104 := Safe.ext E104 CR102.1 (Safe.new (Nat.le_of_eq g104.symm))
  refine zdup Y B o341 rfl ?_
  refine zci Y B hZ rfl hown (ow35 hw) (ow36 hw) (ow34 hw) (ow37 hw) (by decide) (rm_sbinit0 l Z a0 hw [] b104 G1 h104 n0 (Nat.le_trans Z0 K105.1) A104 (D104 (Or.inl (ow49 hw)) (ty := .byte) (by decide)) (D104 (Or.inl (ow47 hw)) (ty := (.array .byte)) (by decide)) (D104 (Or.inl (ow73 hw)) (ty := .int) (by decide)) ((Nat.le_trans (Nat.le_trans Z0 K102.1) (Nat.le_of_eq g104.symm))) O2 P5 O105) e104 hml opd_19 rfl o342 rfl rfl rfl rfl rfl fun _ T107 _ Y hQ => ?_
  obtain ⟨v_107, kv_107, rfl, N107q, K107q, P107_0, P107_1, P107_2, P107_3, P107_4, P107_5, P107_6⟩ := hQ
  have N107 := Fr.app N0 N107q
  have R108 := CHr.keep K107q (allS (Safe.exa hZ.alike A104 (by decide) (by decide)) all0) CR105.1
  have CR108 := CR105.trans R108
  have K108 := K105.trans K107q (allS (Or.inr (Nat.le_trans K102.1 (Nat.le_of_eq g104.symm))) all0)
  have O108 := O105.keep K107q (allS (Nat.le_trans (Nat.le_trans Z0 K102.1) (Nat.le_of_eq g104.symm)) all0)
  have Sf109 : Safe Z EL s.vm T107.heap v_107 := Safe.keep K107q (allS (Safe.exa hZ.alike A104 (by decide) (by decide)) all0) CR105.1 (Safe.new P107_0)
  obtain ⟨sa110, T110, h110, k110, sb110, kb110, Y, e110, E110, hS110, hk110, hZ110, hown110, PE110, PC110, PV110, PA110, la110, lb110, R110, LT110, SF110, st110⟩ := ldcCH Y B.1 hZ hown (ow50 hw) (ostr hw) rfl hS0 (Nat.le_trans (Nat.le_refl _) K108.1) (hEW hw) (List.mem_of_getElem? (i := 0) rfl) CR108.1 (vs := ((([116, 104, 101, 32, 115, 116, 111, 114, 101, 32, 97, 108, 114, 101, 97, 100, 121, 32, 104, 111, 108, 100, 115, 32, 97, 32, 100, 111, 99, 117, 109, 101, 110, 116, 32, 110, 97, 109, 101, 100, 32, 39] : List Int32).map (fun c => c.toInt8.toInt32)).map Value.int)) (z := (42 : Int32)) (by decide +kernel) (by decide) (by decide) (g := (mkF m 11 #[rv x] [(.ref b104), (.ref b101), (.ref b101)])) rfl (hb B.2 o343.1) (n := 168) (by decide) (by decide) (by decide) (by decide)
  refine Go.by st110 ?_
  have CR111 := CR108.trans R110
  have K111 := K108.ext E110
  have O111 := O108.ext E110
  show Go p e below _ _ (mkF m 13 #[rv x] [(.ref sa110), (.ref b104), (.ref b101), (.ref b101)])
  have F113 := (P107_1.ext E110)
  have F114 := (P107_2.ext E110)
  have F115 := (P107_3.ext E110)
  have F116 := (P107_4.ext E110)
  have F117 := (P107_5.ext E110)
  have F118 := (P107_6.ext E110)
  refine zcv Y B hZ110 hown110 (ow51 hw) (ow52 hw) (notFace_of_selects (args := #[]) (mvT hZ110 (ow54 hw))) (ow54 hw) (ow53 hw) (ow34 hw) (ow55 hw) (by decide) F113 (rm_sbappS1 l Z a0 hw [] b104 v_107 kv_107 16 ([] : List Int32) sa110 sb110 kb110 T42 G1 h110 n0 (Nat.le_trans Z0 K111.1) F113 F114 F115 F116 F117 F118 PE110 PC110 PV110 PA110 (by refine ⟨?_, ?_⟩ <;> (try simp only [List.length_append, List.length_cons, List.length_nil, T42_len, T1_len]) <;> omega) (by unfold newCap; (try simp only [List.length_append, List.length_cons, List.length_nil, T42_len, T1_len]) <;> omega) (by (try simp only [List.length_append, List.length_cons, List.length_nil, T42_len, T1_len]) <;> omega) ((Nat.le_trans (Nat.le_trans Z0 K102.1) (Nat.le_of_eq g104.symm))) O2 P5 O111) e110 hml opd_20 rfl o344 rfl rfl rfl rfl rfl fun _ T112 _ Y hQ => ?_
  obtain ⟨tn_112, kn_112, rfl, N112q, K112q, P112_0, P112_1, P112_2, P112_3, P112_4, P112_5, P112_6⟩ := hQ
  have N112 := Fr.app N107 N112q
  have R119 := CHr.keep K112q (allS (Safe.exa hZ110.alike F113 (by decide) (by decide)) all0) CR111.1
  have CR119 := CR111.trans R119
  have K119 := K111.trans K112q (allS (Or.inr (Nat.le_trans K102.1 (Nat.le_of_eq g104.symm))) all0)
  have O119 := O111.keep K112q (allS (Nat.le_trans (Nat.le_trans Z0 K102.1) (Nat.le_of_eq g104.symm)) all0)
  have Sf120 : Safe Z EL T110.vm T112.heap tn_112 := Safe.keep K112q (allS (Safe.exa hZ110.alike F113 (by decide) (by decide)) all0) CR111.1 (Safe.new P112_0)
  have F121 : Arv Z T112.heap tn_112 kn_112 .byte (Int32.ofNat 42) (B8 (([] : List Int32) ++ T42)) (.int 0) := by have q := P112_5; rw [show newCap 16 (([] : List Int32).length + T42.length) = 42 from by unfold newCap; (try simp only [List.length_append, List.length_cons, List.length_nil, T42_len, T1_len]) <;> omega] at q; exact q
  refine zalN Y B o345 rfl ?_
  have F123 := (((((S0.ext E101).ext E104).keep K107q).ext E110).keep K112q)
  have F124 := (((((S1.ext E101).ext E104).keep K107q (ninS (Nat.ne_of_lt (Nat.lt_of_lt_of_le (S0.ext E101).lt (Nat.le_of_eq g104.symm))) nin0)).ext E110).keep K112q (ninS (Nat.ne_of_lt (Nat.lt_of_lt_of_le (S0.ext E101).lt (Nat.le_of_eq g104.symm))) nin0))
  have F125 := (((((S2.ext E101).ext E104).keep K107q (ninS (Nat.ne_of_lt (Nat.lt_of_lt_of_le (S0.ext E101).lt (Nat.le_of_eq g104.symm))) nin0)).ext E110).keep K112q (ninS (Nat.ne_of_lt (Nat.lt_of_lt_of_le (S0.ext E101).lt (Nat.le_of_eq g104.symm))) nin0))
  have F126 := (((((S3.ext E101).ext E104).keep K107q (ninS (Nat.ne_of_lt (Nat.lt_of_lt_of_le (S3.ext E101).lt (Nat.le_of_eq g104.symm))) nin0)).ext E110).keep K112q (ninS (Nat.ne_of_lt (Nat.lt_of_lt_of_le (S3.ext E101).lt (Nat.le_of_eq g104.symm))) nin0))
  refine zcv Y B hZ110 hown110 (ow51 hw) (ow52 hw) (notFace_of_selects (args := #[]) (mvT hZ110 (ow54 hw))) (ow54 hw) (ow53 hw) (ow34 hw) (ow55 hw) (by decide) P112_1 (rm_sbappS1 l Z a0 hw [] b104 tn_112 kn_112 42 (([] : List Int32) ++ T42) x t kt ds G1 T112.heap n0 (Nat.le_trans Z0 K119.1) P112_1 P112_2 P112_3 P112_4 F121 P112_6 F123 F124 F125 F126 (by refine ⟨?_, ?_⟩ <;> (try simp only [List.length_append, List.length_cons, List.length_nil, T42_len, T1_len]) <;> omega) (by unfold newCap; (try simp only [List.length_append, List.length_cons, List.length_nil, T42_len, T1_len]) <;> omega) (by (try simp only [List.length_append, List.length_cons, List.length_nil, T42_len, T1_len]) <;> omega) ((Nat.le_trans (Nat.le_trans Z0 K102.1) (Nat.le_of_eq g104.symm))) O2 P5 O119) rfl hml opd_20 rfl o346 rfl rfl rfl rfl rfl fun _ T122 _ Y hQ => ?_
  obtain ⟨tn_122, kn_122, rfl, N122q, K122q, P122_0, P122_1, P122_2, P122_3, P122_4, P122_5, P122_6⟩ := hQ
  have N122 := Fr.app N112 N122q
  have R127 := CHr.keep K122q (allS (Safe.exa hZ110.alike P112_1 (by decide) (by decide)) all0) CR119.1
  have CR127 := CR119.trans R127
  have K127 := K119.trans K122q (allS (Or.inr (Nat.le_trans K102.1 (Nat.le_of_eq g104.symm))) all0)
  have O127 := O119.keep K122q (allS (Nat.le_trans (Nat.le_trans Z0 K102.1) (Nat.le_of_eq g104.symm)) all0)
  have Sf128 : Safe Z EL T110.vm T122.heap tn_122 := Safe.keep K122q (allS (Safe.exa hZ110.alike P112_1 (by decide) (by decide)) all0) CR119.1 (Safe.new P122_0)
  have F129 : Arv Z T122.heap tn_122 kn_122 .byte (Int32.ofNat 86) (B8 ((([] : List Int32) ++ T42) ++ ds)) (.int 0) := by have q := P122_5; rw [show newCap 42 ((([] : List Int32) ++ T42).length + ds.length) = 86 from by unfold newCap; (try simp only [List.length_append, List.length_cons, List.length_nil, T42_len, T1_len]) <;> omega] at q; exact q
  obtain ⟨sa130, T130, h130, k130, sb130, kb130, Y, e130, E130, hS130, hk130, hZ130, hown130, PE130, PC130, PV130, PA130, la130, lb130, R130, LT130, SF130, st130⟩ := ldcCH Y B.1 hZ110 hown110 (ow122 hw) (ostr hw) rfl hS110 (Nat.le_trans hk110 (Nat.le_trans K112q.1 K122q.1)) (hEW hw) (List.mem_of_getElem? (i := 1) rfl) CR127.1 (vs := ((([39] : List Int32).map (fun c => c.toInt8.toInt32)).map Value.int)) (z := (1 : Int32)) (by decide +kernel) (by decide) (by decide) (g := (mkF m 20 #[rv x] [(.ref b104), (.ref b101), (.ref b101)])) rfl (hb B.2 o347.1) (n := 4) (by decide) (by decide) (by decide) (by decide)
  refine Go.by st130 ?_
  have CR131 := CR127.trans R130
  have K131 := K127.ext E130
  have O131 := O127.ext E130
  show Go p e below _ _ (mkF m 22 #[rv x] [(.ref sa130), (.ref b104), (.ref b101), (.ref b101)])
  have F133 := (P122_1.ext E130)
  have F134 := (P122_2.ext E130)
  have F135 := (P122_3.ext E130)
  have F136 := (P122_4.ext E130)
  have F137 := (F129.ext E130)
  have F138 := (P122_6.ext E130)
  refine zcv Y B hZ130 hown130 (ow51 hw) (ow52 hw) (notFace_of_selects (args := #[]) (mvT hZ130 (ow54 hw))) (ow54 hw) (ow53 hw) (ow34 hw) (ow55 hw) (by decide) F133 (rm_sbappS l Z a0 hw [] b104 tn_122 kn_122 86 ((([] : List Int32) ++ T42) ++ ds) sa130 sb130 kb130 T1 G1 h130 n0 (Nat.le_trans Z0 K131.1) F133 F134 F135 F136 F137 F138 PE130 PC130 PV130 PA130 (by (try simp only [List.length_append, List.length_cons, List.length_nil, T42_len, T1_len]) <;> omega) (by decide) ((Nat.le_trans (Nat.le_trans Z0 K119.1) P122_0)) ((Nat.le_trans (Nat.le_trans Z0 K102.1) (Nat.le_of_eq g104.symm))) O2 P5 O131) e130 hml opd_20 rfl o348 rfl rfl rfl rfl rfl fun _ T132 _ Y hQ => ?_
  obtain ⟨rfl, N132q, K132q, P132_0, P132_1, P132_2, P132_3, P132_4, P132_5⟩ := hQ
  have N132 := Fr.app N122 N132q
  have Sf140 : Safe Z EL T130.vm h130 tn_122 := (R130.safe P122_6.lt Sf128)
  have R139 := CHr.keep K132q (allS (Safe.exa hZ130.alike F133 (by decide) (by decide)) (allS Sf140 all0)) CR131.1
  have CR139 := CR131.trans R139
  have K139 := K131.trans K132q (allS (Or.inr (Nat.le_trans K102.1 (Nat.le_of_eq g104.symm))) (allS (Or.inr (Nat.le_trans K119.1 P122_0)) all0))
  have O139 := O131.keep K132q (allS (Nat.le_trans (Nat.le_trans Z0 K102.1) (Nat.le_of_eq g104.symm)) (allS (Nat.le_trans (Nat.le_trans Z0 K119.1) P122_0) all0))
  refine zcv Y B hZ130 hown130 (ow123 hw) (ow124 hw) (notFace_of_selects (args := #[]) (mvT hZ130 (ow126 hw))) (ow126 hw) (ow125 hw) (ow34 hw) (ow127 hw) (by decide) P132_0 (rm_tostr2 l Z a0 hw [] b104 tn_122 kn_122 (((([] : List Int32) ++ T42) ++ ds) ++ T1) 86 G1 T132.heap n0 (Nat.le_trans Z0 K139.1) P132_0 P132_1 P132_2 P132_3 P132_4 P132_5 (by (try simp only [List.length_append, List.length_cons, List.length_nil, T42_len, T1_len]) <;> omega) (by decide) (by (try simp only [List.length_append, List.length_cons, List.length_nil, T42_len, T1_len]) <;> omega) O2 P5 O139) rfl hml opd_21 rfl o349 rfl rfl rfl rfl rfl fun _ T141 _ Y hQ => ?_
  obtain ⟨x_141, t_141, kt_141, rfl, N141q, K141q, P141_0, P141_1, P141_2, P141_3, P141_4, P141_5⟩ := hQ
  have N141 := Fr.app N132 N141q
  have R142 := CHr.keep K141q all0 CR139.1
  have CR142 := CR139.trans R142
  have K142 := K139.trans K141q all0
  have O142 := O139.keep K141q all0
  have Sf143 : Safe Z EL T130.vm T141.heap x_141 := Safe.keep K141q all0 CR139.1 (Safe.new P141_0)
  have Sf144 : Safe Z EL T130.vm T141.heap t_141 := Safe.keep K141q all0 CR139.1 (Safe.new P141_1)
  have F146 := ((((((((A101.ext E104).keep K107q).ext E110).keep K112q).keep K122q).ext E130).keep K132q).keep K141q)
  have F147 := (((((((((show Unt h101 b101 from U101).ext E104).keep K107q (ninS (Nat.ne_of_lt (Nat.lt_of_lt_of_le A101.lt (Nat.le_of_eq g104.symm))) nin0)).ext E110).keep K112q (ninS (Nat.ne_of_lt (Nat.lt_of_lt_of_le A101.lt (Nat.le_of_eq g104.symm))) nin0)).keep K122q (ninS (Nat.ne_of_lt (Nat.lt_of_lt_of_le A101.lt (Nat.le_of_eq g104.symm))) nin0)).ext E130).keep K132q (ninS (Nat.ne_of_lt (Nat.lt_of_lt_of_le A101.lt (Nat.le_of_eq g104.symm))) (ninS (Nat.ne_of_lt (Nat.lt_of_lt_of_le ((((A101.ext E104).keep K107q).ext E110).keep K112q).lt P122_0)) nin0))).keep K141q nin0)
  have F148 := (((((((((D101 (Or.inl (ow178 hw)) (ty := (.object ss1)) (by decide)).ext E104).keep K107q (ninS (Nat.ne_of_lt (Nat.lt_of_lt_of_le A101.lt (Nat.le_of_eq g104.symm))) nin0)).ext E110).keep K112q (ninS (Nat.ne_of_lt (Nat.lt_of_lt_of_le A101.lt (Nat.le_of_eq g104.symm))) nin0)).keep K122q (ninS (Nat.ne_of_lt (Nat.lt_of_lt_of_le A101.lt (Nat.le_of_eq g104.symm))) nin0)).ext E130).keep K132q (ninS (Nat.ne_of_lt (Nat.lt_of_lt_of_le A101.lt (Nat.le_of_eq g104.symm))) (ninS (Nat.ne_of_lt (Nat.lt_of_lt_of_le ((((A101.ext E104).keep K107q).ext E110).keep K112q).lt P122_0)) nin0))).keep K141q nin0)
  have F149 := (((((((((D101 (Or.inl (ow181 hw)) (ty := (.array (.object ss6))) (by decide)).ext E104).keep K107q (ninS (Nat.ne_of_lt (Nat.lt_of_lt_of_le A101.lt (Nat.le_of_eq g104.symm))) nin0)).ext E110).keep K112q (ninS (Nat.ne_of_lt (Nat.lt_of_lt_of_le A101.lt (Nat.le_of_eq g104.symm))) nin0)).keep K122q (ninS (Nat.ne_of_lt (Nat.lt_of_lt_of_le A101.lt (Nat.le_of_eq g104.symm))) nin0)).ext E130).keep K132q (ninS (Nat.ne_of_lt (Nat.lt_of_lt_of_le A101.lt (Nat.le_of_eq g104.symm))) (ninS (Nat.ne_of_lt (Nat.lt_of_lt_of_le ((((A101.ext E104).keep K107q).ext E110).keep K112q).lt P122_0)) nin0))).keep K141q nin0)
  have F150 := (((((((((D101 (Or.inl (ow184 hw)) (ty := (.object ss7)) (by decide)).ext E104).keep K107q (ninS (Nat.ne_of_lt (Nat.lt_of_lt_of_le A101.lt (Nat.le_of_eq g104.symm))) nin0)).ext E110).keep K112q (ninS (Nat.ne_of_lt (Nat.lt_of_lt_of_le A101.lt (Nat.le_of_eq g104.symm))) nin0)).keep K122q (ninS (Nat.ne_of_lt (Nat.lt_of_lt_of_le A101.lt (Nat.le_of_eq g104.symm))) nin0)).ext E130).keep K132q (ninS (Nat.ne_of_lt (Nat.lt_of_lt_of_le A101.lt (Nat.le_of_eq g104.symm))) (ninS (Nat.ne_of_lt (Nat.lt_of_lt_of_le ((((A101.ext E104).keep K107q).ext E110).keep K112q).lt P122_0)) nin0))).keep K141q nin0)
  have F151 := (((((((((D101 (Or.inl (ow209 hw)) (ty := (.object ss10)) (by decide)).ext E104).keep K107q (ninS (Nat.ne_of_lt (Nat.lt_of_lt_of_le A101.lt (Nat.le_of_eq g104.symm))) nin0)).ext E110).keep K112q (ninS (Nat.ne_of_lt (Nat.lt_of_lt_of_le A101.lt (Nat.le_of_eq g104.symm))) nin0)).keep K122q (ninS (Nat.ne_of_lt (Nat.lt_of_lt_of_le A101.lt (Nat.le_of_eq g104.symm))) nin0)).ext E130).keep K132q (ninS (Nat.ne_of_lt (Nat.lt_of_lt_of_le A101.lt (Nat.le_of_eq g104.symm))) (ninS (Nat.ne_of_lt (Nat.lt_of_lt_of_le ((((A101.ext E104).keep K107q).ext E110).keep K112q).lt P122_0)) nin0))).keep K141q nin0)
  have F152 := (((((((((D101 (Or.inl (ow208 hw)) (ty := (.object ss0)) (by decide)).ext E104).keep K107q (ninS (Nat.ne_of_lt (Nat.lt_of_lt_of_le A101.lt (Nat.le_of_eq g104.symm))) nin0)).ext E110).keep K112q (ninS (Nat.ne_of_lt (Nat.lt_of_lt_of_le A101.lt (Nat.le_of_eq g104.symm))) nin0)).keep K122q (ninS (Nat.ne_of_lt (Nat.lt_of_lt_of_le A101.lt (Nat.le_of_eq g104.symm))) nin0)).ext E130).keep K132q (ninS (Nat.ne_of_lt (Nat.lt_of_lt_of_le A101.lt (Nat.le_of_eq g104.symm))) (ninS (Nat.ne_of_lt (Nat.lt_of_lt_of_le ((((A101.ext E104).keep K107q).ext E110).keep K112q).lt P122_0)) nin0))).keep K141q nin0)
  obtain ⟨_, _, ⟨T145, L145, k145, n145⟩, -, Y, ⟨Lc145, hQ145, l145, y145, z145⟩, st145⟩ := Y.specialBack B.1 (y := mn33) rfl hown130 (mvT hZ130 (ow162 hw)) (mvT hZ130 (ow163 hw)) (mvT hZ130 (ow164 hw)) (by decide) (backOfKL (W := 1) (rm_reini l Z a0 hw [] b101 x_141 uv sv T141.heap n0 (Nat.le_trans Z0 K142.1) F146 F147 F148 F149 F150 F151 F152 ((Nat.le_trans (Nat.le_trans Z0 (Nat.le_refl _)) (Nat.le_of_eq g101.symm))) hl SU hu SS hv O142) hZ130 (ow164 hw) (ow28 hw) (by decide) (by decide) (Vm.MethodsKnown.alikeC (hZ0.alike.symm.trans hZ130.alike) hTK) (Vm.FramesKnown.alikeC (hZ0.alike.symm.trans hZ130.alike) hBelow)) (g := (mkF m 28 #[rv x] [(.ref x_141), (.ref b101), (.ref b101)])) rfl (by rw [hml]; rfl) (Steps.refl _) (a := b101) (argsL := [(.ref x_141)]) (rest := [(.ref b101)]) (lenOf opd_5 rfl) rfl (by show 2 * 0 + _ ≤ _; exact Nat.le_of_eq rfl) (hb B.2 o350.1) (fun _ _ => ⟨rfl, rfl, (by decide : 11 + 1 ≤ _), (by decide : 468 + 2752 ≤ _)⟩)
  dsimp only [Pt.U, Pt.locs, Pt.cells, Pt.slots] at Y l145 y145 z145 st145 hQ145
  subst l145 y145 z145
  obtain ⟨rfl, N145q, K145q, P145_0, P145_1, P145_2, P145_3⟩ := hQ145
  have N145 := Fr.app N141 N145q
  refine Go.tr st145 ?_
  have R153 := CHr.keep K145q (allS (Safe.exa hZ130.alike F146 (by decide) (by decide)) all0) CR142.1
  have CR153 := CR142.trans R153
  have K153 := K142.trans K145q (allS (Or.inr (Nat.le_trans (Nat.le_refl _) (Nat.le_of_eq g101.symm))) all0)
  have O153 := O142.keep K145q (allS (Nat.le_trans (Nat.le_trans Z0 (Nat.le_refl _)) (Nat.le_of_eq g101.symm)) all0)
  have F154 := (P141_2.keep K145q)
  have F155 := (P141_3.keep K145q (ninS (Ne.symm (Nat.ne_of_lt (Nat.lt_of_lt_of_le (((((((A101.ext E104).keep K107q).ext E110).keep K112q).keep K122q).ext E130).keep K132q).lt P141_0))) nin0))
  have F156 := (P141_4.keep K145q (ninS (Ne.symm (Nat.ne_of_lt (Nat.lt_of_lt_of_le (((((((A101.ext E104).keep K107q).ext E110).keep K112q).keep K122q).ext E130).keep K132q).lt P141_0))) nin0))
  have F157 := (P141_5.keep K145q (ninS (Ne.symm (Nat.ne_of_lt (Nat.lt_of_lt_of_le (((((((A101.ext E104).keep K107q).ext E110).keep K112q).keep K122q).ext E130).keep K132q).lt P141_1))) nin0))
  exact Go.retRW Y B.1 hret rfl rfl rfl hlk (hb B.2 o351.1) hS130 (Nat.le_trans hk130 (Nat.le_trans (Nat.le_trans K132q.1 K141q.1) K145q.1)) hZ130 (hEW hw) CR153 ⟨b101, x_141, t_141, kt_141, rfl, N145, K153, (Nat.le_trans (Nat.le_refl _) (Nat.le_of_eq g101.symm)), (Nat.le_trans K139.1 P141_0), (Nat.le_trans K139.1 P141_1), P145_0, P145_1, P145_2, P145_3, F154, F155, F156, F157⟩ (by decide) (by decide)
def Q_iv0 (Z : State) (a1 : Addr) (h0 : Heap) (n0 : Nat) : QT := fun rv hE LE => ∃ t : Addr, ∃ kb : ClassId, rv = none ∧ Fr n0 LE ∧ Keep h0 hE [a1] ∧ (Exa Z hE a1 ss0) ∧ (Fld Z hE a1 ss0 ss3 "B" (.int 0)) ∧ (Fld Z hE a1 ss0 ss4 "[B" (.ref t)) ∧ (Arv Z hE t kb .byte (0 : Int32) (B8 []) (.int 0))
theorem rm_iv0 (l : Launch) (Z : State) (a0 : Array Value) (hw : HW a0 Z) (ws : List Jvm.Cond) (a1 a2 : Addr) (h0 : Heap) (n0 : Nat) (Z0 : n0 ≤ h0.size) (E1 : Exa Z h0 a1 ss0) (g_a1 : n0 ≤ a1) (F1 : Fld Z h0 a1 ss0 ss4 "[B" .null) (F2 : Fld Z h0 a1 ss0 ss3 "B" (.int 0)) :
    MetFree l mn35 (head1 (Jvm.Cond.code mn35 cB35 6 (Option.none : Option Jvm.ClassFile.FieldType) :: ws) Ro25) (fun ar_ U => ar_ = #[(.ref a1), (.ref a2), (.int 0), (.int 0), .null] ∧ Z.Warmed39 U.vm ∧ U.heap = h0 ∧ CHv Z EL U.vm h0) (fun _ _ _ _ _ => True) (fun _ U o_ U' => OutW Z EL U (Q_iv0 Z a1 h0 n0) Ro25.cells Ro25.slots o_ U') := by
  refine MetFree.of_bodySF (plainFor_of_name opn_0) hisR ?_
  intro p e s m args below meth c s₁ Bd hml0 hP hK
  obtain ⟨rfl, hZ, hh, hCH⟩ := hP
  have B : HB p c _ := ⟨Bd.exec, Bd.bytes⟩
  have hml : c.maxLocals = 6 := hml0
  have hret := Bd.returns
  have hlk : meth.locks = false := BodyLoose.notSynchronized Bd
  have hown : s.vm.findClass ss0 = some m.cls := findClass_of_methodNamed Bd.named
  have hnm := (name_of_methodNamed Bd.named Bd.method).1
  have Y : Stand p l e Ro25 (s.setVm s.vm) m #[(.ref a1), (.ref a2), (.int 0), (.int 0), .null] below meth c s₁ [] 0 0 := Stand.of_body Bd
  have e0 : s₁.heap = h0 := by rw [← hh, Bd.state]; rfl
  have N0 := Fr.nil n0
  have hS0 : s.Since s.vm h0.size := (State.WarmedH.refl s).since _
  have CR0 : CHr Z EL s.vm s.heap s.vm h0 := by rw [hh]; exact CHr.refl hCH
  have K0 : Keep h0 h0 [a1] := Keep.refl h0 _
  show Go p e below (OutW Z EL s (Q_iv0 Z a1 h0 n0) Ro25.cells Ro25.slots) s₁ (entryFrame m #[(.ref a1), (.ref a2), (.int 0), (.int 0), .null] 6)
  refine Go.cast (oef_iv0 m a1 a2 (0 : Int32) (0 : Int32)) ?_
  show Go p e below _ _ (mkF m 0 #[rv a1, rv a2, iv 0, iv 0, .val .null, un] [])
  have Sf0 : Safe Z EL s.vm h0 a1 := safe_str hZ.alike E1 F1
  refine zalN Y B o352 rfl ?_
  refine Go.a3 (initO Y B.1 hZ hown (ow15 hw) (ow16 hw) (ow17 hw) e0 rfl (by rw [hml]; rfl) rfl (hb B.2 o353.1) (by decide) (W := 0) (by show 2 * 0 + _ ≤ _; exact Nat.le_of_eq rfl) (by decide)) fun _ Y e101 => ?_
  refine zilN Y B o354 rfl <| zN Y B o355 (by decide) ?_
  refine zalN Y B o356 rfl ?_
  obtain ⟨sa102, T102, h102, k102, sb102, kb102, Y, e102, E102, hS102, hk102, hZ102, hown102, PE102, PC102, PV102, PA102, la102, lb102, R102, LT102, SF102, st102⟩ := ldcCH Y B.1 hZ hown (ow18 hw) (ostr hw) e101 hS0 (Nat.le_trans (Nat.le_refl _) (Nat.le_refl _)) (hEW hw) (List.mem_of_getElem? (i := 3) rfl) CR0.1 (vs := ((([] : List Int32).map (fun c => c.toInt8.toInt32)).map Value.int)) (z := (0 : Int32)) (by decide +kernel) (by decide) (by decide) (g := (mkF m 9 #[rv a1, rv a2, iv 0, iv 0, .val .null, un] [(.ref a1)])) rfl (hb B.2 o357.1) (n := 0) (by decide) (by decide) (by decide) (by decide)
  refine Go.by st102 ?_
  have CR103 := CR0.trans R102
  have K103 := K0.ext E102
  show Go p e below _ _ (mkF m 11 #[rv a1, rv a2, iv 0, iv 0, .val .null, un] [(.ref sa102), (.ref a1)])
  refine zgf Y B hZ102 hown102 (ow24 hw) Via.refl e102 PV102 o358 fun _ Y e104 => ?_
  have F106 := (F1.ext E102)
  have F107 := (E1.ext E102)
  refine Go.b3 (putF Y B.1 hZ102 hown102 (host := "") (Or.inl (ow24 hw)) Via.refl e104 F106 F107 (Or.inr ⟨(ow20 hw), rfl, hnm⟩) (ow5 hw) (ty := (.array .byte)) (by decide) rfl rfl rfl rfl (hb B.2 o359.1)) fun T105 h105 Y e105 W105 => ?_
  have N105 := Fr.snoc Y N0 g_a1
  have Sf109 : Safe Z EL T102.vm h102 a1 := (R102.safe E1.lt Sf0)
  have R108 := CHr.wr W105 Sf109 CR103.1
  have CR108 := CR103.trans R108
  have K108 := K103.wr W105 (Or.inl (List.mem_of_getElem? (i := 0) rfl))
  refine zalN Y B o360 rfl ?_
  obtain ⟨sa110, T110, h110, k110, sb110, kb110, Y, e110, E110, hS110, hk110, hZ110, hown110, PE110, PC110, PV110, PA110, la110, lb110, R110, LT110, SF110, st110⟩ := ldcCH Y B.1 hZ102 hown102 (ow18 hw) (ostr hw) e105 hS102 (Nat.le_trans hk102 (Keep.of_wr W105).1) (hEW hw) (List.mem_of_getElem? (i := 3) rfl) CR108.1 (vs := ((([] : List Int32).map (fun c => c.toInt8.toInt32)).map Value.int)) (z := (0 : Int32)) (by decide +kernel) (by decide) (by decide) (g := (mkF m 18 #[rv a1, rv a2, iv 0, iv 0, .val .null, un] [(.ref a1)])) rfl (hb B.2 o361.1) (n := 0) (by decide) (by decide) (by decide) (by decide)
  refine Go.by st110 ?_
  have CR111 := CR108.trans R110
  have K111 := K108.ext E110
  show Go p e below _ _ (mkF m 20 #[rv a1, rv a2, iv 0, iv 0, .val .null, un] [(.ref sa110), (.ref a1)])
  refine zgf Y B hZ110 hown110 (ow25 hw) Via.refl e110 PC110 o362 fun _ Y e112 => ?_
  have F114 := (((F2.ext E102).other W105 (Or.inr (slot_ne (Or.inr (ow21 hw)) (Or.inr (ow20 hw)) (by decide) (t := .byte) (t' := (.array .byte)) (by decide) (by decide)))).ext E110)
  have F115 := ((F107.wr W105).ext E110)
  refine Go.b3 (putFN Y B.1 hZ110 hown110 (ow25 hw) Via.refl e112 F114 F115 (Or.inr ⟨(ow21 hw), rfl, hnm⟩) (ow5 hw) (ty := .byte) (v' := (.int (nar .byte (0 : Int32)))) (by decide) rfl (fits_nar_byte _) rfl rfl (hb B.2 o363.1)) fun T113 h113 Y e113 W113 => ?_
  have N113 := Fr.snoc Y N105 g_a1
  have Sf117 : Safe Z EL T110.vm h110 a1 := (R110.safe (F107.wr W105).lt (R108.safe F107.lt Sf109))
  have R116 := CHr.wr W113 Sf117 CR111.1
  have CR116 := CR111.trans R116
  have K116 := K111.wr W113 (Or.inl (List.mem_of_getElem? (i := 0) rfl))
  have F118 := (F115.wr W113)
  have F119 := (((F106.same W105).ext E110).other W113 (Or.inr (slot_ne (Or.inr (ow20 hw)) (Or.inr (ow21 hw)) (by decide) (t := (.array .byte)) (t' := .byte) (by decide) (by decide))))
  have F120 := (((PA102.other W105 (Ne.symm (SF102 a1 Sf109).2)).ext E110).other W113 (Ne.symm (SF102 a1 Sf109).2))
  exact Go.ret0W Y B.1 hret hlk (hb B.2 o364.1) hS110 (by rw [e113]; exact (Nat.le_trans hk110 (Keep.of_wr W113).1)) hZ110 (hEW hw) (by rw [e113]; exact CR116) (by first | (rw [e113]; exact ⟨sb102, kb102, rfl, N113, K116, F118, (F114.same W113), F119, F120⟩) | exact ⟨sb102, kb102, rfl, N113, K116, F118, (F114.same W113), F119, F120⟩) (by decide) (by decide)
def Q_ic0 (Z : State) (a1 : Addr) (h0 : Heap) (n0 : Nat) : QT := fun rv hE LE => ∃ t : Addr, ∃ kb : ClassId, rv = none ∧ Fr n0 LE ∧ Keep h0 hE [a1] ∧ (Exa Z hE a1 ss0) ∧ (Fld Z hE a1 ss0 ss3 "B" (.int 0)) ∧ (Fld Z hE a1 ss0 ss4 "[B" (.ref t)) ∧ (Arv Z hE t kb .byte (0 : Int32) (B8 []) (.int 0))
theorem rm_ic0 (l : Launch) (Z : State) (a0 : Array Value) (hw : HW a0 Z) (ws : List Jvm.Cond) (a1 a2 : Addr) (k2 : ClassId) (h0 : Heap) (n0 : Nat) (Z0 : n0 ≤ h0.size) (E1 : Exa Z h0 a1 ss0) (g_a1 : n0 ≤ a1) (F1 : Fld Z h0 a1 ss0 ss4 "[B" .null) (F2 : Fld Z h0 a1 ss0 ss3 "B" (.int 0)) (V2 : Arv Z h0 a2 k2 .char (0 : Int32) ([]) (.int 0)) :
    MetFree l mn36 (head1 (Jvm.Cond.code mn36 cB36 2 (Option.none : Option Jvm.ClassFile.FieldType) :: ws) Ro26) (fun ar_ U => ar_ = #[(.ref a1), (.ref a2)] ∧ Z.Warmed39 U.vm ∧ U.heap = h0 ∧ CHv Z EL U.vm h0) (fun _ _ _ _ _ => True) (fun _ U o_ U' => OutW Z EL U (Q_ic0 Z a1 h0 n0) Ro26.cells Ro26.slots o_ U') := by
  refine MetFree.of_bodySF (plainFor_of_name opn_0) hisR ?_
  intro p e s m args below meth c s₁ Bd hml0 hP hK
  obtain ⟨rfl, hZ, hh, hCH⟩ := hP
  have B : HB p c _ := ⟨Bd.exec, Bd.bytes⟩
  have hml : c.maxLocals = 2 := hml0
  have hret := Bd.returns
  have hlk : meth.locks = false := BodyLoose.notSynchronized Bd
  have hown : s.vm.findClass ss0 = some m.cls := findClass_of_methodNamed Bd.named
  have hnm := (name_of_methodNamed Bd.named Bd.method).1
  have Y : Stand p l e Ro26 (s.setVm s.vm) m #[(.ref a1), (.ref a2)] below meth c s₁ [] 0 0 := Stand.of_body Bd
  have e0 : s₁.heap = h0 := by rw [← hh, Bd.state]; rfl
  have N0 := Fr.nil n0
  have hS0 : s.Since s.vm h0.size := (State.WarmedH.refl s).since _
  have CR0 : CHr Z EL s.vm s.heap s.vm h0 := by rw [hh]; exact CHr.refl hCH
  have K0 : Keep h0 h0 [a1] := Keep.refl h0 _
  show Go p e below (OutW Z EL s (Q_ic0 Z a1 h0 n0) Ro26.cells Ro26.slots) s₁ (entryFrame m #[(.ref a1), (.ref a2)] 2)
  refine Go.cast (oef_ic0 m a1 a2) ?_
  show Go p e below _ _ (mkF m 0 #[rv a1, rv a2] [])
  have Sf0 : Safe Z EL s.vm h0 a1 := safe_str hZ.alike E1 F1
  refine zalN Y B o365 rfl <| zalN Y B o366 rfl <| zc0 Y B o367 <| zalN Y B o368 rfl ?_
  refine zln Y B hZ e0 V2 o369 ?_
  refine znull Y B o370 ?_
  obtain ⟨_, _, ⟨T102, L102, k102, n102⟩, -, XX102, hSn102, hgn102, ⟨Lc102, hQ102, l102, y102, z102, RQ102⟩, st102⟩ := Y.specialBackS B.1 (y := mn35) rfl hown (mvT hZ (ow11 hw)) (mvT hZ (ow12 hw)) (mvT hZ (ow14 hw)) (by decide) (backOfSH (W := 0) (rm_iv0 l Z a0 hw [] a1 a2 h0 n0 (Nat.le_trans Z0 (Nat.le_refl _)) E1 g_a1 F1 F2) hZ (ow14 hw) (ow6 hw) (by decide) (by decide) (hEW hw) CR0.1) (g := (mkF m 6 #[rv a1, rv a2] [.null, (.int 0), (.int 0), (.ref a2), (.ref a1)])) rfl (by rw [hml]; rfl) (Steps.refl _) (a := a1) (argsL := [(.ref a2), (.int 0), (.int 0), .null]) (rest := []) (lenOf opd_22 rfl) rfl (by show 2 * 0 + _ ≤ _; exact Nat.le_of_eq rfl) (hb B.2 o371.1) (fun _ _ => ⟨rfl, e0, (by decide : 0 + 4 ≤ _), (by decide : 0 + 8 ≤ _)⟩)
  dsimp only [Pt.U, Pt.locs, Pt.cells, Pt.slots] at XX102 hSn102 hgn102 l102 y102 z102 st102 hQ102 RQ102
  subst l102 y102 z102
  obtain ⟨Y, hS102, hZ102, hown102⟩ := rebS hS0 (by rw [e0]; exact (Nat.le_trans (Nat.le_refl _) (Nat.le_refl _))) XX102 hSn102 hgn102 hZ hown
  obtain ⟨t_102, kb_102, rfl, N102q, K102q, P102_0, P102_1, P102_2, P102_3⟩ := hQ102
  have N102 := Fr.app N0 N102q
  refine Go.tr st102 ?_
  have CR103 := CR0.trans RQ102
  have K103 := K0.trans K102q (allS (Or.inl (List.mem_of_getElem? (i := 0) rfl)) all0)
  exact Go.ret0W Y B.1 hret hlk (hb B.2 o372.1) hS102 (Nat.le_trans (Nat.le_refl _) (Nat.le_refl _)) hZ102 (hEW hw) CR103 ⟨t_102, kb_102, rfl, N102, K103, P102_0, P102_1, P102_2, P102_3⟩ (by decide) (by decide)
def Q_mk0 (Z : State)  (h0 : Heap) (n0 : Nat) : QT := fun rv hE LE => ∃ x : Addr, ∃ t : Addr, ∃ kt : ClassId, rv = some (.ref x) ∧ Fr n0 LE ∧ Keep h0 hE [] ∧ (h0.size ≤ x) ∧ (Exa Z hE x ss0) ∧ (Fld Z hE x ss0 ss3 "B" (.int 0)) ∧ (Fld Z hE x ss0 ss4 "[B" (.ref t)) ∧ (Arv Z hE t kt .byte (Int32.ofNat ([] : List Int32).length) (B8 ([] : List Int32)) (.int 0))
theorem rm_mk0 (l : Launch) (Z : State) (a0 : Array Value) (hw : HW a0 Z) (ws : List Jvm.Cond) (c0 c1 c2 G1 : Int32) (h0 : Heap) (n0 : Nat) (Z0 : n0 ≤ h0.size) (L0 : ¬ c0 < 0 ∧ ¬ (255 : Int32) < c0) (L1 : ¬ c1 < 0 ∧ ¬ (255 : Int32) < c1) (L2 : ¬ c2 < 0 ∧ ¬ (255 : Int32) < c2) (O2 : Sta Z Z.heap ss0 ss8 "Z" (.int G1)) (P5 : ¬ (G1 = (0 : Int32))) (X00 : Old Z n0 h0) :
    MetFree l mn37 (head1 (Jvm.Cond.code mn37 cB37 4 (Option.some (Jvm.ClassFile.FieldType.object ss0)) :: ws) Ro27) (fun ar_ U => ar_ = #[(.int 0), (.int c0), (.int c1), (.int c2)] ∧ Z.Warmed39 U.vm ∧ U.heap = h0 ∧ CHv Z EL U.vm h0) (fun _ _ _ _ _ => True) (fun _ U o_ U' => OutW Z EL U (Q_mk0 Z  h0 n0) Ro27.cells Ro27.slots o_ U') := by
  refine MetFree.of_bodySF (plainFor_of_name opn_10) hisR ?_
  intro p e s m args below meth c s₁ Bd hml0 hP hK
  obtain ⟨rfl, hZ, hh, hCH⟩ := hP
  have B : HB p c _ := ⟨Bd.exec, Bd.bytes⟩
  have hml : c.maxLocals = 4 := hml0
  have hret := Bd.returns
  have hlk : meth.locks = false := BodyLoose.notSynchronized Bd
  have hown : s.vm.findClass ss14 = some m.cls := findClass_of_methodNamed Bd.named
  have hnm := (name_of_methodNamed Bd.named Bd.method).1
  have Y : Stand p l e Ro27 (s.setVm s.vm) m #[(.int 0), (.int c0), (.int c1), (.int c2)] below meth c s₁ [] 0 0 := Stand.of_body Bd
  have e0 : s₁.heap = h0 := by rw [← hh, Bd.state]; rfl
  have N0 := Fr.nil n0
  have hS0 : s.Since s.vm h0.size := (State.WarmedH.refl s).since _
  have CR0 : CHr Z EL s.vm s.heap s.vm h0 := by rw [hh]; exact CHr.refl hCH
  have K0 : Keep h0 h0 [] := Keep.refl h0 _
  show Go p e below (OutW Z EL s (Q_mk0 Z  h0 n0) Ro27.cells Ro27.slots) s₁ (entryFrame m #[(.int 0), (.int c0), (.int c1), (.int c2)] 4)
  refine Go.cast (oef_mk0 m (0 : Int32) c0 c1 c2) ?_
  show Go p e below _ _ (mkF m 0 #[iv 0, iv c0, iv c1, iv c2] [])
  have e_0 := (lo_back L0).2
  have e_1 := (lo_back L1).2
  have e_2 := (lo_back L2).2
  refine zilN Y B o373 rfl <| zN Y B o374 (by decide) ?_
  refine zno Y B hZ hown (ow4 hw) (ow5 hw) (ow6 hw) e0 o375 rfl rfl fun T101 h101 b101 g101 Y e101 E101 A101 D101 U101 => ?_
  have R102 := CHr.ext E101 CR0.1
  have CR102 := CR0.trans R102
  have K102 := K0.ext E101
  have O102 := X00.ext E101
  have Sf103 : Safe Z EL s.vm h101 b101 := Safe.ext E101 CR0.1 (Safe.new (Nat.le_of_eq g101.symm))
  refine zdup Y B o376 rfl <| zc0 Y B o377 ?_
  refine znp Y B hZ (aty := .char) (ow7 hw) e101 o378 (by decide) (cap := 0) (by decide) rfl rfl rfl fun T104 h104 k104 b104 g104 Y e104 E104 A104 => ?_
  have R105 := CHr.ext E104 CR102.1
  have CR105 := CR102.trans R105
  have K105 := K102.ext E104
  have O105 := O102.ext E104
  have Sf106 : Safe Z EL s.vm h104 b104 := Safe.ext E104 CR102.1 (Safe.new (Nat.le_of_eq g104.symm))
  have V104 : Arv Z h104 b104 k104 .char (0 : Int32) [] (.int 0) := (Arv.new A104 (by decide)).pad (pad_rep [] (.int 0) 0)
  have F108 := (A101.ext E104)
  have F109 := ((D101 (Or.inr (ow20 hw)) (ty := (.array .byte)) (by decide)).ext E104)
  have F110 := ((D101 (Or.inr (ow21 hw)) (ty := .byte) (by decide)).ext E104)
  obtain ⟨_, _, ⟨T107, L107, k107, n107⟩, -, XX107, hSn107, hgn107, ⟨Lc107, hQ107, l107, y107, z107, RQ107⟩, st107⟩ := Y.specialBackS B.1 (y := mn36) rfl hown (mvT hZ (ow8 hw)) (mvT hZ (ow9 hw)) (mvT hZ (ow10 hw)) (by decide) (backOfSH (W := 1) (rm_ic0 l Z a0 hw [] b101 b104 k104 h104 n0 (Nat.le_trans Z0 K105.1) F108 ((Nat.le_trans (Nat.le_trans Z0 (Nat.le_refl _)) (Nat.le_of_eq g101.symm))) F109 F110 V104) hZ (ow10 hw) (ow6 hw) (by decide) (by decide) (hEW hw) CR105.1) (g := (mkF m 11 #[iv 0, iv c0, iv c1, iv c2] [(.ref b104), (.ref b101), (.ref b101)])) rfl (by rw [hml]; rfl) (Steps.refl _) (a := b101) (argsL := [(.ref b104)]) (rest := [(.ref b101)]) (lenOf opd_23 rfl) rfl (by show 2 * 0 + _ ≤ _; exact Nat.le_of_eq rfl) (hb B.2 o379.1) (fun _ _ => ⟨rfl, e104, (by decide : 2 + 4 ≤ _), (by decide : 4 + 8 ≤ _)⟩)
  dsimp only [Pt.U, Pt.locs, Pt.cells, Pt.slots] at XX107 hSn107 hgn107 l107 y107 z107 st107 hQ107 RQ107
  subst l107 y107 z107
  obtain ⟨Y, hS107, hZ107, hown107⟩ := rebS hS0 (by rw [e104]; exact (Nat.le_trans (Nat.le_refl _) K105.1)) XX107 hSn107 hgn107 hZ hown
  obtain ⟨t_107, kb_107, rfl, N107q, K107q, P107_0, P107_1, P107_2, P107_3⟩ := hQ107
  have N107 := Fr.app N0 N107q
  refine Go.tr st107 ?_
  have CR111 := CR105.trans RQ107
  have K111 := K105.trans K107q (allS (Or.inr (Nat.le_trans (Nat.le_refl _) (Nat.le_of_eq g101.symm))) all0)
  have O111 := O105.keep K107q (allS (Nat.le_trans (Nat.le_trans Z0 (Nat.le_refl _)) (Nat.le_of_eq g101.symm)) all0)
  exact Go.retRW Y B.1 hret rfl rfl rfl hlk (hb B.2 o380.1) hS107 (Nat.le_trans (Nat.le_refl _) (Nat.le_refl _)) hZ107 (hEW hw) CR111 ⟨b101, t_107, kb_107, rfl, N107, K111, (Nat.le_trans (Nat.le_refl _) (Nat.le_of_eq g101.symm)), P107_0, P107_1, P107_2, P107_3⟩ (by decide) (by decide)
def Q_mk1 (Z : State) (c0 : Int32) (h0 : Heap) (n0 : Nat) : QT := fun rv hE LE => ∃ x : Addr, ∃ t : Addr, ∃ kt : ClassId, rv = some (.ref x) ∧ Fr n0 LE ∧ Keep h0 hE [] ∧ (h0.size ≤ x) ∧ (Exa Z hE x ss0) ∧ (Fld Z hE x ss0 ss3 "B" (.int 0)) ∧ (Fld Z hE x ss0 ss4 "[B" (.ref t)) ∧ (Arv Z hE t kt .byte (Int32.ofNat ([c0] : List Int32).length) (B8 ([c0] : List Int32)) (.int 0))
theorem rm_mk1 (l : Launch) (Z : State) (a0 : Array Value) (hw : HW a0 Z) (ws : List Jvm.Cond) (c0 c1 c2 G1 : Int32) (h0 : Heap) (n0 : Nat) (Z0 : n0 ≤ h0.size) (L0 : ¬ c0 < 0 ∧ ¬ (255 : Int32) < c0) (L1 : ¬ c1 < 0 ∧ ¬ (255 : Int32) < c1) (L2 : ¬ c2 < 0 ∧ ¬ (255 : Int32) < c2) (O2 : Sta Z Z.heap ss0 ss8 "Z" (.int G1)) (P5 : ¬ (G1 = (0 : Int32))) (X00 : Old Z n0 h0) :
    MF l Z mn37 (Jvm.Cond.code mn37 cB37 4 (Option.some (Jvm.ClassFile.FieldType.object ss0))) ws Ro28 #[(.int 1), (.int c0), (.int c1), (.int c2)] h0 (Q_mk1 Z c0 h0 n0) := by
  refine MF.of ss14 rfl #[iv 1, iv c0, iv c1, iv c2] (plainFor_of_name opn_10) (fun _ => rfl) ?_
  intro p e s m below meth c _ hZ hh B hml hret hlk hown hnm Y e0
  have N0 := Fr.nil n0
  have K0 := Keep.refl h0 []
  have e_0 := (lo_back L0).2
  have e_1 := (lo_back L1).2
  have e_2 := (lo_back L2).2
  refine zilN Y B o373 rfl <| zY Y B j17 (by decide) ?_
  refine zilN Y B o381 rfl <| zc1 Y B o382 <| zCN Y B o383 (by decide) ?_
  refine zno Y B hZ hown (ow4 hw) (ow5 hw) (ow6 hw) e0 o384 rfl rfl fun T101 h101 b101 g101 Y e101 E101 A101 D101 U101 => ?_
  have K102 := K0.ext E101
  have O102 := X00.ext E101
  refine zdup Y B o385 rfl <| zc1 Y B o386 ?_
  refine znp Y B hZ (aty := .char) (ow7 hw) e101 o387 (by decide) (cap := 1) (by decide) rfl rfl rfl fun T103 h103 k103 b103 g103 Y e103 E103 A103 => ?_
  have K104 := K102.ext E103
  have O104 := O102.ext E103
  have V103 : Arv Z h103 b103 k103 .char (1 : Int32) [(.int 0)] (.int 0) := (Arv.new A103 (by decide)).pad (pad_rep [] (.int 0) 1)
  refine zdup Y B o388 rfl <| zc0 Y B o389 <| zilN Y B o390 rfl ?_
  obtain ⟨c105, A105, q105, S105, M105, G105, J105⟩ := id V103
  refine Go.b1 (stC Y B.1 hZ e103 A105 (j := (0 : Int32)) (inb_of S105 ⟨by decide, by decide⟩) rfl rfl (hb B.2 o391.1)) fun T105 h105 Y e105 W105 => ?_
  have N105 := Fr.snoc Y N0 (Nat.le_trans (Nat.le_trans Z0 K102.1) (Nat.le_of_eq g103.symm))
  have K106 := K104.wr W105 (Or.inr (Nat.le_trans K102.1 (Nat.le_of_eq g103.symm)))
  have O106 := O104.wr W105 (Nat.le_trans (Nat.le_trans Z0 K102.1) (Nat.le_of_eq g103.symm))
  have V105 : Arv Z h105 b103 k103 .char (1 : Int32) ([(.int (nar .char c0))]) (.int 0) := Arv.set A105 q105 S105 M105 G105 J105 (fits_nar_char _) W105 0 rfl (Nat.le_of_ble_eq_true rfl)
  rw [e_0] at V105
  have hp : ∀ c ∈ ([c0] : List Int32), ¬ c < 0 ∧ ¬ (255 : Int32) < c := by
    intro c hc; simp only [List.mem_cons, List.not_mem_nil, or_false] at hc; rcases hc with rfl
    · exact L0
  have hws : ∀ d ∈ StrChars.Road.words, d.before a0 Z = true := fun d hd => hw d ((by decide +kernel : ∀ d ∈ StrChars.Road.words, d ∈ tables_1) d hd)
  have F108 := ((A101.ext E103).wr W105)
  have F109 := (((D101 (Or.inr (ow20 hw)) (ty := (.array .byte)) (by decide)).ext E103).other W105 (Or.inl (Nat.ne_of_lt (Nat.lt_of_lt_of_le A101.lt (Nat.le_of_eq g103.symm)))))
  have F110 := (((D101 (Or.inr (ow21 hw)) (ty := .byte) (by decide)).ext E103).other W105 (Or.inl (Nat.ne_of_lt (Nat.lt_of_lt_of_le A101.lt (Nat.le_of_eq g103.symm)))))
  obtain ⟨_, _, ⟨T107, L107, k107, n107⟩, -, Y, ⟨Lc107, hQ107, l107, y107, z107⟩, st107⟩ := Y.specialBack B.1 (y := mn36) rfl hown (mvT hZ (ow8 hw)) (mvT hZ (ow9 hw)) (mvT hZ (ow10 hw)) (by decide) (StrChars.Road.backV (W := 1) hZ hws (kI := 4) (ow5 hw) (cs := ([c0] : List Int32)) (bs := ([c0] : List Int32).map (fun c => c.toInt8.toInt32)) (n := 1) (Nat.le_trans (Nat.le_trans Z0 (Nat.le_refl _)) (Nat.le_of_eq g101.symm)) (Nat.le_trans Z0 K106.1) F108 F109 F110 V105 (O2.ext O106.2) P5 rfl rfl (by decide) (by decide) hp rfl (by decide) (by decide)) (g := (mkF m 31 #[iv 1, iv c0, iv c1, iv c2] [(.ref b103), (.ref b101), (.ref b101)])) rfl (by rw [hml]; rfl) (Steps.refl _) (a := b101) (argsL := [(.ref b103)]) (rest := [(.ref b101)]) (lenOf opd_23 rfl) rfl (by show 2 * 0 + _ ≤ _; exact Nat.le_of_eq rfl) (hb B.2 o392.1) (fun _ _ => ⟨rfl, e105, (by decide : 2 + 1 ≤ _), (by decide : 5 + 1 ≤ _)⟩)
  dsimp only [Pt.U, Pt.locs, Pt.cells, Pt.slots] at Y l107 y107 z107 st107 hQ107
  subst l107 y107 z107
  obtain ⟨rfl, N107q, K107q, PE107, PC107, t107, kb107, -, u107, v107, PV107, PA107⟩ := hQ107
  have N107 := Fr.app N105 N107q
  refine Go.tr st107 ?_
  have K111 := K106.trans K107q (allS (Or.inr (Nat.le_trans (Nat.le_refl _) (Nat.le_of_eq g101.symm))) all0)
  have O111 := O106.keep K107q (allS (Nat.le_trans (Nat.le_trans Z0 (Nat.le_refl _)) (Nat.le_of_eq g101.symm)) all0)
  show Go p e below _ _ (mkF m 34 #[iv 1, iv c0, iv c1, iv c2] [(.ref b101)])
  exact zrR Y B hret rfl rfl rfl hlk o393 rfl ⟨b101, t107, kb107, rfl, N107, K111, (Nat.le_trans (Nat.le_refl _) (Nat.le_of_eq g101.symm)), PE107, PC107, PV107, PA107⟩ rfl rfl
def Q_mk2 (Z : State) (c0 c1 : Int32) (h0 : Heap) (n0 : Nat) : QT := fun rv hE LE => ∃ x : Addr, ∃ t : Addr, ∃ kt : ClassId, rv = some (.ref x) ∧ Fr n0 LE ∧ Keep h0 hE [] ∧ (h0.size ≤ x) ∧ (Exa Z hE x ss0) ∧ (Fld Z hE x ss0 ss3 "B" (.int 0)) ∧ (Fld Z hE x ss0 ss4 "[B" (.ref t)) ∧ (Arv Z hE t kt .byte (Int32.ofNat ([c0, c1] : List Int32).length) (B8 ([c0, c1] : List Int32)) (.int 0))
theorem rm_mk2 (l : Launch) (Z : State) (a0 : Array Value) (hw : HW a0 Z) (ws : List Jvm.Cond) (c0 c1 c2 G1 : Int32) (h0 : Heap) (n0 : Nat) (Z0 : n0 ≤ h0.size) (L0 : ¬ c0 < 0 ∧ ¬ (255 : Int32) < c0) (L1 : ¬ c1 < 0 ∧ ¬ (255 : Int32) < c1) (L2 : ¬ c2 < 0 ∧ ¬ (255 : Int32) < c2) (O2 : Sta Z Z.heap ss0 ss8 "Z" (.int G1)) (P5 : ¬ (G1 = (0 : Int32))) (X00 : Old Z n0 h0) :
    MF l Z mn37 (Jvm.Cond.code mn37 cB37 4 (Option.some (Jvm.ClassFile.FieldType.object ss0))) ws Ro29 #[(.int 2), (.int c0), (.int c1), (.int c2)] h0 (Q_mk2 Z c0 c1 h0 n0) := by
  refine MF.of ss14 rfl #[iv 2, iv c0, iv c1, iv c2] (plainFor_of_name opn_10) (fun _ => rfl) ?_
  intro p e s m below meth c _ hZ hh B hml hret hlk hown hnm Y e0
  have N0 := Fr.nil n0
  have K0 := Keep.refl h0 []
  have e_0 := (lo_back L0).2
  have e_1 := (lo_back L1).2
  have e_2 := (lo_back L2).2
  refine zilN Y B o373 rfl <| zY Y B j17 (by decide) ?_
  refine zilN Y B o381 rfl <| zc1 Y B o382 <| zCY Y B j18 (by decide) ?_
  refine zilN Y B o394 rfl <| zc2 Y B o395 <| zCN Y B o396 (by decide) ?_
  refine zno Y B hZ hown (ow4 hw) (ow5 hw) (ow6 hw) e0 o397 rfl rfl fun T101 h101 b101 g101 Y e101 E101 A101 D101 U101 => ?_
  have K102 := K0.ext E101
  have O102 := X00.ext E101
  refine zdup Y B o398 rfl <| zc2 Y B o399 ?_
  refine znp Y B hZ (aty := .char) (ow7 hw) e101 o400 (by decide) (cap := 2) (by decide) rfl rfl rfl fun T103 h103 k103 b103 g103 Y e103 E103 A103 => ?_
  have K104 := K102.ext E103
  have O104 := O102.ext E103
  have V103 : Arv Z h103 b103 k103 .char (2 : Int32) [(.int 0), (.int 0)] (.int 0) := (Arv.new A103 (by decide)).pad (pad_rep [] (.int 0) 2)
  refine zdup Y B o401 rfl <| zc0 Y B o402 <| zilN Y B o403 rfl ?_
  obtain ⟨c105, A105, q105, S105, M105, G105, J105⟩ := id V103
  refine Go.b1 (stC Y B.1 hZ e103 A105 (j := (0 : Int32)) (inb_of S105 ⟨by decide, by decide⟩) rfl rfl (hb B.2 o404.1)) fun T105 h105 Y e105 W105 => ?_
  have N105 := Fr.snoc Y N0 (Nat.le_trans (Nat.le_trans Z0 K102.1) (Nat.le_of_eq g103.symm))
  have K106 := K104.wr W105 (Or.inr (Nat.le_trans K102.1 (Nat.le_of_eq g103.symm)))
  have O106 := O104.wr W105 (Nat.le_trans (Nat.le_trans Z0 K102.1) (Nat.le_of_eq g103.symm))
  have V105 : Arv Z h105 b103 k103 .char (2 : Int32) ([(.int (nar .char c0)), (.int 0)]) (.int 0) := Arv.set A105 q105 S105 M105 G105 J105 (fits_nar_char _) W105 0 rfl (Nat.le_of_ble_eq_true rfl)
  rw [e_0] at V105
  refine zdup Y B o405 rfl <| zc1 Y B o406 <| zilN Y B o407 rfl ?_
  obtain ⟨c107, A107, q107, S107, M107, G107, J107⟩ := id V105
  refine Go.b1 (stC Y B.1 hZ e105 A107 (j := (1 : Int32)) (inb_of S107 ⟨by decide, by decide⟩) rfl rfl (hb B.2 o408.1)) fun T107 h107 Y e107 W107 => ?_
  have N107 := Fr.snoc Y N105 (Nat.le_trans (Nat.le_trans Z0 K102.1) (Nat.le_of_eq g103.symm))
  have K108 := K106.wr W107 (Or.inr (Nat.le_trans K102.1 (Nat.le_of_eq g103.symm)))
  have O108 := O106.wr W107 (Nat.le_trans (Nat.le_trans Z0 K102.1) (Nat.le_of_eq g103.symm))
  have V107 : Arv Z h107 b103 k103 .char (2 : Int32) ([(.int c0), (.int (nar .char c1))]) (.int 0) := Arv.set A107 q107 S107 M107 G107 J107 (fits_nar_char _) W107 1 rfl (Nat.le_of_ble_eq_true rfl)
  rw [e_1] at V107
  have hp : ∀ c ∈ ([c0, c1] : List Int32), ¬ c < 0 ∧ ¬ (255 : Int32) < c := by
    intro c hc; simp only [List.mem_cons, List.not_mem_nil, or_false] at hc; rcases hc with rfl | rfl
    · exact L0
    · exact L1
  have hws : ∀ d ∈ StrChars.Road.words, d.before a0 Z = true := fun d hd => hw d ((by decide +kernel : ∀ d ∈ StrChars.Road.words, d ∈ tables_1) d hd)
  have F110 := (((A101.ext E103).wr W105).wr W107)
  have F111 := ((((D101 (Or.inr (ow20 hw)) (ty := (.array .byte)) (by decide)).ext E103).other W105 (Or.inl (Nat.ne_of_lt (Nat.lt_of_lt_of_le A101.lt (Nat.le_of_eq g103.symm))))).other W107 (Or.inl (Nat.ne_of_lt (Nat.lt_of_lt_of_le A101.lt (Nat.le_of_eq g103.symm)))))
  have F112 := ((((D101 (Or.inr (ow21 hw)) (ty := .byte) (by decide)).ext E103).other W105 (Or.inl (Nat.ne_of_lt (Nat.lt_of_lt_of_le A101.lt (Nat.le_of_eq g103.symm))))).other W107 (Or.inl (Nat.ne_of_lt (Nat.lt_of_lt_of_le A101.lt (Nat.le_of_eq g103.symm)))))
  obtain ⟨_, _, ⟨T109, L109, k109, n109⟩, -, Y, ⟨Lc109, hQ109, l109, y109, z109⟩, st109⟩ := Y.specialBack B.1 (y := mn36) rfl hown (mvT hZ (ow8 hw)) (mvT hZ (ow9 hw)) (mvT hZ (ow10 hw)) (by decide) (StrChars.Road.backV (W := 1) hZ hws (kI := 4) (ow5 hw) (cs := ([c0, c1] : List Int32)) (bs := ([c0, c1] : List Int32).map (fun c => c.toInt8.toInt32)) (n := 2) (Nat.le_trans (Nat.le_trans Z0 (Nat.le_refl _)) (Nat.le_of_eq g101.symm)) (Nat.le_trans Z0 K108.1) F110 F111 F112 V107 (O2.ext O108.2) P5 rfl rfl (by decide) (by decide) hp rfl (by decide) (by decide)) (g := (mkF m 55 #[iv 2, iv c0, iv c1, iv c2] [(.ref b103), (.ref b101), (.ref b101)])) rfl (by rw [hml]; rfl) (Steps.refl _) (a := b101) (argsL := [(.ref b103)]) (rest := [(.ref b101)]) (lenOf opd_23 rfl) rfl (by show 2 * 0 + _ ≤ _; exact Nat.le_of_eq rfl) (hb B.2 o409.1) (fun _ _ => ⟨rfl, e107, (by decide : 2 + 1 ≤ _), (by decide : 6 + 2 ≤ _)⟩)
  dsimp only [Pt.U, Pt.locs, Pt.cells, Pt.slots] at Y l109 y109 z109 st109 hQ109
  subst l109 y109 z109
  obtain ⟨rfl, N109q, K109q, PE109, PC109, t109, kb109, -, u109, v109, PV109, PA109⟩ := hQ109
  have N109 := Fr.app N107 N109q
  refine Go.tr st109 ?_
  have K113 := K108.trans K109q (allS (Or.inr (Nat.le_trans (Nat.le_refl _) (Nat.le_of_eq g101.symm))) all0)
  have O113 := O108.keep K109q (allS (Nat.le_trans (Nat.le_trans Z0 (Nat.le_refl _)) (Nat.le_of_eq g101.symm)) all0)
  show Go p e below _ _ (mkF m 58 #[iv 2, iv c0, iv c1, iv c2] [(.ref b101)])
  exact zrR Y B hret rfl rfl rfl hlk o410 rfl ⟨b101, t109, kb109, rfl, N109, K113, (Nat.le_trans (Nat.le_refl _) (Nat.le_of_eq g101.symm)), PE109, PC109, PV109, PA109⟩ rfl rfl
def Q_mk3 (Z : State) (c0 c1 c2 : Int32) (h0 : Heap) (n0 : Nat) : QT := fun rv hE LE => ∃ x : Addr, ∃ t : Addr, ∃ kt : ClassId, rv = some (.ref x) ∧ Fr n0 LE ∧ Keep h0 hE [] ∧ (h0.size ≤ x) ∧ (Exa Z hE x ss0) ∧ (Fld Z hE x ss0 ss3 "B" (.int 0)) ∧ (Fld Z hE x ss0 ss4 "[B" (.ref t)) ∧ (Arv Z hE t kt .byte (Int32.ofNat ([c0, c1, c2] : List Int32).length) (B8 ([c0, c1, c2] : List Int32)) (.int 0))
theorem rm_mk3 (l : Launch) (Z : State) (a0 : Array Value) (hw : HW a0 Z) (ws : List Jvm.Cond) (c0 c1 c2 G1 : Int32) (h0 : Heap) (n0 : Nat) (Z0 : n0 ≤ h0.size) (L0 : ¬ c0 < 0 ∧ ¬ (255 : Int32) < c0) (L1 : ¬ c1 < 0 ∧ ¬ (255 : Int32) < c1) (L2 : ¬ c2 < 0 ∧ ¬ (255 : Int32) < c2) (O2 : Sta Z Z.heap ss0 ss8 "Z" (.int G1)) (P5 : ¬ (G1 = (0 : Int32))) (X00 : Old Z n0 h0) :
    MF l Z mn37 (Jvm.Cond.code mn37 cB37 4 (Option.some (Jvm.ClassFile.FieldType.object ss0))) ws Ro30 #[(.int 3), (.int c0), (.int c1), (.int c2)] h0 (Q_mk3 Z c0 c1 c2 h0 n0) := by
  refine MF.of ss14 rfl #[iv 3, iv c0, iv c1, iv c2] (plainFor_of_name opn_10) (fun _ => rfl) ?_
  intro p e s m below meth c _ hZ hh B hml hret hlk hown hnm Y e0
  have N0 := Fr.nil n0
  have K0 := Keep.refl h0 []
  have e_0 := (lo_back L0).2
  have e_1 := (lo_back L1).2
  have e_2 := (lo_back L2).2
  refine zilN Y B o373 rfl <| zY Y B j17 (by decide) ?_
  refine zilN Y B o381 rfl <| zc1 Y B o382 <| zCY Y B j18 (by decide) ?_
  refine zilN Y B o394 rfl <| zc2 Y B o395 <| zCY Y B j19 (by decide) ?_
  refine zno Y B hZ hown (ow4 hw) (ow5 hw) (ow6 hw) e0 o411 rfl rfl fun T101 h101 b101 g101 Y e101 E101 A101 D101 U101 => ?_
  have K102 := K0.ext E101
  have O102 := X00.ext E101
  refine zdup Y B o412 rfl <| zc3 Y B o413 ?_
  refine znp Y B hZ (aty := .char) (ow7 hw) e101 o414 (by decide) (cap := 3) (by decide) rfl rfl rfl fun T103 h103 k103 b103 g103 Y e103 E103 A103 => ?_
  have K104 := K102.ext E103
  have O104 := O102.ext E103
  have V103 : Arv Z h103 b103 k103 .char (3 : Int32) [(.int 0), (.int 0), (.int 0)] (.int 0) := (Arv.new A103 (by decide)).pad (pad_rep [] (.int 0) 3)
  refine zdup Y B o415 rfl <| zc0 Y B o416 <| zilN Y B o417 rfl ?_
  obtain ⟨c105, A105, q105, S105, M105, G105, J105⟩ := id V103
  refine Go.b1 (stC Y B.1 hZ e103 A105 (j := (0 : Int32)) (inb_of S105 ⟨by decide, by decide⟩) rfl rfl (hb B.2 o418.1)) fun T105 h105 Y e105 W105 => ?_
  have N105 := Fr.snoc Y N0 (Nat.le_trans (Nat.le_trans Z0 K102.1) (Nat.le_of_eq g103.symm))
  have K106 := K104.wr W105 (Or.inr (Nat.le_trans K102.1 (Nat.le_of_eq g103.symm)))
  have O106 := O104.wr W105 (Nat.le_trans (Nat.le_trans Z0 K102.1) (Nat.le_of_eq g103.symm))
  have V105 : Arv Z h105 b103 k103 .char (3 : Int32) ([(.int (nar .char c0)), (.int 0), (.int 0)]) (.int 0) := Arv.set A105 q105 S105 M105 G105 J105 (fits_nar_char _) W105 0 rfl (Nat.le_of_ble_eq_true rfl)
  rw [e_0] at V105
  refine zdup Y B o419 rfl <| zc1 Y B o420 <| zilN Y B o421 rfl ?_
  obtain ⟨c107, A107, q107, S107, M107, G107, J107⟩ := id V105
  refine Go.b1 (stC Y B.1 hZ e105 A107 (j := (1 : Int32)) (inb_of S107 ⟨by decide, by decide⟩) rfl rfl (hb B.2 o422.1)) fun T107 h107 Y e107 W107 => ?_
  have N107 := Fr.snoc Y N105 (Nat.le_trans (Nat.le_trans Z0 K102.1) (Nat.le_of_eq g103.symm))
  have K108 := K106.wr W107 (Or.inr (Nat.le_trans K102.1 (Nat.le_of_eq g103.symm)))
  have O108 := O106.wr W107 (Nat.le_trans (Nat.le_trans Z0 K102.1) (Nat.le_of_eq g103.symm))
  have V107 : Arv Z h107 b103 k103 .char (3 : Int32) ([(.int c0), (.int (nar .char c1)), (.int 0)]) (.int 0) := Arv.set A107 q107 S107 M107 G107 J107 (fits_nar_char _) W107 1 rfl (Nat.le_of_ble_eq_true rfl)
  rw [e_1] at V107
  refine zdup Y B o423 rfl <| zc2 Y B o424 <| zilN Y B o425 rfl ?_
  obtain ⟨c109, A109, q109, S109, M109, G109, J109⟩ := id V107
  refine Go.b1 (stC Y B.1 hZ e107 A109 (j := (2 : Int32)) (inb_of S109 ⟨by decide, by decide⟩) rfl rfl (hb B.2 o426.1)) fun T109 h109 Y e109 W109 => ?_
  have N109 := Fr.snoc Y N107 (Nat.le_trans (Nat.le_trans Z0 K102.1) (Nat.le_of_eq g103.symm))
  have K110 := K108.wr W109 (Or.inr (Nat.le_trans K102.1 (Nat.le_of_eq g103.symm)))
  have O110 := O108.wr W109 (Nat.le_trans (Nat.le_trans Z0 K102.1) (Nat.le_of_eq g103.symm))
  have V109 : Arv Z h109 b103 k103 .char (3 : Int32) ([(.int c0), (.int c1), (.int (nar .char c2))]) (.int 0) := Arv.set A109 q109 S109 M109 G109 J109 (fits_nar_char _) W109 2 rfl (Nat.le_of_ble_eq_true rfl)
  rw [e_2] at V109
  have hp : ∀ c ∈ ([c0, c1, c2] : List Int32), ¬ c < 0 ∧ ¬ (255 : Int32) < c := by
    intro c hc; simp only [List.mem_cons, List.not_mem_nil, or_false] at hc; rcases hc with rfl | rfl | rfl
    · exact L0
    · exact L1
    · exact L2
  have hws : ∀ d ∈ StrChars.Road.words, d.before a0 Z = true := fun d hd => hw d ((by decide +kernel : ∀ d ∈ StrChars.Road.words, d ∈ tables_1) d hd)
  have F112 := ((((A101.ext E103).wr W105).wr W107).wr W109)
  have F113 := (((((D101 (Or.inr (ow20 hw)) (ty := (.array .byte)) (by decide)).ext E103).other W105 (Or.inl (Nat.ne_of_lt (Nat.lt_of_lt_of_le A101.lt (Nat.le_of_eq g103.symm))))).other W107 (Or.inl (Nat.ne_of_lt (Nat.lt_of_lt_of_le A101.lt (Nat.le_of_eq g103.symm))))).other W109 (Or.inl (Nat.ne_of_lt (Nat.lt_of_lt_of_le A101.lt (Nat.le_of_eq g103.symm)))))
  have F114 := (((((D101 (Or.inr (ow21 hw)) (ty := .byte) (by decide)).ext E103).other W105 (Or.inl (Nat.ne_of_lt (Nat.lt_of_lt_of_le A101.lt (Nat.le_of_eq g103.symm))))).other W107 (Or.inl (Nat.ne_of_lt (Nat.lt_of_lt_of_le A101.lt (Nat.le_of_eq g103.symm))))).other W109 (Or.inl (Nat.ne_of_lt (Nat.lt_of_lt_of_le A101.lt (Nat.le_of_eq g103.symm)))))
  obtain ⟨_, _, ⟨T111, L111, k111, n111⟩, -, Y, ⟨Lc111, hQ111, l111, y111, z111⟩, st111⟩ := Y.specialBack B.1 (y := mn36) rfl hown (mvT hZ (ow8 hw)) (mvT hZ (ow9 hw)) (mvT hZ (ow10 hw)) (by decide) (StrChars.Road.backV (W := 1) hZ hws (kI := 4) (ow5 hw) (cs := ([c0, c1, c2] : List Int32)) (bs := ([c0, c1, c2] : List Int32).map (fun c => c.toInt8.toInt32)) (n := 3) (Nat.le_trans (Nat.le_trans Z0 (Nat.le_refl _)) (Nat.le_of_eq g101.symm)) (Nat.le_trans Z0 K110.1) F112 F113 F114 V109 (O2.ext O110.2) P5 rfl rfl (by decide) (by decide) hp rfl (by decide) (by decide)) (g := (mkF m 78 #[iv 3, iv c0, iv c1, iv c2] [(.ref b103), (.ref b101), (.ref b101)])) rfl (by rw [hml]; rfl) (Steps.refl _) (a := b101) (argsL := [(.ref b103)]) (rest := [(.ref b101)]) (lenOf opd_23 rfl) rfl (by show 2 * 0 + _ ≤ _; exact Nat.le_of_eq rfl) (hb B.2 o427.1) (fun _ _ => ⟨rfl, e109, (by decide : 2 + 1 ≤ _), (by decide : 7 + 3 ≤ _)⟩)
  dsimp only [Pt.U, Pt.locs, Pt.cells, Pt.slots] at Y l111 y111 z111 st111 hQ111
  subst l111 y111 z111
  obtain ⟨rfl, N111q, K111q, PE111, PC111, t111, kb111, -, u111, v111, PV111, PA111⟩ := hQ111
  have N111 := Fr.app N109 N111q
  refine Go.tr st111 ?_
  have K115 := K110.trans K111q (allS (Or.inr (Nat.le_trans (Nat.le_refl _) (Nat.le_of_eq g101.symm))) all0)
  have O115 := O110.keep K111q (allS (Nat.le_trans (Nat.le_trans Z0 (Nat.le_refl _)) (Nat.le_of_eq g101.symm)) all0)
  show Go p e below _ _ (mkF m 81 #[iv 3, iv c0, iv c1, iv c2] [(.ref b101)])
  exact zrR Y B hret rfl rfl rfl hlk o428 rfl ⟨b101, t111, kb111, rfl, N111, K115, (Nat.le_trans (Nat.le_refl _) (Nat.le_of_eq g101.symm)), PE111, PC111, PV111, PA111⟩ rfl rfl
def Q_law (Z : State)  (h0 : Heap) (n0 : Nat) : QT := fun rv hE LE => rv = some (.int 1) ∧ Fr n0 LE ∧ Keep h0 hE []
def Q_cx_law (l : Launch) (Z : State) (a0 : Array Value) (i0 i1 i2 : Int32) (uv sv : Value) (G1 : Int32) (G3 : Value) (h0 : Heap) (n0 : Nat) (p : Program) (e : Env) (s : State) (m : MethodId) (below : List Frame) (meth : Method) (c : Code) : Prop := (HW a0 Z) ∧ (n0 ≤ h0.size) ∧ (l.stackTraces = true) ∧ (Sta Z Z.heap ss1 ss19 ss12 uv) ∧ (uv.isRef = true) ∧ (Sta Z Z.heap ss1 ss20 ss13 sv) ∧ (sv.isRef = true) ∧ (Sta Z Z.heap ss0 ss8 "Z" (.int G1)) ∧ (¬ (G1 = (0 : Int32))) ∧ (Old Z n0 h0) ∧ (Sta Z Z.heap ss18 ss21 ss22 G3) ∧ (G3.isRef = true) ∧ (Z.Warmed39 s.vm) ∧ (s.heap = h0) ∧ (CHv Z EL s.vm h0) ∧ (s.vm.MethodsKnown) ∧ (s.vm.FramesKnown below) ∧ (HB p c code) ∧ (c.maxLocals = 12) ∧ (meth.sig.returnType = ret) ∧ (meth.locks = false) ∧ (s.vm.findClass ss14 = some m.cls) ∧ (meth.name = (x).name)
theorem pc_law_P46_0 {l Z a0 i0 i1 i2 uv sv G1 G3 h0 n0 p e s m below meth c} (cx : Q_cx_law l Z a0 i0 i1 i2 uv sv G1 G3 h0 n0 p e s m below meth c) :
    ∀ (T101 : State) (LL101 : List Loc) (hP101 : Heap) (vm101 : Vm) (kk101 : Nat) (q0 : Int32) (q1 : Int32) (q2 : Int32) (x : Addr) (t : Addr) (kt : ClassId), Stand p l e room_1 (s.setVm vm101) m #[(.int i0), (.int i1), (.int i2)] below meth c T101 LL101 8 40 → T101.heap = hP101 → Fr n0 LL101 → Keep h0 hP101 [] → Old Z n0 hP101 → s.Since vm101 kk101 → kk101 ≤ hP101.size → Z.Warmed39 (s.setVm vm101).vm → (s.setVm vm101).vm.findClass ss14 = some m.cls → CHr Z EL s.vm h0 vm101 hP101 → (Exa Z hP101 x ss0) → (Fld Z hP101 x ss0 ss3 "B" (.int 0)) → (Fld Z hP101 x ss0 ss4 "[B" (.ref t)) → (Arv Z hP101 t kt .byte (Int32.ofNat ([] : List Int32).length) (B8 ([] : List Int32)) (.int 0)) → (¬ q0 < 0 ∧ ¬ (255 : Int32) < q0) → (¬ q1 < 0 ∧ ¬ (255 : Int32) < q1) → (¬ q2 < 0 ∧ ¬ (255 : Int32) < q2) → Go p e below (OutW Z EL s (Q_law Z  h0 n0) room_1.cells room_1.slots) T101 (mkF m 46 #[iv i0, iv i1, iv i2, iv 0, iv q0, iv q1, iv q2, rv x, un, un, un, un] []) := by
  obtain ⟨hw, Z0, hl, SU, hu, SS, hv, O2, P5, X00, O4, rG3, hZ, hh, hCH, hTK, hBelow, B, hml, hret, hlk, hown, hnm⟩ := id cx
  have hZ0 := hZ
  have CR0 : CHr Z EL s.vm s.heap s.vm h0 := by rw [hh]; exact CHr.refl hCH
  intro T101 LL101 hP101 vm101 kk101 q0 q1 q2 x t kt Y e101 N101 KP101 OP101 hS101 hk101 hZ101 hown101 RP101 S0 S1 S2 S3 LQ0 LQ1 LQ2
  have CRP101 := CR0.trans RP101
  refine zno Y B hZ101 hown101 (ow4 hw) (ow5 hw) (ow6 hw) e101 o429 rfl rfl fun T102 h102 b102 g102 Y e102 E102 A102 D102 U102 => ?_
  have R103 := CHr.ext E102 CRP101.1
  have CR103 := CRP101.trans R103
  have K103 := KP101.ext E102
  have O103 := OP101.ext E102
  have Sf104 : Safe Z EL vm101 h102 b102 := Safe.ext E102 CRP101.1 (Safe.new (Nat.le_of_eq g102.symm))
  refine zdup Y B o430 rfl <| zc0 Y B o431 ?_
  refine znp Y B hZ101 (aty := .char) (ow7 hw) e102 o432 (by decide) (cap := 0) (by decide) rfl rfl rfl fun T105 h105 k105 b105 g105 Y e105 E105 A105 => ?_
  have R106 := CHr.ext E105 CR103.1
  have CR106 := CR103.trans R106
  have K106 := K103.ext E105
  have O106 := O103.ext E105
  have Sf107 : Safe Z EL vm101 h105 b105 := Safe.ext E105 CR103.1 (Safe.new (Nat.le_of_eq g105.symm))
  have V105 : Arv Z h105 b105 k105 .char (0 : Int32) [] (.int 0) := (Arv.new A105 (by decide)).pad (pad_rep [] (.int 0) 0)
  have F109 := (A102.ext E105)
  have F110 := ((D102 (Or.inr (ow20 hw)) (ty := (.array .byte)) (by decide)).ext E105)
  have F111 := ((D102 (Or.inr (ow21 hw)) (ty := .byte) (by decide)).ext E105)
  obtain ⟨_, _, ⟨T108, L108, k108, n108⟩, -, XX108, hSn108, hgn108, ⟨Lc108, hQ108, l108, y108, z108, RQ108⟩, st108⟩ := Y.specialBackS B.1 (y := mn36) rfl hown101 (mvT hZ101 (ow8 hw)) (mvT hZ101 (ow9 hw)) (mvT hZ101 (ow10 hw)) (by decide) (backOfSH (W := 1) (rm_ic0 l Z a0 hw [] b102 b105 k105 h105 n0 (Nat.le_trans Z0 K106.1) F109 ((Nat.le_trans (Nat.le_trans Z0 KP101.1) (Nat.le_of_eq g102.symm))) F110 F111 V105) hZ101 (ow10 hw) (ow6 hw) (by decide) (by decide) (hEW hw) CR106.1) (g := (mkF m 53 #[iv i0, iv i1, iv i2, iv 0, iv q0, iv q1, iv q2, rv x, un, un, un, un] [(.ref b105), (.ref b102), (.ref b102)])) rfl (by rw [hml]; rfl) (Steps.refl _) (a := b102) (argsL := [(.ref b105)]) (rest := [(.ref b102)]) (lenOf opd_23 rfl) rfl (by show 2 * 0 + _ ≤ _; exact Nat.le_of_eq rfl) (hb B.2 o433.1) (fun _ _ => ⟨rfl, e105, (by decide : 10 + 4 ≤ _), (by decide : 44 + 8 ≤ _)⟩)
  dsimp only [Pt.U, Pt.locs, Pt.cells, Pt.slots] at XX108 hSn108 hgn108 l108 y108 z108 st108 hQ108 RQ108
  subst l108 y108 z108
  obtain ⟨Y, hS108, hZ108, hown108⟩ := rebS hS101 (by rw [e105]; exact (Nat.le_trans hk101 (Nat.le_trans E102.1 E105.1))) XX108 hSn108 hgn108 hZ101 hown101
  obtain ⟨t_108, kb_108, rfl, N108q, K108q, P108_0, P108_1, P108_2, P108_3⟩ := hQ108
  have N108 := Fr.app N101 N108q
  refine Go.tr st108 ?_
  have CR112 := CR106.trans RQ108
  have K112 := K106.trans K108q (allS (Or.inr (Nat.le_trans KP101.1 (Nat.le_of_eq g102.symm))) all0)
  have O112 := O106.keep K108q (allS (Nat.le_trans (Nat.le_trans Z0 KP101.1) (Nat.le_of_eq g102.symm)) all0)
  obtain ⟨_, _, ⟨T113, L113, k113, n113⟩, -, XX113, hSn113, hgn113, ⟨Lc113, hQ113, l113, y113, z113, RQ113⟩, st113⟩ := Jvm.RoadKit.callSS Y B.1 (y := mn34) hown108 (mvT hZ108 (ow26 hw)) (mvT hZ108 (ow27 hw)) (mvT hZ108 (ow28 hw)) (mvT hZ108 (ow29 hw)) (by decide) (backOfSKH (W := 0) (rm_nt0 l Z a0 hw [] b102 t_108 kb_108 ([] : List Int32) uv sv G1 T108.heap n0 (Nat.le_trans Z0 K112.1) P108_0 P108_1 P108_2 P108_3 (rfl) hl SU hu SS hv O2 P5 O112) hZ108 (ow29 hw) (ow28 hw) (by decide) (by decide) (hEW hw) CR112.1 (Vm.MethodsKnown.alikeC (hZ0.alike.symm.trans hZ108.alike) hTK) (Vm.FramesKnown.alikeC (hZ0.alike.symm.trans hZ108.alike) hBelow)) (g := (mkF m 56 #[iv i0, iv i1, iv i2, iv 0, iv q0, iv q1, iv q2, rv x, un, un, un, un] [(.ref b102)])) rfl (by rw [hml]; rfl) (argsL := [(.ref b102)]) (rest := []) (lenOf opd_24 rfl) rfl (by show 2 * 0 + _ ≤ _; exact Nat.le_of_eq rfl) (hb B.2 o434.1) (fun _ _ => ⟨rfl, rfl, (by decide : 14 + 12 ≤ _), (by decide : 52 + 3220 ≤ _)⟩)
  dsimp only [Pt.U, Pt.locs, Pt.cells, Pt.slots] at XX113 hSn113 hgn113 l113 y113 z113 st113 hQ113 RQ113
  subst l113 y113 z113
  obtain ⟨Y, hS113, hZ113, hown113⟩ := rebS hS108 (Nat.le_trans (Nat.le_refl _) (Nat.le_refl _)) XX113 hSn113 hgn113 hZ108 hown108
  obtain ⟨o_113, mx_113, mt_113, mk_113, rfl, N113q, K113q, P113_0, P113_1, P113_2, P113_3, P113_4, P113_5, P113_6, P113_7, P113_8, P113_9, P113_10⟩ := hQ113
  have N113 := Fr.app N108 N113q
  refine Go.tr st113 ?_
  have CR114 := CR112.trans RQ113
  have K114 := K112.trans K113q all0
  have O114 := O112.keep K113q all0
  obtain ⟨cq115, kq115, q115a, q115b, q115c⟩ := isOf hZ113 rfl P113_3
  obtain ⟨_, _, ⟨T115, L115, k115, n115⟩, -, Y, ⟨Lc115, hQ115, l115, y115, z115⟩, st115⟩ := Y.virtualBackUp B.1 (x := mn38) (y := mn30) (owner := ss1) hown113 (mvT hZ113 (ow213 hw)) (mvT hZ113 (ow214 hw)) (mvT hZ113 (ow215 hw)) (by decide) (mvT hZ113 (ow217 hw)) (mvT hZ113 (ow216 hw)) (backOf (W := 0) (rm_getmsg l Z a0 hw [] o_113 mx_113 T113.heap n0 (Nat.le_trans Z0 K114.1) P113_6) hZ113 (ow218 hw) (ow174 hw) (by decide) (by decide)) q115a q115c (g := (mkF m 59 #[iv i0, iv i1, iv i2, iv 0, iv q0, iv q1, iv q2, rv x, un, un, un, un] [(.ref o_113)])) rfl (by rw [hml]; rfl) (Steps.refl _) (argsL := []) (rest := []) (lenOf opd_21 rfl) rfl (by show 2 * 0 + _ ≤ _; exact Nat.le_of_eq rfl) (hb B.2 o435.1) (fun _ _ => ⟨rfl, rfl, (by decide : 26 + 0 ≤ _), (by decide : 3272 + 0 ≤ _)⟩)
  dsimp only [Pt.U, Pt.locs, Pt.cells, Pt.slots] at Y l115 y115 z115 st115 hQ115
  subst l115 y115 z115
  obtain ⟨rfl, N115q, e115⟩ := hQ115
  have N115 := Fr.app N113 N115q
  refine Go.tr st115 ?_
  refine zas Y B o436 (s8 rfl) rfl <| zal Y B o437 rfl ?_
  have F117 := ((((S0.ext E102).ext E105).keep K108q).keep K113q)
  have F118 := ((((S1.ext E102).ext E105).keep K108q (ninS (Nat.ne_of_lt (Nat.lt_of_lt_of_le S0.lt (Nat.le_of_eq g102.symm))) nin0)).keep K113q nin0)
  have F119 := ((((S2.ext E102).ext E105).keep K108q (ninS (Nat.ne_of_lt (Nat.lt_of_lt_of_le S0.lt (Nat.le_of_eq g102.symm))) nin0)).keep K113q nin0)
  have F120 := ((((S3.ext E102).ext E105).keep K108q (ninS (Nat.ne_of_lt (Nat.lt_of_lt_of_le S3.lt (Nat.le_of_eq g102.symm))) nin0)).keep K113q nin0)
  obtain ⟨_, _, ⟨T116, L116, k116, n116⟩, -, XX116, hSn116, hgn116, ⟨Lc116, hQ116, l116, y116, z116, RQ116⟩, st116⟩ := Jvm.RoadKit.callSS Y B.1 (y := mn34) hown113 (mvT hZ113 (ow26 hw)) (mvT hZ113 (ow27 hw)) (mvT hZ113 (ow28 hw)) (mvT hZ113 (ow29 hw)) (by decide) (backOfSKH (W := 0) (rm_nt0 l Z a0 hw [] x t kt ([] : List Int32) uv sv G1 T113.heap n0 (Nat.le_trans Z0 K114.1) F117 F118 F119 F120 (rfl) hl SU hu SS hv O2 P5 O114) hZ113 (ow29 hw) (ow28 hw) (by decide) (by decide) (hEW hw) CR114.1 (Vm.MethodsKnown.alikeC (hZ0.alike.symm.trans hZ113.alike) hTK) (Vm.FramesKnown.alikeC (hZ0.alike.symm.trans hZ113.alike) hBelow)) (g := (mkF m 66 #[iv i0, iv i1, iv i2, iv 0, iv q0, iv q1, iv q2, rv x, rv mx_113, un, un, un] [(.ref x)])) rfl (by rw [hml]; rfl) (argsL := [(.ref x)]) (rest := []) (lenOf opd_24 rfl) rfl (by show 2 * 0 + _ ≤ _; exact Nat.le_of_eq rfl) (hb B.2 o438.1) (fun _ _ => ⟨rfl, e115, (by decide : 26 + 12 ≤ _), (by decide : 3272 + 3220 ≤ _)⟩)
  dsimp only [Pt.U, Pt.locs, Pt.cells, Pt.slots] at XX116 hSn116 hgn116 l116 y116 z116 st116 hQ116 RQ116
  subst l116 y116 z116
  obtain ⟨Y, hS116, hZ116, hown116⟩ := rebS hS113 (by rw [e115]; exact (Nat.le_trans (Nat.le_refl _) (Nat.le_refl _))) XX116 hSn116 hgn116 hZ113 hown113
  obtain ⟨o_116, mx_116, mt_116, mk_116, rfl, N116q, K116q, P116_0, P116_1, P116_2, P116_3, P116_4, P116_5, P116_6, P116_7, P116_8, P116_9, P116_10⟩ := hQ116
  have N116 := Fr.app N115 N116q
  refine Go.tr st116 ?_
  have CR121 := CR114.trans RQ116
  have K121 := K114.trans K116q all0
  have O121 := O114.keep K116q all0
  refine zas Y B o439 (s9 rfl) rfl <| zal Y B o440 rfl ?_
  obtain ⟨cq122, kq122, q122a, q122b, q122c⟩ := isOf hZ116 rfl P116_3
  obtain ⟨_, _, ⟨T122, L122, k122, n122⟩, -, Y, ⟨Lc122, hQ122, l122, y122, z122⟩, st122⟩ := Y.virtualBackUp B.1 (x := mn38) (y := mn30) (owner := ss1) hown116 (mvT hZ116 (ow213 hw)) (mvT hZ116 (ow214 hw)) (mvT hZ116 (ow215 hw)) (by decide) (mvT hZ116 (ow217 hw)) (mvT hZ116 (ow216 hw)) (backOf (W := 0) (rm_getmsg l Z a0 hw [] o_116 mx_116 T116.heap n0 (Nat.le_trans Z0 K121.1) P116_6) hZ116 (ow218 hw) (ow174 hw) (by decide) (by decide)) q122a q122c (g := (mkF m 73 #[iv i0, iv i1, iv i2, iv 0, iv q0, iv q1, iv q2, rv x, rv mx_113, rv o_116, un, un] [(.ref o_116)])) rfl (by rw [hml]; rfl) (Steps.refl _) (argsL := []) (rest := []) (lenOf opd_21 rfl) rfl (by show 2 * 0 + _ ≤ _; exact Nat.le_of_eq rfl) (hb B.2 o441.1) (fun _ _ => ⟨rfl, rfl, (by decide : 38 + 0 ≤ _), (by decide : 6492 + 0 ≤ _)⟩)
  dsimp only [Pt.U, Pt.locs, Pt.cells, Pt.slots] at Y l122 y122 z122 st122 hQ122
  subst l122 y122 z122
  obtain ⟨rfl, N122q, e122⟩ := hQ122
  have N122 := Fr.app N116 N122q
  refine Go.tr st122 ?_
  refine zas Y B o442 (s10 rfl) rfl <| zal Y B o443 rfl <| znN Y B o444 <| zal Y B o445 rfl <| znnY Y B j20 <| zal Y B o446 rfl ?_
  have loE : Lo (((([] : List Int32) ++ T42) ++ ([] : List Int32)) ++ T1) := Lo_app (Lo_app (Lo_app (by decide) t42_lo) (by decide)) t1_lo
  have loD : Lo ([] : List Int32) := by
    intro c hc; cases hc
  have loM : Lo (((([] : List Int32) ++ T42) ++ ([] : List Int32)) ++ T1) := Lo_app (Lo_app (Lo_app (by decide) t42_lo) loD) t1_lo
  obtain ⟨sa123, T123, h123, k123, sb123, kb123, Y, e123, E123, hS123, hk123, hZ123, hown123, PE123, PC123, PV123, PA123, la123, lb123, R123, LT123, SF123, st123⟩ := ldcCH Y B.1 hZ116 hown116 (ow219 hw) (ostr hw) e122 hS116 (Nat.le_trans (Nat.le_refl _) (Nat.le_refl _)) (hEW hw) (List.mem_of_getElem? (i := 2) rfl) CR121.1 (vs := ((([116, 104, 101, 32, 115, 116, 111, 114, 101, 32, 97, 108, 114, 101, 97, 100, 121, 32, 104, 111, 108, 100, 115, 32, 97, 32, 100, 111, 99, 117, 109, 101, 110, 116, 32, 110, 97, 109, 101, 100, 32, 39, 39] : List Int32).map (fun c => c.toInt8.toInt32)).map Value.int)) (z := (43 : Int32)) (by decide +kernel) (by decide) (by decide) (g := (mkF m 92 #[iv i0, iv i1, iv i2, iv 0, iv q0, iv q1, iv q2, rv x, rv mx_113, rv o_116, rv mx_116, un] [(.ref mx_113)])) rfl (hb B.2 o447.1) (n := 172) (by decide) (by decide) (by decide) (by decide)
  refine Go.by st123 ?_
  have CR124 := CR121.trans R123
  have K124 := K121.ext E123
  have O124 := O121.ext E123
  show Go p e below _ _ (mkF m 94 #[iv i0, iv i1, iv i2, iv 0, iv q0, iv q1, iv q2, rv x, rv mx_113, rv o_116, rv mx_116, un] [(.ref sa123), (.ref mx_113)])
  have F125 := ((P113_7.keep K116q).ext E123)
  have F126 := ((P113_9.keep K116q nin0).ext E123)
  have F127 := ((P113_8.keep K116q nin0).ext E123)
  have F128 := ((P113_10.keep K116q nin0).ext E123)
  obtain ⟨cq129, kq129, q129a, q129b, q129c⟩ := isOf hZ123 e123 F125
  obtain ⟨_, _, ⟨T129, L129, k129, n129⟩, -, Y, ⟨Lc129, hQ129, l129, y129, z129⟩, st129⟩ := Y.virtualBack B.1 (y := mn39) (z := mn39) hown123 (mvT hZ123 (ow220 hw)) (mvT hZ123 (ow221 hw)) (notFace_of_selects (args := #[]) (mvT hZ123 (ow223 hw))) (mvT hZ123 (ow223 hw)) (mvT hZ123 (ow222 hw)) (by decide) (StrChars.Road.eqW (W := 0) hZ123 (hw_eq hw) (kI := 4) (ow5 hw) F125 F126 F127 F128 (cod8 (n := 43) rfl loE) (up255 loE) (by decide) PE123 PV123 PC123 PA123 (cod8 (n := 43) rfl t43_lo) (up255 t43_lo) (by decide) (O2.ext O124.2) P5 (by decide) (by decide)) q129a q129c (g := (mkF m 94 #[iv i0, iv i1, iv i2, iv 0, iv q0, iv q1, iv q2, rv x, rv mx_113, rv o_116, rv mx_116, un] [(.ref sa123), (.ref mx_113)])) rfl (by rw [hml]; rfl) (Steps.refl _) (argsL := [(.ref sa123)]) (rest := []) (lenOf opd_25 rfl) rfl (by show 2 * 0 + _ ≤ _; exact Nat.le_of_eq rfl) (hb B.2 o448.1) (fun _ _ => ⟨rfl, e123, (by decide : 40 + 0 ≤ _), (by decide : 6668 + 0 ≤ _)⟩)
  dsimp only [Pt.U, Pt.locs, Pt.cells, Pt.slots] at Y l129 y129 z129 st129 hQ129
  subst l129 y129 z129
  obtain ⟨hR129, rfl, e129⟩ := hQ129
  have N129 := Fr.app N122 (Fr.nil n0)
  rcases hR129 with ⟨rfl, he129⟩ | ⟨rfl, he129⟩
  · refine Go.tr st129 ?_
    show Go p e below _ _ (mkF m 97 #[iv i0, iv i1, iv i2, iv 0, iv q0, iv q1, iv q2, rv x, rv mx_113, rv o_116, rv mx_116, un] [(.int 1)])
    refine zY Y B j21 (by decide) ?_
    refine zal Y B o449 rfl ?_
    have F131 := (P116_5.ext E123)
    have F132 := (P116_3.ext E123)
    have F133 := (P116_4.ext E123)
    obtain ⟨cq130, kq130, q130a, q130b, q130c⟩ := isOf hZ123 e129 F132
    obtain ⟨_, _, ⟨T130, L130, k130, n130⟩, -, Y, ⟨hv130, e130, l130, y130, z130⟩, st130⟩ := Y.virtualBackUp B.1 (x := mn40) (y := mn41) (owner := ss1) hown123 (mvT hZ123 (ow230 hw)) (mvT hZ123 (ow231 hw)) (mvT hZ123 (ow232 hw)) (by decide) (mvT hZ123 (ow234 hw)) (mvT hZ123 (ow233 hw)) (gcBackPure (rm := { frames := 0, cells := 0, slots := 0, locals := 0 }) (W := 0) hZ123 (ow235 hw) (ow233 hw) (ow174 hw) (ow177 hw) F133 F131 rfl (by decide) (by decide)) q130a q130c (g := (mkF m 104 #[iv i0, iv i1, iv i2, iv 0, iv q0, iv q1, iv q2, rv x, rv mx_113, rv o_116, rv mx_116, un] [(.ref o_116)])) rfl (by rw [hml]; rfl) (Steps.refl _) (argsL := []) (rest := []) (lenOf opd_26 rfl) rfl (by show 2 * 0 + _ ≤ _; exact Nat.le_of_eq rfl) (hb B.2 o450.1) (fun _ _ => ⟨rfl, e129, (by decide : 40 + 0 ≤ _), (by decide : 6668 + 0 ≤ _)⟩)
    dsimp only [Pt.U, Pt.locs, Pt.cells, Pt.slots] at Y e130 l130 y130 z130 st130
    subst l130 y130 z130
    rw [gcV, if_pos rfl] at hv130
    subst hv130
    refine Go.tr st130 ?_
    refine znY Y B j22 <| zal Y B o451 rfl ?_
    have F135 := (P116_7.ext E123)
    have F136 := (P116_8.ext E123)
    have F137 := (P116_9.ext E123)
    have F138 := (P116_10.ext E123)
    refine zcv Y B hZ123 hown123 (ow236 hw) (ow62 hw) (notFace_of_selects (args := #[]) (mvT hZ123 (ow64 hw))) (ow64 hw) (ow63 hw) (ow6 hw) (ow65 hw) (by decide) F135 (rm_slen l Z a0 hw [] mx_116 mt_116 mk_116 (((([] : List Int32) ++ T42) ++ ([] : List Int32)) ++ T1) G1 h123 n0 (Nat.le_trans Z0 K124.1) F135 F136 F137 F138 O2 P5 O124) e130 hml opd_7 rfl o452 rfl rfl rfl rfl rfl fun _ T134 _ Y hQ => ?_
    obtain ⟨rfl, N134q, e134⟩ := hQ
    have N134 := Fr.app N129 N134q
    refine zbp Y B o453 (v := 43) rfl <| zilN Y B o454 rfl <| ziadd Y B o455 (v := 43) rfl ?_
    refine zCY Y B j23 (teq rfl).1 ?_
    refine zilN Y B o456 rfl ?_
    refine Go.f2 (Y.ldcInt B.1 hown123 (mvT hZ123 (ow237 hw)) rfl (hb B.2 o457.1)) ?_
    refine ziand Y B o458 rfl <| zbp Y B o459 (v := 42) rfl ?_
    refine Go.by (fun _ kq_ => iremM Y B.1 rfl (hb B.2 o460.1) rfl (by decide) kq_) ?_
    show Go p e below _ _ (mkF m 133 #[iv i0, iv i1, iv i2, iv 0, iv q0, iv q1, iv q2, rv x, rv mx_113, rv o_116, rv mx_116, un] [(.int ((i2 &&& (2147483647 : Int32)) % (42 : Int32)))])
    obtain ⟨N, HN, eN⟩ := rem_on i2 (M := 41) (by decide)
    have eN' : ((i2 &&& (2147483647 : Int32)) % (42 : Int32)) = Int32.ofNat N := eN
    rw [eN']
    show Go p e below _ _ (mkF m 133 #[iv i0, iv i1, iv i2, iv 0, iv q0, iv q1, iv q2, rv x, rv mx_113, rv o_116, rv mx_116, un] [(.int (Int32.ofNat N))])
    refine zis Y B o461 (s11 rfl) <| zal Y B o462 rfl <| zil Y B o463 rfl ?_
    refine zcv Y B hZ123 hown123 (ow238 hw) (ow239 hw) (notFace_of_selects (args := #[]) (mvT hZ123 (ow241 hw))) (ow241 hw) (ow240 hw) (ow6 hw) (ow242 hw) (by decide) F135 (rm_schar l Z a0 hw [] mx_116 mt_116 mk_116 (((([] : List Int32) ++ T42) ++ ([] : List Int32)) ++ T1) N G1 G3 h123 n0 (Nat.le_trans Z0 K124.1) F135 F136 F137 F138 (loM) (by show N < 43; omega) (by decide) O2 P5 O124 O4 rG3) e134 hml opd_27 rfl o464 rfl rfl rfl rfl rfl fun _ T139 _ Y hQ => ?_
    obtain ⟨rfl, N139q, e139⟩ := hQ
    have N139 := Fr.app N134 N139q
    refine zal Y B o465 rfl <| zil Y B o466 rfl ?_
    refine zcv Y B hZ123 hown123 (ow238 hw) (ow239 hw) (notFace_of_selects (args := #[]) (mvT hZ123 (ow241 hw))) (ow241 hw) (ow240 hw) (ow6 hw) (ow242 hw) (by decide) F125 (rm_schar l Z a0 hw [] mx_113 mt_113 mk_113 (((([] : List Int32) ++ T42) ++ ([] : List Int32)) ++ T1) N G1 G3 h123 n0 (Nat.le_trans Z0 K124.1) F125 F127 F126 F128 (loE) (by show N < 43; omega) (by decide) O2 P5 O124 O4 rG3) e139 hml opd_27 rfl o467 rfl rfl rfl rfl rfl fun _ T140 _ Y hQ => ?_
    obtain ⟨rfl, N140q, e140⟩ := hQ
    have N140 := Fr.app N139 N140q
    refine zCY Y B j24 (teq (show ((((([] : List Int32) ++ T42) ++ ([] : List Int32)) ++ T1).getD N 0) = ((((([] : List Int32) ++ T42) ++ ([] : List Int32)) ++ T1).getD N 0) from ((pre_getD (show N < 42 by omega)).trans (pre_getD (show N < 42 by omega)).symm))).1 ?_
    refine zilN Y B o468 rfl <| zY Y B j25 (by decide) ?_
    refine zilN Y B o469 rfl <| zc1 Y B o470 <| zCY Y B j26 (by decide) ?_
    refine zilN Y B o471 rfl <| zc2 Y B o472 <| zCY Y B j27 (by decide) ?_
    refine zal Y B o473 rfl <| zbp Y B o474 (v := 42) rfl <| zilN Y B o475 rfl <| ziadd Y B o476 (v := 42) rfl ?_
    refine zcv Y B hZ123 hown123 (ow238 hw) (ow239 hw) (notFace_of_selects (args := #[]) (mvT hZ123 (ow241 hw))) (ow241 hw) (ow240 hw) (ow6 hw) (ow242 hw) (by decide) F135 (rm_schar l Z a0 hw [] mx_116 mt_116 mk_116 (((([] : List Int32) ++ T42) ++ ([] : List Int32)) ++ T1) 42 G1 G3 h123 n0 (Nat.le_trans Z0 K124.1) F135 F136 F137 F138 (loM) (by show 42 < 43; decide) (by show 43 < 2 ^ 31; decide) O2 P5 O124 O4 rG3) e140 hml opd_27 rfl o477 rfl rfl rfl rfl rfl fun _ T141 _ Y hQ => ?_
    obtain ⟨rfl, N141q, e141⟩ := hQ
    have N141 := Fr.app N140 N141q
    refine zbp Y B o478 (v := 39) rfl ?_
    refine zCN Y B o479 (teq rfl).2 ?_
    refine zc1 Y B o480 <| zgo Y B j28 ?_
    exact Go.retNW Y B.1 (t := .boolean) hret (by simp) hlk (hb B.2 o481.1) hS123 (by rw [e141]; exact (Nat.le_trans hk123 (Nat.le_refl _))) hZ123 (hEW hw) (by rw [e141]; exact CR124) (by first | (rw [e141]; exact ⟨rfl, N141, K124⟩) | exact ⟨rfl, N141, K124⟩) (by decide) (by decide)
  · refine Go.tr st129 ?_
    show Go p e below _ _ (mkF m 97 #[iv i0, iv i1, iv i2, iv 0, iv q0, iv q1, iv q2, rv x, rv mx_113, rv o_116, rv mx_116, un] [(.int 0)])
    exact absurd (rfl : (((([] : List Int32) ++ T42) ++ ([] : List Int32)) ++ T1) = T43) he129
theorem pc_law_P46_1 {l Z a0 i0 i1 i2 uv sv G1 G3 h0 n0 p e s m below meth c} (cx : Q_cx_law l Z a0 i0 i1 i2 uv sv G1 G3 h0 n0 p e s m below meth c) :
    ∀ (T142 : State) (LL142 : List Loc) (hP142 : Heap) (vm142 : Vm) (kk142 : Nat) (q0 : Int32) (q1 : Int32) (q2 : Int32) (x : Addr) (t : Addr) (kt : ClassId), Stand p l e room_1 (s.setVm vm142) m #[(.int i0), (.int i1), (.int i2)] below meth c T142 LL142 8 40 → T142.heap = hP142 → Fr n0 LL142 → Keep h0 hP142 [] → Old Z n0 hP142 → s.Since vm142 kk142 → kk142 ≤ hP142.size → Z.Warmed39 (s.setVm vm142).vm → (s.setVm vm142).vm.findClass ss14 = some m.cls → CHr Z EL s.vm h0 vm142 hP142 → (Exa Z hP142 x ss0) → (Fld Z hP142 x ss0 ss3 "B" (.int 0)) → (Fld Z hP142 x ss0 ss4 "[B" (.ref t)) → (Arv Z hP142 t kt .byte (Int32.ofNat ([q0] : List Int32).length) (B8 ([q0] : List Int32)) (.int 0)) → (¬ q0 < 0 ∧ ¬ (255 : Int32) < q0) → (¬ q1 < 0 ∧ ¬ (255 : Int32) < q1) → (¬ q2 < 0 ∧ ¬ (255 : Int32) < q2) → Go p e below (OutW Z EL s (Q_law Z  h0 n0) room_1.cells room_1.slots) T142 (mkF m 46 #[iv i0, iv i1, iv i2, iv 1, iv q0, iv q1, iv q2, rv x, un, un, un, un] []) := by
  obtain ⟨hw, Z0, hl, SU, hu, SS, hv, O2, P5, X00, O4, rG3, hZ, hh, hCH, hTK, hBelow, B, hml, hret, hlk, hown, hnm⟩ := id cx
  have hZ0 := hZ
  have CR0 : CHr Z EL s.vm s.heap s.vm h0 := by rw [hh]; exact CHr.refl hCH
  intro T142 LL142 hP142 vm142 kk142 q0 q1 q2 x t kt Y e142 N142 KP142 OP142 hS142 hk142 hZ142 hown142 RP142 S0 S1 S2 S3 LQ0 LQ1 LQ2
  have CRP142 := CR0.trans RP142
  refine zno Y B hZ142 hown142 (ow4 hw) (ow5 hw) (ow6 hw) e142 o429 rfl rfl fun T143 h143 b143 g143 Y e143 E143 A143 D143 U143 => ?_
  have R144 := CHr.ext E143 CRP142.1
  have CR144 := CRP142.trans R144
  have K144 := KP142.ext E143
  have O144 := OP142.ext E143
  have Sf145 : Safe Z EL vm142 h143 b143 := Safe.ext E143 CRP142.1 (Safe.new (Nat.le_of_eq g143.symm))
  refine zdup Y B o430 rfl <| zc0 Y B o431 ?_
  refine znp Y B hZ142 (aty := .char) (ow7 hw) e143 o432 (by decide) (cap := 0) (by decide) rfl rfl rfl fun T146 h146 k146 b146 g146 Y e146 E146 A146 => ?_
  have R147 := CHr.ext E146 CR144.1
  have CR147 := CR144.trans R147
  have K147 := K144.ext E146
  have O147 := O144.ext E146
  have Sf148 : Safe Z EL vm142 h146 b146 := Safe.ext E146 CR144.1 (Safe.new (Nat.le_of_eq g146.symm))
  have V146 : Arv Z h146 b146 k146 .char (0 : Int32) [] (.int 0) := (Arv.new A146 (by decide)).pad (pad_rep [] (.int 0) 0)
  have F150 := (A143.ext E146)
  have F151 := ((D143 (Or.inr (ow20 hw)) (ty := (.array .byte)) (by decide)).ext E146)
  have F152 := ((D143 (Or.inr (ow21 hw)) (ty := .byte) (by decide)).ext E146)
  obtain ⟨_, _, ⟨T149, L149, k149, n149⟩, -, XX149, hSn149, hgn149, ⟨Lc149, hQ149, l149, y149, z149, RQ149⟩, st149⟩ := Y.specialBackS B.1 (y := mn36) rfl hown142 (mvT hZ142 (ow8 hw)) (mvT hZ142 (ow9 hw)) (mvT hZ142 (ow10 hw)) (by decide) (backOfSH (W := 1) (rm_ic0 l Z a0 hw [] b143 b146 k146 h146 n0 (Nat.le_trans Z0 K147.1) F150 ((Nat.le_trans (Nat.le_trans Z0 KP142.1) (Nat.le_of_eq g143.symm))) F151 F152 V146) hZ142 (ow10 hw) (ow6 hw) (by decide) (by decide) (hEW hw) CR147.1) (g := (mkF m 53 #[iv i0, iv i1, iv i2, iv 1, iv q0, iv q1, iv q2, rv x, un, un, un, un] [(.ref b146), (.ref b143), (.ref b143)])) rfl (by rw [hml]; rfl) (Steps.refl _) (a := b143) (argsL := [(.ref b146)]) (rest := [(.ref b143)]) (lenOf opd_23 rfl) rfl (by show 2 * 0 + _ ≤ _; exact Nat.le_of_eq rfl) (hb B.2 o433.1) (fun _ _ => ⟨rfl, e146, (by decide : 10 + 4 ≤ _), (by decide : 44 + 8 ≤ _)⟩)
  dsimp only [Pt.U, Pt.locs, Pt.cells, Pt.slots] at XX149 hSn149 hgn149 l149 y149 z149 st149 hQ149 RQ149
  subst l149 y149 z149
  obtain ⟨Y, hS149, hZ149, hown149⟩ := rebS hS142 (by rw [e146]; exact (Nat.le_trans hk142 (Nat.le_trans E143.1 E146.1))) XX149 hSn149 hgn149 hZ142 hown142
  obtain ⟨t_149, kb_149, rfl, N149q, K149q, P149_0, P149_1, P149_2, P149_3⟩ := hQ149
  have N149 := Fr.app N142 N149q
  refine Go.tr st149 ?_
  have CR153 := CR147.trans RQ149
  have K153 := K147.trans K149q (allS (Or.inr (Nat.le_trans KP142.1 (Nat.le_of_eq g143.symm))) all0)
  have O153 := O147.keep K149q (allS (Nat.le_trans (Nat.le_trans Z0 KP142.1) (Nat.le_of_eq g143.symm)) all0)
  obtain ⟨_, _, ⟨T154, L154, k154, n154⟩, -, XX154, hSn154, hgn154, ⟨Lc154, hQ154, l154, y154, z154, RQ154⟩, st154⟩ := Jvm.RoadKit.callSS Y B.1 (y := mn34) hown149 (mvT hZ149 (ow26 hw)) (mvT hZ149 (ow27 hw)) (mvT hZ149 (ow28 hw)) (mvT hZ149 (ow29 hw)) (by decide) (backOfSKH (W := 0) (rm_nt0 l Z a0 hw [] b143 t_149 kb_149 ([] : List Int32) uv sv G1 T149.heap n0 (Nat.le_trans Z0 K153.1) P149_0 P149_1 P149_2 P149_3 (rfl) hl SU hu SS hv O2 P5 O153) hZ149 (ow29 hw) (ow28 hw) (by decide) (by decide) (hEW hw) CR153.1 (Vm.MethodsKnown.alikeC (hZ0.alike.symm.trans hZ149.alike) hTK) (Vm.FramesKnown.alikeC (hZ0.alike.symm.trans hZ149.alike) hBelow)) (g := (mkF m 56 #[iv i0, iv i1, iv i2, iv 1, iv q0, iv q1, iv q2, rv x, un, un, un, un] [(.ref b143)])) rfl (by rw [hml]; rfl) (argsL := [(.ref b143)]) (rest := []) (lenOf opd_24 rfl) rfl (by show 2 * 0 + _ ≤ _; exact Nat.le_of_eq rfl) (hb B.2 o434.1) (fun _ _ => ⟨rfl, rfl, (by decide : 14 + 12 ≤ _), (by decide : 52 + 3220 ≤ _)⟩)
  dsimp only [Pt.U, Pt.locs, Pt.cells, Pt.slots] at XX154 hSn154 hgn154 l154 y154 z154 st154 hQ154 RQ154
  subst l154 y154 z154
  obtain ⟨Y, hS154, hZ154, hown154⟩ := rebS hS149 (Nat.le_trans (Nat.le_refl _) (Nat.le_refl _)) XX154 hSn154 hgn154 hZ149 hown149
  obtain ⟨o_154, mx_154, mt_154, mk_154, rfl, N154q, K154q, P154_0, P154_1, P154_2, P154_3, P154_4, P154_5, P154_6, P154_7, P154_8, P154_9, P154_10⟩ := hQ154
  have N154 := Fr.app N149 N154q
  refine Go.tr st154 ?_
  have CR155 := CR153.trans RQ154
  have K155 := K153.trans K154q all0
  have O155 := O153.keep K154q all0
  obtain ⟨cq156, kq156, q156a, q156b, q156c⟩ := isOf hZ154 rfl P154_3
  obtain ⟨_, _, ⟨T156, L156, k156, n156⟩, -, Y, ⟨Lc156, hQ156, l156, y156, z156⟩, st156⟩ := Y.virtualBackUp B.1 (x := mn38) (y := mn30) (owner := ss1) hown154 (mvT hZ154 (ow213 hw)) (mvT hZ154 (ow214 hw)) (mvT hZ154 (ow215 hw)) (by decide) (mvT hZ154 (ow217 hw)) (mvT hZ154 (ow216 hw)) (backOf (W := 0) (rm_getmsg l Z a0 hw [] o_154 mx_154 T154.heap n0 (Nat.le_trans Z0 K155.1) P154_6) hZ154 (ow218 hw) (ow174 hw) (by decide) (by decide)) q156a q156c (g := (mkF m 59 #[iv i0, iv i1, iv i2, iv 1, iv q0, iv q1, iv q2, rv x, un, un, un, un] [(.ref o_154)])) rfl (by rw [hml]; rfl) (Steps.refl _) (argsL := []) (rest := []) (lenOf opd_21 rfl) rfl (by show 2 * 0 + _ ≤ _; exact Nat.le_of_eq rfl) (hb B.2 o435.1) (fun _ _ => ⟨rfl, rfl, (by decide : 26 + 0 ≤ _), (by decide : 3272 + 0 ≤ _)⟩)
  dsimp only [Pt.U, Pt.locs, Pt.cells, Pt.slots] at Y l156 y156 z156 st156 hQ156
  subst l156 y156 z156
  obtain ⟨rfl, N156q, e156⟩ := hQ156
  have N156 := Fr.app N154 N156q
  refine Go.tr st156 ?_
  refine zas Y B o436 (s8 rfl) rfl <| zal Y B o437 rfl ?_
  have F158 := ((((S0.ext E143).ext E146).keep K149q).keep K154q)
  have F159 := ((((S1.ext E143).ext E146).keep K149q (ninS (Nat.ne_of_lt (Nat.lt_of_lt_of_le S0.lt (Nat.le_of_eq g143.symm))) nin0)).keep K154q nin0)
  have F160 := ((((S2.ext E143).ext E146).keep K149q (ninS (Nat.ne_of_lt (Nat.lt_of_lt_of_le S0.lt (Nat.le_of_eq g143.symm))) nin0)).keep K154q nin0)
  have F161 := ((((S3.ext E143).ext E146).keep K149q (ninS (Nat.ne_of_lt (Nat.lt_of_lt_of_le S3.lt (Nat.le_of_eq g143.symm))) nin0)).keep K154q nin0)
  obtain ⟨_, _, ⟨T157, L157, k157, n157⟩, -, XX157, hSn157, hgn157, ⟨Lc157, hQ157, l157, y157, z157, RQ157⟩, st157⟩ := Jvm.RoadKit.callSS Y B.1 (y := mn34) hown154 (mvT hZ154 (ow26 hw)) (mvT hZ154 (ow27 hw)) (mvT hZ154 (ow28 hw)) (mvT hZ154 (ow29 hw)) (by decide) (backOfSKH (W := 0) (rm_nt1 l Z a0 hw [] x t kt ([q0] : List Int32) uv sv G1 T154.heap n0 (Nat.le_trans Z0 K155.1) F158 F159 F160 F161 (by simp) hl SU hu SS hv O2 P5 O155) hZ154 (ow29 hw) (ow28 hw) (by decide) (by decide) (hEW hw) CR155.1 (Vm.MethodsKnown.alikeC (hZ0.alike.symm.trans hZ154.alike) hTK) (Vm.FramesKnown.alikeC (hZ0.alike.symm.trans hZ154.alike) hBelow)) (g := (mkF m 66 #[iv i0, iv i1, iv i2, iv 1, iv q0, iv q1, iv q2, rv x, rv mx_154, un, un, un] [(.ref x)])) rfl (by rw [hml]; rfl) (argsL := [(.ref x)]) (rest := []) (lenOf opd_24 rfl) rfl (by show 2 * 0 + _ ≤ _; exact Nat.le_of_eq rfl) (hb B.2 o438.1) (fun _ _ => ⟨rfl, e156, (by decide : 26 + 12 ≤ _), (by decide : 3272 + 3220 ≤ _)⟩)
  dsimp only [Pt.U, Pt.locs, Pt.cells, Pt.slots] at XX157 hSn157 hgn157 l157 y157 z157 st157 hQ157 RQ157
  subst l157 y157 z157
  obtain ⟨Y, hS157, hZ157, hown157⟩ := rebS hS154 (by rw [e156]; exact (Nat.le_trans (Nat.le_refl _) (Nat.le_refl _))) XX157 hSn157 hgn157 hZ154 hown154
  obtain ⟨o_157, mx_157, mt_157, mk_157, rfl, N157q, K157q, P157_0, P157_1, P157_2, P157_3, P157_4, P157_5, P157_6, P157_7, P157_8, P157_9, P157_10⟩ := hQ157
  have N157 := Fr.app N156 N157q
  refine Go.tr st157 ?_
  have CR162 := CR155.trans RQ157
  have K162 := K155.trans K157q all0
  have O162 := O155.keep K157q all0
  refine zas Y B o439 (s9 rfl) rfl <| zal Y B o440 rfl ?_
  obtain ⟨cq163, kq163, q163a, q163b, q163c⟩ := isOf hZ157 rfl P157_3
  obtain ⟨_, _, ⟨T163, L163, k163, n163⟩, -, Y, ⟨Lc163, hQ163, l163, y163, z163⟩, st163⟩ := Y.virtualBackUp B.1 (x := mn38) (y := mn30) (owner := ss1) hown157 (mvT hZ157 (ow213 hw)) (mvT hZ157 (ow214 hw)) (mvT hZ157 (ow215 hw)) (by decide) (mvT hZ157 (ow217 hw)) (mvT hZ157 (ow216 hw)) (backOf (W := 0) (rm_getmsg l Z a0 hw [] o_157 mx_157 T157.heap n0 (Nat.le_trans Z0 K162.1) P157_6) hZ157 (ow218 hw) (ow174 hw) (by decide) (by decide)) q163a q163c (g := (mkF m 73 #[iv i0, iv i1, iv i2, iv 1, iv q0, iv q1, iv q2, rv x, rv mx_154, rv o_157, un, un] [(.ref o_157)])) rfl (by rw [hml]; rfl) (Steps.refl _) (argsL := []) (rest := []) (lenOf opd_21 rfl) rfl (by show 2 * 0 + _ ≤ _; exact Nat.le_of_eq rfl) (hb B.2 o441.1) (fun _ _ => ⟨rfl, rfl, (by decide : 38 + 0 ≤ _), (by decide : 6492 + 0 ≤ _)⟩)
  dsimp only [Pt.U, Pt.locs, Pt.cells, Pt.slots] at Y l163 y163 z163 st163 hQ163
  subst l163 y163 z163
  obtain ⟨rfl, N163q, e163⟩ := hQ163
  have N163 := Fr.app N157 N163q
  refine Go.tr st163 ?_
  refine zas Y B o442 (s10 rfl) rfl <| zal Y B o443 rfl <| znN Y B o444 <| zal Y B o445 rfl <| znnY Y B j20 <| zal Y B o446 rfl ?_
  have loE : Lo (((([] : List Int32) ++ T42) ++ ([] : List Int32)) ++ T1) := Lo_app (Lo_app (Lo_app (by decide) t42_lo) (by decide)) t1_lo
  have loD : Lo ([q0] : List Int32) := by
    intro c hc; simp only [List.mem_cons, List.not_mem_nil, or_false] at hc; rcases hc with rfl
    · exact LQ0
  have loM : Lo (((([] : List Int32) ++ T42) ++ ([q0] : List Int32)) ++ T1) := Lo_app (Lo_app (Lo_app (by decide) t42_lo) loD) t1_lo
  obtain ⟨sa164, T164, h164, k164, sb164, kb164, Y, e164, E164, hS164, hk164, hZ164, hown164, PE164, PC164, PV164, PA164, la164, lb164, R164, LT164, SF164, st164⟩ := ldcCH Y B.1 hZ157 hown157 (ow219 hw) (ostr hw) e163 hS157 (Nat.le_trans (Nat.le_refl _) (Nat.le_refl _)) (hEW hw) (List.mem_of_getElem? (i := 2) rfl) CR162.1 (vs := ((([116, 104, 101, 32, 115, 116, 111, 114, 101, 32, 97, 108, 114, 101, 97, 100, 121, 32, 104, 111, 108, 100, 115, 32, 97, 32, 100, 111, 99, 117, 109, 101, 110, 116, 32, 110, 97, 109, 101, 100, 32, 39, 39] : List Int32).map (fun c => c.toInt8.toInt32)).map Value.int)) (z := (43 : Int32)) (by decide +kernel) (by decide) (by decide) (g := (mkF m 92 #[iv i0, iv i1, iv i2, iv 1, iv q0, iv q1, iv q2, rv x, rv mx_154, rv o_157, rv mx_157, un] [(.ref mx_154)])) rfl (hb B.2 o447.1) (n := 172) (by decide) (by decide) (by decide) (by decide)
  refine Go.by st164 ?_
  have CR165 := CR162.trans R164
  have K165 := K162.ext E164
  have O165 := O162.ext E164
  show Go p e below _ _ (mkF m 94 #[iv i0, iv i1, iv i2, iv 1, iv q0, iv q1, iv q2, rv x, rv mx_154, rv o_157, rv mx_157, un] [(.ref sa164), (.ref mx_154)])
  have F166 := ((P154_7.keep K157q).ext E164)
  have F167 := ((P154_9.keep K157q nin0).ext E164)
  have F168 := ((P154_8.keep K157q nin0).ext E164)
  have F169 := ((P154_10.keep K157q nin0).ext E164)
  obtain ⟨cq170, kq170, q170a, q170b, q170c⟩ := isOf hZ164 e164 F166
  obtain ⟨_, _, ⟨T170, L170, k170, n170⟩, -, Y, ⟨Lc170, hQ170, l170, y170, z170⟩, st170⟩ := Y.virtualBack B.1 (y := mn39) (z := mn39) hown164 (mvT hZ164 (ow220 hw)) (mvT hZ164 (ow221 hw)) (notFace_of_selects (args := #[]) (mvT hZ164 (ow223 hw))) (mvT hZ164 (ow223 hw)) (mvT hZ164 (ow222 hw)) (by decide) (StrChars.Road.eqW (W := 0) hZ164 (hw_eq hw) (kI := 4) (ow5 hw) F166 F167 F168 F169 (cod8 (n := 43) rfl loE) (up255 loE) (by decide) PE164 PV164 PC164 PA164 (cod8 (n := 43) rfl t43_lo) (up255 t43_lo) (by decide) (O2.ext O165.2) P5 (by decide) (by decide)) q170a q170c (g := (mkF m 94 #[iv i0, iv i1, iv i2, iv 1, iv q0, iv q1, iv q2, rv x, rv mx_154, rv o_157, rv mx_157, un] [(.ref sa164), (.ref mx_154)])) rfl (by rw [hml]; rfl) (Steps.refl _) (argsL := [(.ref sa164)]) (rest := []) (lenOf opd_25 rfl) rfl (by show 2 * 0 + _ ≤ _; exact Nat.le_of_eq rfl) (hb B.2 o448.1) (fun _ _ => ⟨rfl, e164, (by decide : 40 + 0 ≤ _), (by decide : 6668 + 0 ≤ _)⟩)
  dsimp only [Pt.U, Pt.locs, Pt.cells, Pt.slots] at Y l170 y170 z170 st170 hQ170
  subst l170 y170 z170
  obtain ⟨hR170, rfl, e170⟩ := hQ170
  have N170 := Fr.app N163 (Fr.nil n0)
  rcases hR170 with ⟨rfl, he170⟩ | ⟨rfl, he170⟩
  · refine Go.tr st170 ?_
    show Go p e below _ _ (mkF m 97 #[iv i0, iv i1, iv i2, iv 1, iv q0, iv q1, iv q2, rv x, rv mx_154, rv o_157, rv mx_157, un] [(.int 1)])
    refine zY Y B j21 (by decide) ?_
    refine zal Y B o449 rfl ?_
    have F172 := (P157_5.ext E164)
    have F173 := (P157_3.ext E164)
    have F174 := (P157_4.ext E164)
    obtain ⟨cq171, kq171, q171a, q171b, q171c⟩ := isOf hZ164 e170 F173
    obtain ⟨_, _, ⟨T171, L171, k171, n171⟩, -, Y, ⟨hv171, e171, l171, y171, z171⟩, st171⟩ := Y.virtualBackUp B.1 (x := mn40) (y := mn41) (owner := ss1) hown164 (mvT hZ164 (ow230 hw)) (mvT hZ164 (ow231 hw)) (mvT hZ164 (ow232 hw)) (by decide) (mvT hZ164 (ow234 hw)) (mvT hZ164 (ow233 hw)) (gcBackPure (rm := { frames := 0, cells := 0, slots := 0, locals := 0 }) (W := 0) hZ164 (ow235 hw) (ow233 hw) (ow174 hw) (ow177 hw) F174 F172 rfl (by decide) (by decide)) q171a q171c (g := (mkF m 104 #[iv i0, iv i1, iv i2, iv 1, iv q0, iv q1, iv q2, rv x, rv mx_154, rv o_157, rv mx_157, un] [(.ref o_157)])) rfl (by rw [hml]; rfl) (Steps.refl _) (argsL := []) (rest := []) (lenOf opd_26 rfl) rfl (by show 2 * 0 + _ ≤ _; exact Nat.le_of_eq rfl) (hb B.2 o450.1) (fun _ _ => ⟨rfl, e170, (by decide : 40 + 0 ≤ _), (by decide : 6668 + 0 ≤ _)⟩)
    dsimp only [Pt.U, Pt.locs, Pt.cells, Pt.slots] at Y e171 l171 y171 z171 st171
    subst l171 y171 z171
    rw [gcV, if_pos rfl] at hv171
    subst hv171
    refine Go.tr st171 ?_
    refine znY Y B j22 <| zal Y B o451 rfl ?_
    have F176 := (P157_7.ext E164)
    have F177 := (P157_8.ext E164)
    have F178 := (P157_9.ext E164)
    have F179 := (P157_10.ext E164)
    refine zcv Y B hZ164 hown164 (ow236 hw) (ow62 hw) (notFace_of_selects (args := #[]) (mvT hZ164 (ow64 hw))) (ow64 hw) (ow63 hw) (ow6 hw) (ow65 hw) (by decide) F176 (rm_slen l Z a0 hw [] mx_157 mt_157 mk_157 (((([] : List Int32) ++ T42) ++ ([q0] : List Int32)) ++ T1) G1 h164 n0 (Nat.le_trans Z0 K165.1) F176 F177 F178 F179 O2 P5 O165) e171 hml opd_7 rfl o452 rfl rfl rfl rfl rfl fun _ T175 _ Y hQ => ?_
    obtain ⟨rfl, N175q, e175⟩ := hQ
    have N175 := Fr.app N170 N175q
    refine zbp Y B o453 (v := 43) rfl <| zilN Y B o454 rfl <| ziadd Y B o455 (v := 44) rfl ?_
    refine zCY Y B j23 (teq rfl).1 ?_
    refine zilN Y B o456 rfl ?_
    refine Go.f2 (Y.ldcInt B.1 hown164 (mvT hZ164 (ow237 hw)) rfl (hb B.2 o457.1)) ?_
    refine ziand Y B o458 rfl <| zbp Y B o459 (v := 42) rfl ?_
    refine Go.by (fun _ kq_ => iremM Y B.1 rfl (hb B.2 o460.1) rfl (by decide) kq_) ?_
    show Go p e below _ _ (mkF m 133 #[iv i0, iv i1, iv i2, iv 1, iv q0, iv q1, iv q2, rv x, rv mx_154, rv o_157, rv mx_157, un] [(.int ((i2 &&& (2147483647 : Int32)) % (42 : Int32)))])
    obtain ⟨N, HN, eN⟩ := rem_on i2 (M := 41) (by decide)
    have eN' : ((i2 &&& (2147483647 : Int32)) % (42 : Int32)) = Int32.ofNat N := eN
    rw [eN']
    show Go p e below _ _ (mkF m 133 #[iv i0, iv i1, iv i2, iv 1, iv q0, iv q1, iv q2, rv x, rv mx_154, rv o_157, rv mx_157, un] [(.int (Int32.ofNat N))])
    refine zis Y B o461 (s11 rfl) <| zal Y B o462 rfl <| zil Y B o463 rfl ?_
    refine zcv Y B hZ164 hown164 (ow238 hw) (ow239 hw) (notFace_of_selects (args := #[]) (mvT hZ164 (ow241 hw))) (ow241 hw) (ow240 hw) (ow6 hw) (ow242 hw) (by decide) F176 (rm_schar l Z a0 hw [] mx_157 mt_157 mk_157 (((([] : List Int32) ++ T42) ++ ([q0] : List Int32)) ++ T1) N G1 G3 h164 n0 (Nat.le_trans Z0 K165.1) F176 F177 F178 F179 (loM) (by show N < 44; omega) (by show 44 < 2 ^ 31; decide) O2 P5 O165 O4 rG3) e175 hml opd_27 rfl o464 rfl rfl rfl rfl rfl fun _ T180 _ Y hQ => ?_
    obtain ⟨rfl, N180q, e180⟩ := hQ
    have N180 := Fr.app N175 N180q
    refine zal Y B o465 rfl <| zil Y B o466 rfl ?_
    refine zcv Y B hZ164 hown164 (ow238 hw) (ow239 hw) (notFace_of_selects (args := #[]) (mvT hZ164 (ow241 hw))) (ow241 hw) (ow240 hw) (ow6 hw) (ow242 hw) (by decide) F166 (rm_schar l Z a0 hw [] mx_154 mt_154 mk_154 (((([] : List Int32) ++ T42) ++ ([] : List Int32)) ++ T1) N G1 G3 h164 n0 (Nat.le_trans Z0 K165.1) F166 F168 F167 F169 (loE) (by show N < 43; omega) (by decide) O2 P5 O165 O4 rG3) e180 hml opd_27 rfl o467 rfl rfl rfl rfl rfl fun _ T181 _ Y hQ => ?_
    obtain ⟨rfl, N181q, e181⟩ := hQ
    have N181 := Fr.app N180 N181q
    refine zCY Y B j24 (teq (show ((((([] : List Int32) ++ T42) ++ ([q0] : List Int32)) ++ T1).getD N 0) = ((((([] : List Int32) ++ T42) ++ ([] : List Int32)) ++ T1).getD N 0) from ((pre_getD (show N < 42 by omega)).trans (pre_getD (show N < 42 by omega)).symm))).1 ?_
    refine zilN Y B o468 rfl <| zN Y B o482 (by decide) ?_
    refine zal Y B o483 rfl <| zbp Y B o484 (v := 42) rfl ?_
    refine zcv Y B hZ164 hown164 (ow238 hw) (ow239 hw) (notFace_of_selects (args := #[]) (mvT hZ164 (ow241 hw))) (ow241 hw) (ow240 hw) (ow6 hw) (ow242 hw) (by decide) F176 (rm_schar l Z a0 hw [] mx_157 mt_157 mk_157 (((([] : List Int32) ++ T42) ++ ([q0] : List Int32)) ++ T1) 42 G1 G3 h164 n0 (Nat.le_trans Z0 K165.1) F176 F177 F178 F179 (loM) (by show 42 < 44; decide) (by show 44 < 2 ^ 31; decide) O2 P5 O165 O4 rG3) e181 hml opd_27 rfl o485 rfl rfl rfl rfl rfl fun _ T182 _ Y hQ => ?_
    obtain ⟨rfl, N182q, e182⟩ := hQ
    have N182 := Fr.app N181 N182q
    refine zil Y B o486 rfl ?_
    refine zCY Y B j29 (teq rfl).1 ?_
    refine zilN Y B o469 rfl <| zc1 Y B o470 <| zCY Y B j26 (by decide) ?_
    refine zilN Y B o471 rfl <| zc2 Y B o472 <| zCY Y B j27 (by decide) ?_
    refine zal Y B o473 rfl <| zbp Y B o474 (v := 42) rfl <| zilN Y B o475 rfl <| ziadd Y B o476 (v := 43) rfl ?_
    refine zcv Y B hZ164 hown164 (ow238 hw) (ow239 hw) (notFace_of_selects (args := #[]) (mvT hZ164 (ow241 hw))) (ow241 hw) (ow240 hw) (ow6 hw) (ow242 hw) (by decide) F176 (rm_schar l Z a0 hw [] mx_157 mt_157 mk_157 (((([] : List Int32) ++ T42) ++ ([q0] : List Int32)) ++ T1) 43 G1 G3 h164 n0 (Nat.le_trans Z0 K165.1) F176 F177 F178 F179 (loM) (by show 43 < 44; decide) (by show 44 < 2 ^ 31; decide) O2 P5 O165 O4 rG3) e182 hml opd_27 rfl o477 rfl rfl rfl rfl rfl fun _ T183 _ Y hQ => ?_
    obtain ⟨rfl, N183q, e183⟩ := hQ
    have N183 := Fr.app N182 N183q
    refine zbp Y B o478 (v := 39) rfl ?_
    refine zCN Y B o479 (teq rfl).2 ?_
    refine zc1 Y B o480 <| zgo Y B j28 ?_
    exact Go.retNW Y B.1 (t := .boolean) hret (by simp) hlk (hb B.2 o481.1) hS164 (by rw [e183]; exact (Nat.le_trans hk164 (Nat.le_refl _))) hZ164 (hEW hw) (by rw [e183]; exact CR165) (by first | (rw [e183]; exact ⟨rfl, N183, K165⟩) | exact ⟨rfl, N183, K165⟩) (by decide) (by decide)
  · refine Go.tr st170 ?_
    show Go p e below _ _ (mkF m 97 #[iv i0, iv i1, iv i2, iv 1, iv q0, iv q1, iv q2, rv x, rv mx_154, rv o_157, rv mx_157, un] [(.int 0)])
    exact absurd (rfl : (((([] : List Int32) ++ T42) ++ ([] : List Int32)) ++ T1) = T43) he170
theorem pc_law_P46_2 {l Z a0 i0 i1 i2 uv sv G1 G3 h0 n0 p e s m below meth c} (cx : Q_cx_law l Z a0 i0 i1 i2 uv sv G1 G3 h0 n0 p e s m below meth c) :
    ∀ (T184 : State) (LL184 : List Loc) (hP184 : Heap) (vm184 : Vm) (kk184 : Nat) (q0 : Int32) (q1 : Int32) (q2 : Int32) (x : Addr) (t : Addr) (kt : ClassId), Stand p l e room_1 (s.setVm vm184) m #[(.int i0), (.int i1), (.int i2)] below meth c T184 LL184 8 40 → T184.heap = hP184 → Fr n0 LL184 → Keep h0 hP184 [] → Old Z n0 hP184 → s.Since vm184 kk184 → kk184 ≤ hP184.size → Z.Warmed39 (s.setVm vm184).vm → (s.setVm vm184).vm.findClass ss14 = some m.cls → CHr Z EL s.vm h0 vm184 hP184 → (Exa Z hP184 x ss0) → (Fld Z hP184 x ss0 ss3 "B" (.int 0)) → (Fld Z hP184 x ss0 ss4 "[B" (.ref t)) → (Arv Z hP184 t kt .byte (Int32.ofNat ([q0, q1] : List Int32).length) (B8 ([q0, q1] : List Int32)) (.int 0)) → (¬ q0 < 0 ∧ ¬ (255 : Int32) < q0) → (¬ q1 < 0 ∧ ¬ (255 : Int32) < q1) → (¬ q2 < 0 ∧ ¬ (255 : Int32) < q2) → Go p e below (OutW Z EL s (Q_law Z  h0 n0) room_1.cells room_1.slots) T184 (mkF m 46 #[iv i0, iv i1, iv i2, iv 2, iv q0, iv q1, iv q2, rv x, un, un, un, un] []) := by
  obtain ⟨hw, Z0, hl, SU, hu, SS, hv, O2, P5, X00, O4, rG3, hZ, hh, hCH, hTK, hBelow, B, hml, hret, hlk, hown, hnm⟩ := id cx
  have hZ0 := hZ
  have CR0 : CHr Z EL s.vm s.heap s.vm h0 := by rw [hh]; exact CHr.refl hCH
  intro T184 LL184 hP184 vm184 kk184 q0 q1 q2 x t kt Y e184 N184 KP184 OP184 hS184 hk184 hZ184 hown184 RP184 S0 S1 S2 S3 LQ0 LQ1 LQ2
  have CRP184 := CR0.trans RP184
  refine zno Y B hZ184 hown184 (ow4 hw) (ow5 hw) (ow6 hw) e184 o429 rfl rfl fun T185 h185 b185 g185 Y e185 E185 A185 D185 U185 => ?_
  have R186 := CHr.ext E185 CRP184.1
  have CR186 := CRP184.trans R186
  have K186 := KP184.ext E185
  have O186 := OP184.ext E185
  have Sf187 : Safe Z EL vm184 h185 b185 := Safe.ext E185 CRP184.1 (Safe.new (Nat.le_of_eq g185.symm))
  refine zdup Y B o430 rfl <| zc0 Y B o431 ?_
  refine znp Y B hZ184 (aty := .char) (ow7 hw) e185 o432 (by decide) (cap := 0) (by decide) rfl rfl rfl fun T188 h188 k188 b188 g188 Y e188 E188 A188 => ?_
  have R189 := CHr.ext E188 CR186.1
  have CR189 := CR186.trans R189
  have K189 := K186.ext E188
  have O189 := O186.ext E188
  have Sf190 : Safe Z EL vm184 h188 b188 := Safe.ext E188 CR186.1 (Safe.new (Nat.le_of_eq g188.symm))
  have V188 : Arv Z h188 b188 k188 .char (0 : Int32) [] (.int 0) := (Arv.new A188 (by decide)).pad (pad_rep [] (.int 0) 0)
  have F192 := (A185.ext E188)
  have F193 := ((D185 (Or.inr (ow20 hw)) (ty := (.array .byte)) (by decide)).ext E188)
  have F194 := ((D185 (Or.inr (ow21 hw)) (ty := .byte) (by decide)).ext E188)
  obtain ⟨_, _, ⟨T191, L191, k191, n191⟩, -, XX191, hSn191, hgn191, ⟨Lc191, hQ191, l191, y191, z191, RQ191⟩, st191⟩ := Y.specialBackS B.1 (y := mn36) rfl hown184 (mvT hZ184 (ow8 hw)) (mvT hZ184 (ow9 hw)) (mvT hZ184 (ow10 hw)) (by decide) (backOfSH (W := 1) (rm_ic0 l Z a0 hw [] b185 b188 k188 h188 n0 (Nat.le_trans Z0 K189.1) F192 ((Nat.le_trans (Nat.le_trans Z0 KP184.1) (Nat.le_of_eq g185.symm))) F193 F194 V188) hZ184 (ow10 hw) (ow6 hw) (by decide) (by decide) (hEW hw) CR189.1) (g := (mkF m 53 #[iv i0, iv i1, iv i2, iv 2, iv q0, iv q1, iv q2, rv x, un, un, un, un] [(.ref b188), (.ref b185), (.ref b185)])) rfl (by rw [hml]; rfl) (Steps.refl _) (a := b185) (argsL := [(.ref b188)]) (rest := [(.ref b185)]) (lenOf opd_23 rfl) rfl (by show 2 * 0 + _ ≤ _; exact Nat.le_of_eq rfl) (hb B.2 o433.1) (fun _ _ => ⟨rfl, e188, (by decide : 10 + 4 ≤ _), (by decide : 44 + 8 ≤ _)⟩)
  dsimp only [Pt.U, Pt.locs, Pt.cells, Pt.slots] at XX191 hSn191 hgn191 l191 y191 z191 st191 hQ191 RQ191
  subst l191 y191 z191
  obtain ⟨Y, hS191, hZ191, hown191⟩ := rebS hS184 (by rw [e188]; exact (Nat.le_trans hk184 (Nat.le_trans E185.1 E188.1))) XX191 hSn191 hgn191 hZ184 hown184
  obtain ⟨t_191, kb_191, rfl, N191q, K191q, P191_0, P191_1, P191_2, P191_3⟩ := hQ191
  have N191 := Fr.app N184 N191q
  refine Go.tr st191 ?_
  have CR195 := CR189.trans RQ191
  have K195 := K189.trans K191q (allS (Or.inr (Nat.le_trans KP184.1 (Nat.le_of_eq g185.symm))) all0)
  have O195 := O189.keep K191q (allS (Nat.le_trans (Nat.le_trans Z0 KP184.1) (Nat.le_of_eq g185.symm)) all0)
  obtain ⟨_, _, ⟨T196, L196, k196, n196⟩, -, XX196, hSn196, hgn196, ⟨Lc196, hQ196, l196, y196, z196, RQ196⟩, st196⟩ := Jvm.RoadKit.callSS Y B.1 (y := mn34) hown191 (mvT hZ191 (ow26 hw)) (mvT hZ191 (ow27 hw)) (mvT hZ191 (ow28 hw)) (mvT hZ191 (ow29 hw)) (by decide) (backOfSKH (W := 0) (rm_nt0 l Z a0 hw [] b185 t_191 kb_191 ([] : List Int32) uv sv G1 T191.heap n0 (Nat.le_trans Z0 K195.1) P191_0 P191_1 P191_2 P191_3 (rfl) hl SU hu SS hv O2 P5 O195) hZ191 (ow29 hw) (ow28 hw) (by decide) (by decide) (hEW hw) CR195.1 (Vm.MethodsKnown.alikeC (hZ0.alike.symm.trans hZ191.alike) hTK) (Vm.FramesKnown.alikeC (hZ0.alike.symm.trans hZ191.alike) hBelow)) (g := (mkF m 56 #[iv i0, iv i1, iv i2, iv 2, iv q0, iv q1, iv q2, rv x, un, un, un, un] [(.ref b185)])) rfl (by rw [hml]; rfl) (argsL := [(.ref b185)]) (rest := []) (lenOf opd_24 rfl) rfl (by show 2 * 0 + _ ≤ _; exact Nat.le_of_eq rfl) (hb B.2 o434.1) (fun _ _ => ⟨rfl, rfl, (by decide : 14 + 12 ≤ _), (by decide : 52 + 3220 ≤ _)⟩)
  dsimp only [Pt.U, Pt.locs, Pt.cells, Pt.slots] at XX196 hSn196 hgn196 l196 y196 z196 st196 hQ196 RQ196
  subst l196 y196 z196
  obtain ⟨Y, hS196, hZ196, hown196⟩ := rebS hS191 (Nat.le_trans (Nat.le_refl _) (Nat.le_refl _)) XX196 hSn196 hgn196 hZ191 hown191
  obtain ⟨o_196, mx_196, mt_196, mk_196, rfl, N196q, K196q, P196_0, P196_1, P196_2, P196_3, P196_4, P196_5, P196_6, P196_7, P196_8, P196_9, P196_10⟩ := hQ196
  have N196 := Fr.app N191 N196q
  refine Go.tr st196 ?_
  have CR197 := CR195.trans RQ196
  have K197 := K195.trans K196q all0
  have O197 := O195.keep K196q all0
  obtain ⟨cq198, kq198, q198a, q198b, q198c⟩ := isOf hZ196 rfl P196_3
  obtain ⟨_, _, ⟨T198, L198, k198, n198⟩, -, Y, ⟨Lc198, hQ198, l198, y198, z198⟩, st198⟩ := Y.virtualBackUp B.1 (x := mn38) (y := mn30) (owner := ss1) hown196 (mvT hZ196 (ow213 hw)) (mvT hZ196 (ow214 hw)) (mvT hZ196 (ow215 hw)) (by decide) (mvT hZ196 (ow217 hw)) (mvT hZ196 (ow216 hw)) (backOf (W := 0) (rm_getmsg l Z a0 hw [] o_196 mx_196 T196.heap n0 (Nat.le_trans Z0 K197.1) P196_6) hZ196 (ow218 hw) (ow174 hw) (by decide) (by decide)) q198a q198c (g := (mkF m 59 #[iv i0, iv i1, iv i2, iv 2, iv q0, iv q1, iv q2, rv x, un, un, un, un] [(.ref o_196)])) rfl (by rw [hml]; rfl) (Steps.refl _) (argsL := []) (rest := []) (lenOf opd_21 rfl) rfl (by show 2 * 0 + _ ≤ _; exact Nat.le_of_eq rfl) (hb B.2 o435.1) (fun _ _ => ⟨rfl, rfl, (by decide : 26 + 0 ≤ _), (by decide : 3272 + 0 ≤ _)⟩)
  dsimp only [Pt.U, Pt.locs, Pt.cells, Pt.slots] at Y l198 y198 z198 st198 hQ198
  subst l198 y198 z198
  obtain ⟨rfl, N198q, e198⟩ := hQ198
  have N198 := Fr.app N196 N198q
  refine Go.tr st198 ?_
  refine zas Y B o436 (s8 rfl) rfl <| zal Y B o437 rfl ?_
  have F200 := ((((S0.ext E185).ext E188).keep K191q).keep K196q)
  have F201 := ((((S1.ext E185).ext E188).keep K191q (ninS (Nat.ne_of_lt (Nat.lt_of_lt_of_le S0.lt (Nat.le_of_eq g185.symm))) nin0)).keep K196q nin0)
  have F202 := ((((S2.ext E185).ext E188).keep K191q (ninS (Nat.ne_of_lt (Nat.lt_of_lt_of_le S0.lt (Nat.le_of_eq g185.symm))) nin0)).keep K196q nin0)
  have F203 := ((((S3.ext E185).ext E188).keep K191q (ninS (Nat.ne_of_lt (Nat.lt_of_lt_of_le S3.lt (Nat.le_of_eq g185.symm))) nin0)).keep K196q nin0)
  obtain ⟨_, _, ⟨T199, L199, k199, n199⟩, -, XX199, hSn199, hgn199, ⟨Lc199, hQ199, l199, y199, z199, RQ199⟩, st199⟩ := Jvm.RoadKit.callSS Y B.1 (y := mn34) hown196 (mvT hZ196 (ow26 hw)) (mvT hZ196 (ow27 hw)) (mvT hZ196 (ow28 hw)) (mvT hZ196 (ow29 hw)) (by decide) (backOfSKH (W := 0) (rm_nt1 l Z a0 hw [] x t kt ([q0, q1] : List Int32) uv sv G1 T196.heap n0 (Nat.le_trans Z0 K197.1) F200 F201 F202 F203 (by simp) hl SU hu SS hv O2 P5 O197) hZ196 (ow29 hw) (ow28 hw) (by decide) (by decide) (hEW hw) CR197.1 (Vm.MethodsKnown.alikeC (hZ0.alike.symm.trans hZ196.alike) hTK) (Vm.FramesKnown.alikeC (hZ0.alike.symm.trans hZ196.alike) hBelow)) (g := (mkF m 66 #[iv i0, iv i1, iv i2, iv 2, iv q0, iv q1, iv q2, rv x, rv mx_196, un, un, un] [(.ref x)])) rfl (by rw [hml]; rfl) (argsL := [(.ref x)]) (rest := []) (lenOf opd_24 rfl) rfl (by show 2 * 0 + _ ≤ _; exact Nat.le_of_eq rfl) (hb B.2 o438.1) (fun _ _ => ⟨rfl, e198, (by decide : 26 + 12 ≤ _), (by decide : 3272 + 3220 ≤ _)⟩)
  dsimp only [Pt.U, Pt.locs, Pt.cells, Pt.slots] at XX199 hSn199 hgn199 l199 y199 z199 st199 hQ199 RQ199
  subst l199 y199 z199
  obtain ⟨Y, hS199, hZ199, hown199⟩ := rebS hS196 (by rw [e198]; exact (Nat.le_trans (Nat.le_refl _) (Nat.le_refl _))) XX199 hSn199 hgn199 hZ196 hown196
  obtain ⟨o_199, mx_199, mt_199, mk_199, rfl, N199q, K199q, P199_0, P199_1, P199_2, P199_3, P199_4, P199_5, P199_6, P199_7, P199_8, P199_9, P199_10⟩ := hQ199
  have N199 := Fr.app N198 N199q
  refine Go.tr st199 ?_
  have CR204 := CR197.trans RQ199
  have K204 := K197.trans K199q all0
  have O204 := O197.keep K199q all0
  refine zas Y B o439 (s9 rfl) rfl <| zal Y B o440 rfl ?_
  obtain ⟨cq205, kq205, q205a, q205b, q205c⟩ := isOf hZ199 rfl P199_3
  obtain ⟨_, _, ⟨T205, L205, k205, n205⟩, -, Y, ⟨Lc205, hQ205, l205, y205, z205⟩, st205⟩ := Y.virtualBackUp B.1 (x := mn38) (y := mn30) (owner := ss1) hown199 (mvT hZ199 (ow213 hw)) (mvT hZ199 (ow214 hw)) (mvT hZ199 (ow215 hw)) (by decide) (mvT hZ199 (ow217 hw)) (mvT hZ199 (ow216 hw)) (backOf (W := 0) (rm_getmsg l Z a0 hw [] o_199 mx_199 T199.heap n0 (Nat.le_trans Z0 K204.1) P199_6) hZ199 (ow218 hw) (ow174 hw) (by decide) (by decide)) q205a q205c (g := (mkF m 73 #[iv i0, iv i1, iv i2, iv 2, iv q0, iv q1, iv q2, rv x, rv mx_196, rv o_199, un, un] [(.ref o_199)])) rfl (by rw [hml]; rfl) (Steps.refl _) (argsL := []) (rest := []) (lenOf opd_21 rfl) rfl (by show 2 * 0 + _ ≤ _; exact Nat.le_of_eq rfl) (hb B.2 o441.1) (fun _ _ => ⟨rfl, rfl, (by decide : 38 + 0 ≤ _), (by decide : 6492 + 0 ≤ _)⟩)
  dsimp only [Pt.U, Pt.locs, Pt.cells, Pt.slots] at Y l205 y205 z205 st205 hQ205
  subst l205 y205 z205
  obtain ⟨rfl, N205q, e205⟩ := hQ205
  have N205 := Fr.app N199 N205q
  refine Go.tr st205 ?_
  refine zas Y B o442 (s10 rfl) rfl <| zal Y B o443 rfl <| znN Y B o444 <| zal Y B o445 rfl <| znnY Y B j20 <| zal Y B o446 rfl ?_
  have loE : Lo (((([] : List Int32) ++ T42) ++ ([] : List Int32)) ++ T1) := Lo_app (Lo_app (Lo_app (by decide) t42_lo) (by decide)) t1_lo
  have loD : Lo ([q0, q1] : List Int32) := by
    intro c hc; simp only [List.mem_cons, List.not_mem_nil, or_false] at hc; rcases hc with rfl | rfl
    · exact LQ0
    · exact LQ1
  have loM : Lo (((([] : List Int32) ++ T42) ++ ([q0, q1] : List Int32)) ++ T1) := Lo_app (Lo_app (Lo_app (by decide) t42_lo) loD) t1_lo
  obtain ⟨sa206, T206, h206, k206, sb206, kb206, Y, e206, E206, hS206, hk206, hZ206, hown206, PE206, PC206, PV206, PA206, la206, lb206, R206, LT206, SF206, st206⟩ := ldcCH Y B.1 hZ199 hown199 (ow219 hw) (ostr hw) e205 hS199 (Nat.le_trans (Nat.le_refl _) (Nat.le_refl _)) (hEW hw) (List.mem_of_getElem? (i := 2) rfl) CR204.1 (vs := ((([116, 104, 101, 32, 115, 116, 111, 114, 101, 32, 97, 108, 114, 101, 97, 100, 121, 32, 104, 111, 108, 100, 115, 32, 97, 32, 100, 111, 99, 117, 109, 101, 110, 116, 32, 110, 97, 109, 101, 100, 32, 39, 39] : List Int32).map (fun c => c.toInt8.toInt32)).map Value.int)) (z := (43 : Int32)) (by decide +kernel) (by decide) (by decide) (g := (mkF m 92 #[iv i0, iv i1, iv i2, iv 2, iv q0, iv q1, iv q2, rv x, rv mx_196, rv o_199, rv mx_199, un] [(.ref mx_196)])) rfl (hb B.2 o447.1) (n := 172) (by decide) (by decide) (by decide) (by decide)
  refine Go.by st206 ?_
  have CR207 := CR204.trans R206
  have K207 := K204.ext E206
  have O207 := O204.ext E206
  show Go p e below _ _ (mkF m 94 #[iv i0, iv i1, iv i2, iv 2, iv q0, iv q1, iv q2, rv x, rv mx_196, rv o_199, rv mx_199, un] [(.ref sa206), (.ref mx_196)])
  have F208 := ((P196_7.keep K199q).ext E206)
  have F209 := ((P196_9.keep K199q nin0).ext E206)
  have F210 := ((P196_8.keep K199q nin0).ext E206)
  have F211 := ((P196_10.keep K199q nin0).ext E206)
  obtain ⟨cq212, kq212, q212a, q212b, q212c⟩ := isOf hZ206 e206 F208
  obtain ⟨_, _, ⟨T212, L212, k212, n212⟩, -, Y, ⟨Lc212, hQ212, l212, y212, z212⟩, st212⟩ := Y.virtualBack B.1 (y := mn39) (z := mn39) hown206 (mvT hZ206 (ow220 hw)) (mvT hZ206 (ow221 hw)) (notFace_of_selects (args := #[]) (mvT hZ206 (ow223 hw))) (mvT hZ206 (ow223 hw)) (mvT hZ206 (ow222 hw)) (by decide) (StrChars.Road.eqW (W := 0) hZ206 (hw_eq hw) (kI := 4) (ow5 hw) F208 F209 F210 F211 (cod8 (n := 43) rfl loE) (up255 loE) (by decide) PE206 PV206 PC206 PA206 (cod8 (n := 43) rfl t43_lo) (up255 t43_lo) (by decide) (O2.ext O207.2) P5 (by decide) (by decide)) q212a q212c (g := (mkF m 94 #[iv i0, iv i1, iv i2, iv 2, iv q0, iv q1, iv q2, rv x, rv mx_196, rv o_199, rv mx_199, un] [(.ref sa206), (.ref mx_196)])) rfl (by rw [hml]; rfl) (Steps.refl _) (argsL := [(.ref sa206)]) (rest := []) (lenOf opd_25 rfl) rfl (by show 2 * 0 + _ ≤ _; exact Nat.le_of_eq rfl) (hb B.2 o448.1) (fun _ _ => ⟨rfl, e206, (by decide : 40 + 0 ≤ _), (by decide : 6668 + 0 ≤ _)⟩)
  dsimp only [Pt.U, Pt.locs, Pt.cells, Pt.slots] at Y l212 y212 z212 st212 hQ212
  subst l212 y212 z212
  obtain ⟨hR212, rfl, e212⟩ := hQ212
  have N212 := Fr.app N205 (Fr.nil n0)
  rcases hR212 with ⟨rfl, he212⟩ | ⟨rfl, he212⟩
  · refine Go.tr st212 ?_
    show Go p e below _ _ (mkF m 97 #[iv i0, iv i1, iv i2, iv 2, iv q0, iv q1, iv q2, rv x, rv mx_196, rv o_199, rv mx_199, un] [(.int 1)])
    refine zY Y B j21 (by decide) ?_
    refine zal Y B o449 rfl ?_
    have F214 := (P199_5.ext E206)
    have F215 := (P199_3.ext E206)
    have F216 := (P199_4.ext E206)
    obtain ⟨cq213, kq213, q213a, q213b, q213c⟩ := isOf hZ206 e212 F215
    obtain ⟨_, _, ⟨T213, L213, k213, n213⟩, -, Y, ⟨hv213, e213, l213, y213, z213⟩, st213⟩ := Y.virtualBackUp B.1 (x := mn40) (y := mn41) (owner := ss1) hown206 (mvT hZ206 (ow230 hw)) (mvT hZ206 (ow231 hw)) (mvT hZ206 (ow232 hw)) (by decide) (mvT hZ206 (ow234 hw)) (mvT hZ206 (ow233 hw)) (gcBackPure (rm := { frames := 0, cells := 0, slots := 0, locals := 0 }) (W := 0) hZ206 (ow235 hw) (ow233 hw) (ow174 hw) (ow177 hw) F216 F214 rfl (by decide) (by decide)) q213a q213c (g := (mkF m 104 #[iv i0, iv i1, iv i2, iv 2, iv q0, iv q1, iv q2, rv x, rv mx_196, rv o_199, rv mx_199, un] [(.ref o_199)])) rfl (by rw [hml]; rfl) (Steps.refl _) (argsL := []) (rest := []) (lenOf opd_26 rfl) rfl (by show 2 * 0 + _ ≤ _; exact Nat.le_of_eq rfl) (hb B.2 o450.1) (fun _ _ => ⟨rfl, e212, (by decide : 40 + 0 ≤ _), (by decide : 6668 + 0 ≤ _)⟩)
    dsimp only [Pt.U, Pt.locs, Pt.cells, Pt.slots] at Y e213 l213 y213 z213 st213
    subst l213 y213 z213
    rw [gcV, if_pos rfl] at hv213
    subst hv213
    refine Go.tr st213 ?_
    refine znY Y B j22 <| zal Y B o451 rfl ?_
    have F218 := (P199_7.ext E206)
    have F219 := (P199_8.ext E206)
    have F220 := (P199_9.ext E206)
    have F221 := (P199_10.ext E206)
    refine zcv Y B hZ206 hown206 (ow236 hw) (ow62 hw) (notFace_of_selects (args := #[]) (mvT hZ206 (ow64 hw))) (ow64 hw) (ow63 hw) (ow6 hw) (ow65 hw) (by decide) F218 (rm_slen l Z a0 hw [] mx_199 mt_199 mk_199 (((([] : List Int32) ++ T42) ++ ([q0, q1] : List Int32)) ++ T1) G1 h206 n0 (Nat.le_trans Z0 K207.1) F218 F219 F220 F221 O2 P5 O207) e213 hml opd_7 rfl o452 rfl rfl rfl rfl rfl fun _ T217 _ Y hQ => ?_
    obtain ⟨rfl, N217q, e217⟩ := hQ
    have N217 := Fr.app N212 N217q
    refine zbp Y B o453 (v := 43) rfl <| zilN Y B o454 rfl <| ziadd Y B o455 (v := 45) rfl ?_
    refine zCY Y B j23 (teq rfl).1 ?_
    refine zilN Y B o456 rfl ?_
    refine Go.f2 (Y.ldcInt B.1 hown206 (mvT hZ206 (ow237 hw)) rfl (hb B.2 o457.1)) ?_
    refine ziand Y B o458 rfl <| zbp Y B o459 (v := 42) rfl ?_
    refine Go.by (fun _ kq_ => iremM Y B.1 rfl (hb B.2 o460.1) rfl (by decide) kq_) ?_
    show Go p e below _ _ (mkF m 133 #[iv i0, iv i1, iv i2, iv 2, iv q0, iv q1, iv q2, rv x, rv mx_196, rv o_199, rv mx_199, un] [(.int ((i2 &&& (2147483647 : Int32)) % (42 : Int32)))])
    obtain ⟨N, HN, eN⟩ := rem_on i2 (M := 41) (by decide)
    have eN' : ((i2 &&& (2147483647 : Int32)) % (42 : Int32)) = Int32.ofNat N := eN
    rw [eN']
    show Go p e below _ _ (mkF m 133 #[iv i0, iv i1, iv i2, iv 2, iv q0, iv q1, iv q2, rv x, rv mx_196, rv o_199, rv mx_199, un] [(.int (Int32.ofNat N))])
    refine zis Y B o461 (s11 rfl) <| zal Y B o462 rfl <| zil Y B o463 rfl ?_
    refine zcv Y B hZ206 hown206 (ow238 hw) (ow239 hw) (notFace_of_selects (args := #[]) (mvT hZ206 (ow241 hw))) (ow241 hw) (ow240 hw) (ow6 hw) (ow242 hw) (by decide) F218 (rm_schar l Z a0 hw [] mx_199 mt_199 mk_199 (((([] : List Int32) ++ T42) ++ ([q0, q1] : List Int32)) ++ T1) N G1 G3 h206 n0 (Nat.le_trans Z0 K207.1) F218 F219 F220 F221 (loM) (by show N < 45; omega) (by show 45 < 2 ^ 31; decide) O2 P5 O207 O4 rG3) e217 hml opd_27 rfl o464 rfl rfl rfl rfl rfl fun _ T222 _ Y hQ => ?_
    obtain ⟨rfl, N222q, e222⟩ := hQ
    have N222 := Fr.app N217 N222q
    refine zal Y B o465 rfl <| zil Y B o466 rfl ?_
    refine zcv Y B hZ206 hown206 (ow238 hw) (ow239 hw) (notFace_of_selects (args := #[]) (mvT hZ206 (ow241 hw))) (ow241 hw) (ow240 hw) (ow6 hw) (ow242 hw) (by decide) F208 (rm_schar l Z a0 hw [] mx_196 mt_196 mk_196 (((([] : List Int32) ++ T42) ++ ([] : List Int32)) ++ T1) N G1 G3 h206 n0 (Nat.le_trans Z0 K207.1) F208 F210 F209 F211 (loE) (by show N < 43; omega) (by decide) O2 P5 O207 O4 rG3) e222 hml opd_27 rfl o467 rfl rfl rfl rfl rfl fun _ T223 _ Y hQ => ?_
    obtain ⟨rfl, N223q, e223⟩ := hQ
    have N223 := Fr.app N222 N223q
    refine zCY Y B j24 (teq (show ((((([] : List Int32) ++ T42) ++ ([q0, q1] : List Int32)) ++ T1).getD N 0) = ((((([] : List Int32) ++ T42) ++ ([] : List Int32)) ++ T1).getD N 0) from ((pre_getD (show N < 42 by omega)).trans (pre_getD (show N < 42 by omega)).symm))).1 ?_
    refine zilN Y B o468 rfl <| zN Y B o482 (by decide) ?_
    refine zal Y B o483 rfl <| zbp Y B o484 (v := 42) rfl ?_
    refine zcv Y B hZ206 hown206 (ow238 hw) (ow239 hw) (notFace_of_selects (args := #[]) (mvT hZ206 (ow241 hw))) (ow241 hw) (ow240 hw) (ow6 hw) (ow242 hw) (by decide) F218 (rm_schar l Z a0 hw [] mx_199 mt_199 mk_199 (((([] : List Int32) ++ T42) ++ ([q0, q1] : List Int32)) ++ T1) 42 G1 G3 h206 n0 (Nat.le_trans Z0 K207.1) F218 F219 F220 F221 (loM) (by show 42 < 45; decide) (by show 45 < 2 ^ 31; decide) O2 P5 O207 O4 rG3) e223 hml opd_27 rfl o485 rfl rfl rfl rfl rfl fun _ T224 _ Y hQ => ?_
    obtain ⟨rfl, N224q, e224⟩ := hQ
    have N224 := Fr.app N223 N224q
    refine zil Y B o486 rfl ?_
    refine zCY Y B j29 (teq rfl).1 ?_
    refine zilN Y B o469 rfl <| zc1 Y B o470 <| zCN Y B o487 (by decide) ?_
    refine zal Y B o488 rfl <| zbp Y B o489 (v := 43) rfl ?_
    refine zcv Y B hZ206 hown206 (ow238 hw) (ow239 hw) (notFace_of_selects (args := #[]) (mvT hZ206 (ow241 hw))) (ow241 hw) (ow240 hw) (ow6 hw) (ow242 hw) (by decide) F218 (rm_schar l Z a0 hw [] mx_199 mt_199 mk_199 (((([] : List Int32) ++ T42) ++ ([q0, q1] : List Int32)) ++ T1) 43 G1 G3 h206 n0 (Nat.le_trans Z0 K207.1) F218 F219 F220 F221 (loM) (by show 43 < 45; decide) (by show 45 < 2 ^ 31; decide) O2 P5 O207 O4 rG3) e224 hml opd_27 rfl o490 rfl rfl rfl rfl rfl fun _ T225 _ Y hQ => ?_
    obtain ⟨rfl, N225q, e225⟩ := hQ
    have N225 := Fr.app N224 N225q
    refine zil Y B o491 rfl ?_
    refine zCY Y B j30 (teq rfl).1 ?_
    refine zilN Y B o471 rfl <| zc2 Y B o472 <| zCY Y B j27 (by decide) ?_
    refine zal Y B o473 rfl <| zbp Y B o474 (v := 42) rfl <| zilN Y B o475 rfl <| ziadd Y B o476 (v := 44) rfl ?_
    refine zcv Y B hZ206 hown206 (ow238 hw) (ow239 hw) (notFace_of_selects (args := #[]) (mvT hZ206 (ow241 hw))) (ow241 hw) (ow240 hw) (ow6 hw) (ow242 hw) (by decide) F218 (rm_schar l Z a0 hw [] mx_199 mt_199 mk_199 (((([] : List Int32) ++ T42) ++ ([q0, q1] : List Int32)) ++ T1) 44 G1 G3 h206 n0 (Nat.le_trans Z0 K207.1) F218 F219 F220 F221 (loM) (by show 44 < 45; decide) (by show 45 < 2 ^ 31; decide) O2 P5 O207 O4 rG3) e225 hml opd_27 rfl o477 rfl rfl rfl rfl rfl fun _ T226 _ Y hQ => ?_
    obtain ⟨rfl, N226q, e226⟩ := hQ
    have N226 := Fr.app N225 N226q
    refine zbp Y B o478 (v := 39) rfl ?_
    refine zCN Y B o479 (teq rfl).2 ?_
    refine zc1 Y B o480 <| zgo Y B j28 ?_
    exact Go.retNW Y B.1 (t := .boolean) hret (by simp) hlk (hb B.2 o481.1) hS206 (by rw [e226]; exact (Nat.le_trans hk206 (Nat.le_refl _))) hZ206 (hEW hw) (by rw [e226]; exact CR207) (by first | (rw [e226]; exact ⟨rfl, N226, K207⟩) | exact ⟨rfl, N226, K207⟩) (by decide) (by decide)
  · refine Go.tr st212 ?_
    show Go p e below _ _ (mkF m 97 #[iv i0, iv i1, iv i2, iv 2, iv q0, iv q1, iv q2, rv x, rv mx_196, rv o_199, rv mx_199, un] [(.int 0)])
    exact absurd (rfl : (((([] : List Int32) ++ T42) ++ ([] : List Int32)) ++ T1) = T43) he212
theorem pc_law_P46_3 {l Z a0 i0 i1 i2 uv sv G1 G3 h0 n0 p e s m below meth c} (cx : Q_cx_law l Z a0 i0 i1 i2 uv sv G1 G3 h0 n0 p e s m below meth c) :
    ∀ (T227 : State) (LL227 : List Loc) (hP227 : Heap) (vm227 : Vm) (kk227 : Nat) (q0 : Int32) (q1 : Int32) (q2 : Int32) (x : Addr) (t : Addr) (kt : ClassId), Stand p l e room_1 (s.setVm vm227) m #[(.int i0), (.int i1), (.int i2)] below meth c T227 LL227 8 40 → T227.heap = hP227 → Fr n0 LL227 → Keep h0 hP227 [] → Old Z n0 hP227 → s.Since vm227 kk227 → kk227 ≤ hP227.size → Z.Warmed39 (s.setVm vm227).vm → (s.setVm vm227).vm.findClass ss14 = some m.cls → CHr Z EL s.vm h0 vm227 hP227 → (Exa Z hP227 x ss0) → (Fld Z hP227 x ss0 ss3 "B" (.int 0)) → (Fld Z hP227 x ss0 ss4 "[B" (.ref t)) → (Arv Z hP227 t kt .byte (Int32.ofNat ([q0, q1, q2] : List Int32).length) (B8 ([q0, q1, q2] : List Int32)) (.int 0)) → (¬ q0 < 0 ∧ ¬ (255 : Int32) < q0) → (¬ q1 < 0 ∧ ¬ (255 : Int32) < q1) → (¬ q2 < 0 ∧ ¬ (255 : Int32) < q2) → Go p e below (OutW Z EL s (Q_law Z  h0 n0) room_1.cells room_1.slots) T227 (mkF m 46 #[iv i0, iv i1, iv i2, iv 3, iv q0, iv q1, iv q2, rv x, un, un, un, un] []) := by
  obtain ⟨hw, Z0, hl, SU, hu, SS, hv, O2, P5, X00, O4, rG3, hZ, hh, hCH, hTK, hBelow, B, hml, hret, hlk, hown, hnm⟩ := id cx
  have hZ0 := hZ
  have CR0 : CHr Z EL s.vm s.heap s.vm h0 := by rw [hh]; exact CHr.refl hCH
  intro T227 LL227 hP227 vm227 kk227 q0 q1 q2 x t kt Y e227 N227 KP227 OP227 hS227 hk227 hZ227 hown227 RP227 S0 S1 S2 S3 LQ0 LQ1 LQ2
  have CRP227 := CR0.trans RP227
  refine zno Y B hZ227 hown227 (ow4 hw) (ow5 hw) (ow6 hw) e227 o429 rfl rfl fun T228 h228 b228 g228 Y e228 E228 A228 D228 U228 => ?_
  have R229 := CHr.ext E228 CRP227.1
  have CR229 := CRP227.trans R229
  have K229 := KP227.ext E228
  have O229 := OP227.ext E228
  have Sf230 : Safe Z EL vm227 h228 b228 := Safe.ext E228 CRP227.1 (Safe.new (Nat.le_of_eq g228.symm))
  refine zdup Y B o430 rfl <| zc0 Y B o431 ?_
  refine znp Y B hZ227 (aty := .char) (ow7 hw) e228 o432 (by decide) (cap := 0) (by decide) rfl rfl rfl fun T231 h231 k231 b231 g231 Y e231 E231 A231 => ?_
  have R232 := CHr.ext E231 CR229.1
  have CR232 := CR229.trans R232
  have K232 := K229.ext E231
  have O232 := O229.ext E231
  have Sf233 : Safe Z EL vm227 h231 b231 := Safe.ext E231 CR229.1 (Safe.new (Nat.le_of_eq g231.symm))
  have V231 : Arv Z h231 b231 k231 .char (0 : Int32) [] (.int 0) := (Arv.new A231 (by decide)).pad (pad_rep [] (.int 0) 0)
  have F235 := (A228.ext E231)
  have F236 := ((D228 (Or.inr (ow20 hw)) (ty := (.array .byte)) (by decide)).ext E231)
  have F237 := ((D228 (Or.inr (ow21 hw)) (ty := .byte) (by decide)).ext E231)
  obtain ⟨_, _, ⟨T234, L234, k234, n234⟩, -, XX234, hSn234, hgn234, ⟨Lc234, hQ234, l234, y234, z234, RQ234⟩, st234⟩ := Y.specialBackS B.1 (y := mn36) rfl hown227 (mvT hZ227 (ow8 hw)) (mvT hZ227 (ow9 hw)) (mvT hZ227 (ow10 hw)) (by decide) (backOfSH (W := 1) (rm_ic0 l Z a0 hw [] b228 b231 k231 h231 n0 (Nat.le_trans Z0 K232.1) F235 ((Nat.le_trans (Nat.le_trans Z0 KP227.1) (Nat.le_of_eq g228.symm))) F236 F237 V231) hZ227 (ow10 hw) (ow6 hw) (by decide) (by decide) (hEW hw) CR232.1) (g := (mkF m 53 #[iv i0, iv i1, iv i2, iv 3, iv q0, iv q1, iv q2, rv x, un, un, un, un] [(.ref b231), (.ref b228), (.ref b228)])) rfl (by rw [hml]; rfl) (Steps.refl _) (a := b228) (argsL := [(.ref b231)]) (rest := [(.ref b228)]) (lenOf opd_23 rfl) rfl (by show 2 * 0 + _ ≤ _; exact Nat.le_of_eq rfl) (hb B.2 o433.1) (fun _ _ => ⟨rfl, e231, (by decide : 10 + 4 ≤ _), (by decide : 44 + 8 ≤ _)⟩)
  dsimp only [Pt.U, Pt.locs, Pt.cells, Pt.slots] at XX234 hSn234 hgn234 l234 y234 z234 st234 hQ234 RQ234
  subst l234 y234 z234
  obtain ⟨Y, hS234, hZ234, hown234⟩ := rebS hS227 (by rw [e231]; exact (Nat.le_trans hk227 (Nat.le_trans E228.1 E231.1))) XX234 hSn234 hgn234 hZ227 hown227
  obtain ⟨t_234, kb_234, rfl, N234q, K234q, P234_0, P234_1, P234_2, P234_3⟩ := hQ234
  have N234 := Fr.app N227 N234q
  refine Go.tr st234 ?_
  have CR238 := CR232.trans RQ234
  have K238 := K232.trans K234q (allS (Or.inr (Nat.le_trans KP227.1 (Nat.le_of_eq g228.symm))) all0)
  have O238 := O232.keep K234q (allS (Nat.le_trans (Nat.le_trans Z0 KP227.1) (Nat.le_of_eq g228.symm)) all0)
  obtain ⟨_, _, ⟨T239, L239, k239, n239⟩, -, XX239, hSn239, hgn239, ⟨Lc239, hQ239, l239, y239, z239, RQ239⟩, st239⟩ := Jvm.RoadKit.callSS Y B.1 (y := mn34) hown234 (mvT hZ234 (ow26 hw)) (mvT hZ234 (ow27 hw)) (mvT hZ234 (ow28 hw)) (mvT hZ234 (ow29 hw)) (by decide) (backOfSKH (W := 0) (rm_nt0 l Z a0 hw [] b228 t_234 kb_234 ([] : List Int32) uv sv G1 T234.heap n0 (Nat.le_trans Z0 K238.1) P234_0 P234_1 P234_2 P234_3 (rfl) hl SU hu SS hv O2 P5 O238) hZ234 (ow29 hw) (ow28 hw) (by decide) (by decide) (hEW hw) CR238.1 (Vm.MethodsKnown.alikeC (hZ0.alike.symm.trans hZ234.alike) hTK) (Vm.FramesKnown.alikeC (hZ0.alike.symm.trans hZ234.alike) hBelow)) (g := (mkF m 56 #[iv i0, iv i1, iv i2, iv 3, iv q0, iv q1, iv q2, rv x, un, un, un, un] [(.ref b228)])) rfl (by rw [hml]; rfl) (argsL := [(.ref b228)]) (rest := []) (lenOf opd_24 rfl) rfl (by show 2 * 0 + _ ≤ _; exact Nat.le_of_eq rfl) (hb B.2 o434.1) (fun _ _ => ⟨rfl, rfl, (by decide : 14 + 12 ≤ _), (by decide : 52 + 3220 ≤ _)⟩)
  dsimp only [Pt.U, Pt.locs, Pt.cells, Pt.slots] at XX239 hSn239 hgn239 l239 y239 z239 st239 hQ239 RQ239
  subst l239 y239 z239
  obtain ⟨Y, hS239, hZ239, hown239⟩ := rebS hS234 (Nat.le_trans (Nat.le_refl _) (Nat.le_refl _)) XX239 hSn239 hgn239 hZ234 hown234
  obtain ⟨o_239, mx_239, mt_239, mk_239, rfl, N239q, K239q, P239_0, P239_1, P239_2, P239_3, P239_4, P239_5, P239_6, P239_7, P239_8, P239_9, P239_10⟩ := hQ239
  have N239 := Fr.app N234 N239q
  refine Go.tr st239 ?_
  have CR240 := CR238.trans RQ239
  have K240 := K238.trans K239q all0
  have O240 := O238.keep K239q all0
  obtain ⟨cq241, kq241, q241a, q241b, q241c⟩ := isOf hZ239 rfl P239_3
  obtain ⟨_, _, ⟨T241, L241, k241, n241⟩, -, Y, ⟨Lc241, hQ241, l241, y241, z241⟩, st241⟩ := Y.virtualBackUp B.1 (x := mn38) (y := mn30) (owner := ss1) hown239 (mvT hZ239 (ow213 hw)) (mvT hZ239 (ow214 hw)) (mvT hZ239 (ow215 hw)) (by decide) (mvT hZ239 (ow217 hw)) (mvT hZ239 (ow216 hw)) (backOf (W := 0) (rm_getmsg l Z a0 hw [] o_239 mx_239 T239.heap n0 (Nat.le_trans Z0 K240.1) P239_6) hZ239 (ow218 hw) (ow174 hw) (by decide) (by decide)) q241a q241c (g := (mkF m 59 #[iv i0, iv i1, iv i2, iv 3, iv q0, iv q1, iv q2, rv x, un, un, un, un] [(.ref o_239)])) rfl (by rw [hml]; rfl) (Steps.refl _) (argsL := []) (rest := []) (lenOf opd_21 rfl) rfl (by show 2 * 0 + _ ≤ _; exact Nat.le_of_eq rfl) (hb B.2 o435.1) (fun _ _ => ⟨rfl, rfl, (by decide : 26 + 0 ≤ _), (by decide : 3272 + 0 ≤ _)⟩)
  dsimp only [Pt.U, Pt.locs, Pt.cells, Pt.slots] at Y l241 y241 z241 st241 hQ241
  subst l241 y241 z241
  obtain ⟨rfl, N241q, e241⟩ := hQ241
  have N241 := Fr.app N239 N241q
  refine Go.tr st241 ?_
  refine zas Y B o436 (s8 rfl) rfl <| zal Y B o437 rfl ?_
  have F243 := ((((S0.ext E228).ext E231).keep K234q).keep K239q)
  have F244 := ((((S1.ext E228).ext E231).keep K234q (ninS (Nat.ne_of_lt (Nat.lt_of_lt_of_le S0.lt (Nat.le_of_eq g228.symm))) nin0)).keep K239q nin0)
  have F245 := ((((S2.ext E228).ext E231).keep K234q (ninS (Nat.ne_of_lt (Nat.lt_of_lt_of_le S0.lt (Nat.le_of_eq g228.symm))) nin0)).keep K239q nin0)
  have F246 := ((((S3.ext E228).ext E231).keep K234q (ninS (Nat.ne_of_lt (Nat.lt_of_lt_of_le S3.lt (Nat.le_of_eq g228.symm))) nin0)).keep K239q nin0)
  obtain ⟨_, _, ⟨T242, L242, k242, n242⟩, -, XX242, hSn242, hgn242, ⟨Lc242, hQ242, l242, y242, z242, RQ242⟩, st242⟩ := Jvm.RoadKit.callSS Y B.1 (y := mn34) hown239 (mvT hZ239 (ow26 hw)) (mvT hZ239 (ow27 hw)) (mvT hZ239 (ow28 hw)) (mvT hZ239 (ow29 hw)) (by decide) (backOfSKH (W := 0) (rm_nt1 l Z a0 hw [] x t kt ([q0, q1, q2] : List Int32) uv sv G1 T239.heap n0 (Nat.le_trans Z0 K240.1) F243 F244 F245 F246 (by simp) hl SU hu SS hv O2 P5 O240) hZ239 (ow29 hw) (ow28 hw) (by decide) (by decide) (hEW hw) CR240.1 (Vm.MethodsKnown.alikeC (hZ0.alike.symm.trans hZ239.alike) hTK) (Vm.FramesKnown.alikeC (hZ0.alike.symm.trans hZ239.alike) hBelow)) (g := (mkF m 66 #[iv i0, iv i1, iv i2, iv 3, iv q0, iv q1, iv q2, rv x, rv mx_239, un, un, un] [(.ref x)])) rfl (by rw [hml]; rfl) (argsL := [(.ref x)]) (rest := []) (lenOf opd_24 rfl) rfl (by show 2 * 0 + _ ≤ _; exact Nat.le_of_eq rfl) (hb B.2 o438.1) (fun _ _ => ⟨rfl, e241, (by decide : 26 + 12 ≤ _), (by decide : 3272 + 3220 ≤ _)⟩)
  dsimp only [Pt.U, Pt.locs, Pt.cells, Pt.slots] at XX242 hSn242 hgn242 l242 y242 z242 st242 hQ242 RQ242
  subst l242 y242 z242
  obtain ⟨Y, hS242, hZ242, hown242⟩ := rebS hS239 (by rw [e241]; exact (Nat.le_trans (Nat.le_refl _) (Nat.le_refl _))) XX242 hSn242 hgn242 hZ239 hown239
  obtain ⟨o_242, mx_242, mt_242, mk_242, rfl, N242q, K242q, P242_0, P242_1, P242_2, P242_3, P242_4, P242_5, P242_6, P242_7, P242_8, P242_9, P242_10⟩ := hQ242
  have N242 := Fr.app N241 N242q
  refine Go.tr st242 ?_
  have CR247 := CR240.trans RQ242
  have K247 := K240.trans K242q all0
  have O247 := O240.keep K242q all0
  refine zas Y B o439 (s9 rfl) rfl <| zal Y B o440 rfl ?_
  obtain ⟨cq248, kq248, q248a, q248b, q248c⟩ := isOf hZ242 rfl P242_3
  obtain ⟨_, _, ⟨T248, L248, k248, n248⟩, -, Y, ⟨Lc248, hQ248, l248, y248, z248⟩, st248⟩ := Y.virtualBackUp B.1 (x := mn38) (y := mn30) (owner := ss1) hown242 (mvT hZ242 (ow213 hw)) (mvT hZ242 (ow214 hw)) (mvT hZ242 (ow215 hw)) (by decide) (mvT hZ242 (ow217 hw)) (mvT hZ242 (ow216 hw)) (backOf (W := 0) (rm_getmsg l Z a0 hw [] o_242 mx_242 T242.heap n0 (Nat.le_trans Z0 K247.1) P242_6) hZ242 (ow218 hw) (ow174 hw) (by decide) (by decide)) q248a q248c (g := (mkF m 73 #[iv i0, iv i1, iv i2, iv 3, iv q0, iv q1, iv q2, rv x, rv mx_239, rv o_242, un, un] [(.ref o_242)])) rfl (by rw [hml]; rfl) (Steps.refl _) (argsL := []) (rest := []) (lenOf opd_21 rfl) rfl (by show 2 * 0 + _ ≤ _; exact Nat.le_of_eq rfl) (hb B.2 o441.1) (fun _ _ => ⟨rfl, rfl, (by decide : 38 + 0 ≤ _), (by decide : 6492 + 0 ≤ _)⟩)
  dsimp only [Pt.U, Pt.locs, Pt.cells, Pt.slots] at Y l248 y248 z248 st248 hQ248
  subst l248 y248 z248
  obtain ⟨rfl, N248q, e248⟩ := hQ248
  have N248 := Fr.app N242 N248q
  refine Go.tr st248 ?_
  refine zas Y B o442 (s10 rfl) rfl <| zal Y B o443 rfl <| znN Y B o444 <| zal Y B o445 rfl <| znnY Y B j20 <| zal Y B o446 rfl ?_
  have loE : Lo (((([] : List Int32) ++ T42) ++ ([] : List Int32)) ++ T1) := Lo_app (Lo_app (Lo_app (by decide) t42_lo) (by decide)) t1_lo
  have loD : Lo ([q0, q1, q2] : List Int32) := by
    intro c hc; simp only [List.mem_cons, List.not_mem_nil, or_false] at hc; rcases hc with rfl | rfl | rfl
    · exact LQ0
    · exact LQ1
    · exact LQ2
  have loM : Lo (((([] : List Int32) ++ T42) ++ ([q0, q1, q2] : List Int32)) ++ T1) := Lo_app (Lo_app (Lo_app (by decide) t42_lo) loD) t1_lo
  obtain ⟨sa249, T249, h249, k249, sb249, kb249, Y, e249, E249, hS249, hk249, hZ249, hown249, PE249, PC249, PV249, PA249, la249, lb249, R249, LT249, SF249, st249⟩ := ldcCH Y B.1 hZ242 hown242 (ow219 hw) (ostr hw) e248 hS242 (Nat.le_trans (Nat.le_refl _) (Nat.le_refl _)) (hEW hw) (List.mem_of_getElem? (i := 2) rfl) CR247.1 (vs := ((([116, 104, 101, 32, 115, 116, 111, 114, 101, 32, 97, 108, 114, 101, 97, 100, 121, 32, 104, 111, 108, 100, 115, 32, 97, 32, 100, 111, 99, 117, 109, 101, 110, 116, 32, 110, 97, 109, 101, 100, 32, 39, 39] : List Int32).map (fun c => c.toInt8.toInt32)).map Value.int)) (z := (43 : Int32)) (by decide +kernel) (by decide) (by decide) (g := (mkF m 92 #[iv i0, iv i1, iv i2, iv 3, iv q0, iv q1, iv q2, rv x, rv mx_239, rv o_242, rv mx_242, un] [(.ref mx_239)])) rfl (hb B.2 o447.1) (n := 172) (by decide) (by decide) (by decide) (by decide)
  refine Go.by st249 ?_
  have CR250 := CR247.trans R249
  have K250 := K247.ext E249
  have O250 := O247.ext E249
  show Go p e below _ _ (mkF m 94 #[iv i0, iv i1, iv i2, iv 3, iv q0, iv q1, iv q2, rv x, rv mx_239, rv o_242, rv mx_242, un] [(.ref sa249), (.ref mx_239)])
  have F251 := ((P239_7.keep K242q).ext E249)
  have F252 := ((P239_9.keep K242q nin0).ext E249)
  have F253 := ((P239_8.keep K242q nin0).ext E249)
  have F254 := ((P239_10.keep K242q nin0).ext E249)
  obtain ⟨cq255, kq255, q255a, q255b, q255c⟩ := isOf hZ249 e249 F251
  obtain ⟨_, _, ⟨T255, L255, k255, n255⟩, -, Y, ⟨Lc255, hQ255, l255, y255, z255⟩, st255⟩ := Y.virtualBack B.1 (y := mn39) (z := mn39) hown249 (mvT hZ249 (ow220 hw)) (mvT hZ249 (ow221 hw)) (notFace_of_selects (args := #[]) (mvT hZ249 (ow223 hw))) (mvT hZ249 (ow223 hw)) (mvT hZ249 (ow222 hw)) (by decide) (StrChars.Road.eqW (W := 0) hZ249 (hw_eq hw) (kI := 4) (ow5 hw) F251 F252 F253 F254 (cod8 (n := 43) rfl loE) (up255 loE) (by decide) PE249 PV249 PC249 PA249 (cod8 (n := 43) rfl t43_lo) (up255 t43_lo) (by decide) (O2.ext O250.2) P5 (by decide) (by decide)) q255a q255c (g := (mkF m 94 #[iv i0, iv i1, iv i2, iv 3, iv q0, iv q1, iv q2, rv x, rv mx_239, rv o_242, rv mx_242, un] [(.ref sa249), (.ref mx_239)])) rfl (by rw [hml]; rfl) (Steps.refl _) (argsL := [(.ref sa249)]) (rest := []) (lenOf opd_25 rfl) rfl (by show 2 * 0 + _ ≤ _; exact Nat.le_of_eq rfl) (hb B.2 o448.1) (fun _ _ => ⟨rfl, e249, (by decide : 40 + 0 ≤ _), (by decide : 6668 + 0 ≤ _)⟩)
  dsimp only [Pt.U, Pt.locs, Pt.cells, Pt.slots] at Y l255 y255 z255 st255 hQ255
  subst l255 y255 z255
  obtain ⟨hR255, rfl, e255⟩ := hQ255
  have N255 := Fr.app N248 (Fr.nil n0)
  rcases hR255 with ⟨rfl, he255⟩ | ⟨rfl, he255⟩
  · refine Go.tr st255 ?_
    show Go p e below _ _ (mkF m 97 #[iv i0, iv i1, iv i2, iv 3, iv q0, iv q1, iv q2, rv x, rv mx_239, rv o_242, rv mx_242, un] [(.int 1)])
    refine zY Y B j21 (by decide) ?_
    refine zal Y B o449 rfl ?_
    have F257 := (P242_5.ext E249)
    have F258 := (P242_3.ext E249)
    have F259 := (P242_4.ext E249)
    obtain ⟨cq256, kq256, q256a, q256b, q256c⟩ := isOf hZ249 e255 F258
    obtain ⟨_, _, ⟨T256, L256, k256, n256⟩, -, Y, ⟨hv256, e256, l256, y256, z256⟩, st256⟩ := Y.virtualBackUp B.1 (x := mn40) (y := mn41) (owner := ss1) hown249 (mvT hZ249 (ow230 hw)) (mvT hZ249 (ow231 hw)) (mvT hZ249 (ow232 hw)) (by decide) (mvT hZ249 (ow234 hw)) (mvT hZ249 (ow233 hw)) (gcBackPure (rm := { frames := 0, cells := 0, slots := 0, locals := 0 }) (W := 0) hZ249 (ow235 hw) (ow233 hw) (ow174 hw) (ow177 hw) F259 F257 rfl (by decide) (by decide)) q256a q256c (g := (mkF m 104 #[iv i0, iv i1, iv i2, iv 3, iv q0, iv q1, iv q2, rv x, rv mx_239, rv o_242, rv mx_242, un] [(.ref o_242)])) rfl (by rw [hml]; rfl) (Steps.refl _) (argsL := []) (rest := []) (lenOf opd_26 rfl) rfl (by show 2 * 0 + _ ≤ _; exact Nat.le_of_eq rfl) (hb B.2 o450.1) (fun _ _ => ⟨rfl, e255, (by decide : 40 + 0 ≤ _), (by decide : 6668 + 0 ≤ _)⟩)
    dsimp only [Pt.U, Pt.locs, Pt.cells, Pt.slots] at Y e256 l256 y256 z256 st256
    subst l256 y256 z256
    rw [gcV, if_pos rfl] at hv256
    subst hv256
    refine Go.tr st256 ?_
    refine znY Y B j22 <| zal Y B o451 rfl ?_
    have F261 := (P242_7.ext E249)
    have F262 := (P242_8.ext E249)
    have F263 := (P242_9.ext E249)
    have F264 := (P242_10.ext E249)
    refine zcv Y B hZ249 hown249 (ow236 hw) (ow62 hw) (notFace_of_selects (args := #[]) (mvT hZ249 (ow64 hw))) (ow64 hw) (ow63 hw) (ow6 hw) (ow65 hw) (by decide) F261 (rm_slen l Z a0 hw [] mx_242 mt_242 mk_242 (((([] : List Int32) ++ T42) ++ ([q0, q1, q2] : List Int32)) ++ T1) G1 h249 n0 (Nat.le_trans Z0 K250.1) F261 F262 F263 F264 O2 P5 O250) e256 hml opd_7 rfl o452 rfl rfl rfl rfl rfl fun _ T260 _ Y hQ => ?_
    obtain ⟨rfl, N260q, e260⟩ := hQ
    have N260 := Fr.app N255 N260q
    refine zbp Y B o453 (v := 43) rfl <| zilN Y B o454 rfl <| ziadd Y B o455 (v := 46) rfl ?_
    refine zCY Y B j23 (teq rfl).1 ?_
    refine zilN Y B o456 rfl ?_
    refine Go.f2 (Y.ldcInt B.1 hown249 (mvT hZ249 (ow237 hw)) rfl (hb B.2 o457.1)) ?_
    refine ziand Y B o458 rfl <| zbp Y B o459 (v := 42) rfl ?_
    refine Go.by (fun _ kq_ => iremM Y B.1 rfl (hb B.2 o460.1) rfl (by decide) kq_) ?_
    show Go p e below _ _ (mkF m 133 #[iv i0, iv i1, iv i2, iv 3, iv q0, iv q1, iv q2, rv x, rv mx_239, rv o_242, rv mx_242, un] [(.int ((i2 &&& (2147483647 : Int32)) % (42 : Int32)))])
    obtain ⟨N, HN, eN⟩ := rem_on i2 (M := 41) (by decide)
    have eN' : ((i2 &&& (2147483647 : Int32)) % (42 : Int32)) = Int32.ofNat N := eN
    rw [eN']
    show Go p e below _ _ (mkF m 133 #[iv i0, iv i1, iv i2, iv 3, iv q0, iv q1, iv q2, rv x, rv mx_239, rv o_242, rv mx_242, un] [(.int (Int32.ofNat N))])
    refine zis Y B o461 (s11 rfl) <| zal Y B o462 rfl <| zil Y B o463 rfl ?_
    refine zcv Y B hZ249 hown249 (ow238 hw) (ow239 hw) (notFace_of_selects (args := #[]) (mvT hZ249 (ow241 hw))) (ow241 hw) (ow240 hw) (ow6 hw) (ow242 hw) (by decide) F261 (rm_schar l Z a0 hw [] mx_242 mt_242 mk_242 (((([] : List Int32) ++ T42) ++ ([q0, q1, q2] : List Int32)) ++ T1) N G1 G3 h249 n0 (Nat.le_trans Z0 K250.1) F261 F262 F263 F264 (loM) (by show N < 46; omega) (by show 46 < 2 ^ 31; decide) O2 P5 O250 O4 rG3) e260 hml opd_27 rfl o464 rfl rfl rfl rfl rfl fun _ T265 _ Y hQ => ?_
    obtain ⟨rfl, N265q, e265⟩ := hQ
    have N265 := Fr.app N260 N265q
    refine zal Y B o465 rfl <| zil Y B o466 rfl ?_
    refine zcv Y B hZ249 hown249 (ow238 hw) (ow239 hw) (notFace_of_selects (args := #[]) (mvT hZ249 (ow241 hw))) (ow241 hw) (ow240 hw) (ow6 hw) (ow242 hw) (by decide) F251 (rm_schar l Z a0 hw [] mx_239 mt_239 mk_239 (((([] : List Int32) ++ T42) ++ ([] : List Int32)) ++ T1) N G1 G3 h249 n0 (Nat.le_trans Z0 K250.1) F251 F253 F252 F254 (loE) (by show N < 43; omega) (by decide) O2 P5 O250 O4 rG3) e265 hml opd_27 rfl o467 rfl rfl rfl rfl rfl fun _ T266 _ Y hQ => ?_
    obtain ⟨rfl, N266q, e266⟩ := hQ
    have N266 := Fr.app N265 N266q
    refine zCY Y B j24 (teq (show ((((([] : List Int32) ++ T42) ++ ([q0, q1, q2] : List Int32)) ++ T1).getD N 0) = ((((([] : List Int32) ++ T42) ++ ([] : List Int32)) ++ T1).getD N 0) from ((pre_getD (show N < 42 by omega)).trans (pre_getD (show N < 42 by omega)).symm))).1 ?_
    refine zilN Y B o468 rfl <| zN Y B o482 (by decide) ?_
    refine zal Y B o483 rfl <| zbp Y B o484 (v := 42) rfl ?_
    refine zcv Y B hZ249 hown249 (ow238 hw) (ow239 hw) (notFace_of_selects (args := #[]) (mvT hZ249 (ow241 hw))) (ow241 hw) (ow240 hw) (ow6 hw) (ow242 hw) (by decide) F261 (rm_schar l Z a0 hw [] mx_242 mt_242 mk_242 (((([] : List Int32) ++ T42) ++ ([q0, q1, q2] : List Int32)) ++ T1) 42 G1 G3 h249 n0 (Nat.le_trans Z0 K250.1) F261 F262 F263 F264 (loM) (by show 42 < 46; decide) (by show 46 < 2 ^ 31; decide) O2 P5 O250 O4 rG3) e266 hml opd_27 rfl o485 rfl rfl rfl rfl rfl fun _ T267 _ Y hQ => ?_
    obtain ⟨rfl, N267q, e267⟩ := hQ
    have N267 := Fr.app N266 N267q
    refine zil Y B o486 rfl ?_
    refine zCY Y B j29 (teq rfl).1 ?_
    refine zilN Y B o469 rfl <| zc1 Y B o470 <| zCN Y B o487 (by decide) ?_
    refine zal Y B o488 rfl <| zbp Y B o489 (v := 43) rfl ?_
    refine zcv Y B hZ249 hown249 (ow238 hw) (ow239 hw) (notFace_of_selects (args := #[]) (mvT hZ249 (ow241 hw))) (ow241 hw) (ow240 hw) (ow6 hw) (ow242 hw) (by decide) F261 (rm_schar l Z a0 hw [] mx_242 mt_242 mk_242 (((([] : List Int32) ++ T42) ++ ([q0, q1, q2] : List Int32)) ++ T1) 43 G1 G3 h249 n0 (Nat.le_trans Z0 K250.1) F261 F262 F263 F264 (loM) (by show 43 < 46; decide) (by show 46 < 2 ^ 31; decide) O2 P5 O250 O4 rG3) e267 hml opd_27 rfl o490 rfl rfl rfl rfl rfl fun _ T268 _ Y hQ => ?_
    obtain ⟨rfl, N268q, e268⟩ := hQ
    have N268 := Fr.app N267 N268q
    refine zil Y B o491 rfl ?_
    refine zCY Y B j30 (teq rfl).1 ?_
    refine zilN Y B o471 rfl <| zc2 Y B o472 <| zCN Y B o492 (by decide) ?_
    refine zal Y B o493 rfl <| zbp Y B o494 (v := 44) rfl ?_
    refine zcv Y B hZ249 hown249 (ow238 hw) (ow239 hw) (notFace_of_selects (args := #[]) (mvT hZ249 (ow241 hw))) (ow241 hw) (ow240 hw) (ow6 hw) (ow242 hw) (by decide) F261 (rm_schar l Z a0 hw [] mx_242 mt_242 mk_242 (((([] : List Int32) ++ T42) ++ ([q0, q1, q2] : List Int32)) ++ T1) 44 G1 G3 h249 n0 (Nat.le_trans Z0 K250.1) F261 F262 F263 F264 (loM) (by show 44 < 46; decide) (by show 46 < 2 ^ 31; decide) O2 P5 O250 O4 rG3) e268 hml opd_27 rfl o495 rfl rfl rfl rfl rfl fun _ T269 _ Y hQ => ?_
    obtain ⟨rfl, N269q, e269⟩ := hQ
    have N269 := Fr.app N268 N269q
    refine zil Y B o496 rfl ?_
    refine zCY Y B j31 (teq rfl).1 ?_
    refine zal Y B o473 rfl <| zbp Y B o474 (v := 42) rfl <| zilN Y B o475 rfl <| ziadd Y B o476 (v := 45) rfl ?_
    refine zcv Y B hZ249 hown249 (ow238 hw) (ow239 hw) (notFace_of_selects (args := #[]) (mvT hZ249 (ow241 hw))) (ow241 hw) (ow240 hw) (ow6 hw) (ow242 hw) (by decide) F261 (rm_schar l Z a0 hw [] mx_242 mt_242 mk_242 (((([] : List Int32) ++ T42) ++ ([q0, q1, q2] : List Int32)) ++ T1) 45 G1 G3 h249 n0 (Nat.le_trans Z0 K250.1) F261 F262 F263 F264 (loM) (by show 45 < 46; decide) (by show 46 < 2 ^ 31; decide) O2 P5 O250 O4 rG3) e269 hml opd_27 rfl o477 rfl rfl rfl rfl rfl fun _ T270 _ Y hQ => ?_
    obtain ⟨rfl, N270q, e270⟩ := hQ
    have N270 := Fr.app N269 N270q
    refine zbp Y B o478 (v := 39) rfl ?_
    refine zCN Y B o479 (teq rfl).2 ?_
    refine zc1 Y B o480 <| zgo Y B j28 ?_
    exact Go.retNW Y B.1 (t := .boolean) hret (by simp) hlk (hb B.2 o481.1) hS249 (by rw [e270]; exact (Nat.le_trans hk249 (Nat.le_refl _))) hZ249 (hEW hw) (by rw [e270]; exact CR250) (by first | (rw [e270]; exact ⟨rfl, N270, K250⟩) | exact ⟨rfl, N270, K250⟩) (by decide) (by decide)
  · refine Go.tr st255 ?_
    show Go p e below _ _ (mkF m 97 #[iv i0, iv i1, iv i2, iv 3, iv q0, iv q1, iv q2, rv x, rv mx_239, rv o_242, rv mx_242, un] [(.int 0)])
    exact absurd (rfl : (((([] : List Int32) ++ T42) ++ ([] : List Int32)) ++ T1) = T43) he255
theorem rm_law (l : Launch) (Z : State) (a0 : Array Value) (hw : HW a0 Z) (ws : List Jvm.Cond) (i0 i1 i2 : Int32) (uv sv : Value) (G1 : Int32) (G3 : Value) (h0 : Heap) (n0 : Nat) (Z0 : n0 ≤ h0.size) (hl : l.stackTraces = true) (SU : Sta Z Z.heap ss1 ss19 ss12 uv) (hu : uv.isRef = true) (SS : Sta Z Z.heap ss1 ss20 ss13 sv) (hv : sv.isRef = true) (O2 : Sta Z Z.heap ss0 ss8 "Z" (.int G1)) (P5 : ¬ (G1 = (0 : Int32))) (X00 : Old Z n0 h0) (O4 : Sta Z Z.heap ss18 ss21 ss22 G3) (rG3 : G3.isRef = true) :
    MetFree l x (head1 (Jvm.Cond.code x code maxLocals ret :: ws) room_1) (fun ar_ U => ar_ = #[(.int i0), (.int i1), (.int i2)] ∧ Z.Warmed39 U.vm ∧ U.heap = h0 ∧ CHv Z EL U.vm h0) (fun _ _ bl s _ => s.vm.MethodsKnown ∧ s.vm.FramesKnown bl) (fun _ U o_ U' => OutW Z EL U (Q_law Z  h0 n0) room_1.cells room_1.slots o_ U') := by
  refine MetFree.of_bodySF (plainFor_of_name opn_10) hisR ?_
  intro p e s m args below meth c s₁ Bd hml0 hP hK
  obtain ⟨rfl, hZ, hh, hCH⟩ := hP
  obtain ⟨hTK, hBelow⟩ := hK
  have hZ0 : Z.Warmed39 s.vm := hZ
  have B : HB p c _ := ⟨Bd.exec, Bd.bytes⟩
  have hml : c.maxLocals = 12 := hml0
  have hret := Bd.returns
  have hlk : meth.locks = false := BodyLoose.notSynchronized Bd
  have hown : s.vm.findClass ss14 = some m.cls := findClass_of_methodNamed Bd.named
  have hnm := (name_of_methodNamed Bd.named Bd.method).1
  have Y : Stand p l e room_1 (s.setVm s.vm) m #[(.int i0), (.int i1), (.int i2)] below meth c s₁ [] 0 0 := Stand.of_body Bd
  have e0 : s₁.heap = h0 := by rw [← hh, Bd.state]; rfl
  have N0 := Fr.nil n0
  have hS0 : s.Since s.vm h0.size := (State.WarmedH.refl s).since _
  have CR0 : CHr Z EL s.vm s.heap s.vm h0 := by rw [hh]; exact CHr.refl hCH
  have K0 : Keep h0 h0 [] := Keep.refl h0 _
  show Go p e below (OutW Z EL s (Q_law Z  h0 n0) room_1.cells room_1.slots) s₁ (entryFrame m #[(.int i0), (.int i1), (.int i2)] maxLocals)
  refine Go.cast (oef_law m i0 i1 i2) ?_
  show Go p e below _ _ (mkF m 0 #[iv i0, iv i1, iv i2, un, un, un, un, un, un, un, un, un] [])
  have cx : Q_cx_law l Z a0 i0 i1 i2 uv sv G1 G3 h0 n0 p e s m below meth c := ⟨hw, Z0, hl, SU, hu, SS, hv, O2, P5, X00, O4, rG3, hZ, hh, hCH, hTK, hBelow, B, hml, hret, hlk, hown, hnm⟩
  have P46_0 := pc_law_P46_0 cx
  have P46_1 := pc_law_P46_1 cx
  have P46_2 := pc_law_P46_2 cx
  have P46_3 := pc_law_P46_3 cx
  refine zilN Y B o497 rfl <| zc3 Y B o498 <| ziand Y B o499 rfl ?_
  rcases (mask3c i0 : (i0 &&& (3 : Int32)) = (0 : Int32) ∨ (i0 &&& (3 : Int32)) = (1 : Int32) ∨ (i0 &&& (3 : Int32)) = (2 : Int32) ∨ (i0 &&& (3 : Int32)) = (3 : Int32)) with hk271 | hk271 | hk271 | hk271
  · rw [hk271]
    refine zisN Y B o500 (s3 rfl) <| zilN Y B o501 rfl <| zsp Y B o502 (v := 255) rfl <| ziand Y B o503 rfl <| zi2c Y B o504 rfl <| zis Y B o505 (s4 rfl) <| zilN Y B o506 rfl <| zbp Y B o507 (v := 8) rfl ?_
    refine ziushr Y B o508 rfl <| zsp Y B o509 (v := 255) rfl <| ziand Y B o510 rfl <| zi2c Y B o511 rfl <| zis Y B o512 (s5 rfl) <| zilN Y B o513 rfl <| zbp Y B o514 (v := 16) rfl <| ziushr Y B o515 rfl ?_
    refine zsp Y B o516 (v := 255) rfl <| ziand Y B o517 rfl <| zi2c Y B o518 rfl <| zis Y B o519 (s6 rfl) <| zilN Y B o520 rfl <| zil Y B o521 rfl <| zil Y B o522 rfl <| zil Y B o523 rfl ?_
    have r0 := ch_lo i1
    have r1 := ch_lo ((i1.toUInt32 >>> ((8 : Int32) &&& 31).toUInt32).toInt32)
    have r2 := ch_lo ((i1.toUInt32 >>> ((16 : Int32) &&& 31).toUInt32).toInt32)
    obtain ⟨_, _, ⟨T272, L272, k272, n272⟩, -, XX272, hSn272, hgn272, ⟨Lc272, hQ272, l272, y272, z272, RQ272⟩, st272⟩ := Jvm.RoadKit.callSS Y B.1 (y := mn37) hown (mvT hZ (ow0 hw)) (mvT hZ (ow1 hw)) (mvT hZ (ow2 hw)) (mvT hZ (ow3 hw)) (by decide) (backOfSH (W := 0) (rm_mk0 l Z a0 hw [] ((i1 &&& (255 : Int32)).toUInt32.toUInt16.toUInt32.toInt32) ((((i1.toUInt32 >>> ((8 : Int32) &&& 31).toUInt32).toInt32) &&& (255 : Int32)).toUInt32.toUInt16.toUInt32.toInt32) ((((i1.toUInt32 >>> ((16 : Int32) &&& 31).toUInt32).toInt32) &&& (255 : Int32)).toUInt32.toUInt16.toUInt32.toInt32) G1 h0 n0 (Nat.le_trans Z0 (Nat.le_refl _)) (r0) (r1) (r2) O2 P5 X00) hZ (ow3 hw) (ow2 hw) (by decide) (by decide) (hEW hw) CR0.1) (g := (mkF m 41 #[iv i0, iv i1, iv i2, iv 0, iv ((i1 &&& (255 : Int32)).toUInt32.toUInt16.toUInt32.toInt32), iv ((((i1.toUInt32 >>> ((8 : Int32) &&& 31).toUInt32).toInt32) &&& (255 : Int32)).toUInt32.toUInt16.toUInt32.toInt32), iv ((((i1.toUInt32 >>> ((16 : Int32) &&& 31).toUInt32).toInt32) &&& (255 : Int32)).toUInt32.toUInt16.toUInt32.toInt32), un, un, un, un, un] [(.int ((((i1.toUInt32 >>> ((16 : Int32) &&& 31).toUInt32).toInt32) &&& (255 : Int32)).toUInt32.toUInt16.toUInt32.toInt32)), (.int ((((i1.toUInt32 >>> ((8 : Int32) &&& 31).toUInt32).toInt32) &&& (255 : Int32)).toUInt32.toUInt16.toUInt32.toInt32)), (.int ((i1 &&& (255 : Int32)).toUInt32.toUInt16.toUInt32.toInt32)), (.int 0)])) rfl (by rw [hml]; rfl) (argsL := [(.int 0), (.int ((i1 &&& (255 : Int32)).toUInt32.toUInt16.toUInt32.toInt32)), (.int ((((i1.toUInt32 >>> ((8 : Int32) &&& 31).toUInt32).toInt32) &&& (255 : Int32)).toUInt32.toUInt16.toUInt32.toInt32)), (.int ((((i1.toUInt32 >>> ((16 : Int32) &&& 31).toUInt32).toInt32) &&& (255 : Int32)).toUInt32.toUInt16.toUInt32.toInt32))]) (rest := []) (lenOf opd_28 rfl) rfl (by show 2 * 0 + _ ≤ _; exact Nat.le_of_eq rfl) (hb B.2 o524.1) (fun _ _ => ⟨rfl, e0, (by decide : 0 + 6 ≤ _), (by decide : 0 + 12 ≤ _)⟩)
    dsimp only [Pt.U, Pt.locs, Pt.cells, Pt.slots] at XX272 hSn272 hgn272 l272 y272 z272 st272 hQ272 RQ272
    subst l272 y272 z272
    obtain ⟨Y, hS272, hZ272, hown272⟩ := rebS hS0 (by rw [e0]; exact (Nat.le_trans (Nat.le_refl _) (Nat.le_refl _))) XX272 hSn272 hgn272 hZ hown
    obtain ⟨x_272, t_272, kt_272, rfl, N272q, K272q, P272_0, P272_1, P272_2, P272_3, P272_4⟩ := hQ272
    have N272 := Fr.app N0 N272q
    refine Go.tr st272 ?_
    have CR273 := CR0.trans RQ272
    have K273 := K0.trans K272q all0
    have O273 := X00.keep K272q all0
    refine zas Y B o525 (s7 rfl) rfl ?_
    exact P46_0 _ _ _ _ _ ((i1 &&& (255 : Int32)).toUInt32.toUInt16.toUInt32.toInt32) ((((i1.toUInt32 >>> ((8 : Int32) &&& 31).toUInt32).toInt32) &&& (255 : Int32)).toUInt32.toUInt16.toUInt32.toInt32) ((((i1.toUInt32 >>> ((16 : Int32) &&& 31).toUInt32).toInt32) &&& (255 : Int32)).toUInt32.toUInt16.toUInt32.toInt32) x_272 t_272 kt_272 (Stand_grow Y (by decide) (by decide)) rfl N272 K273 O273 hS272 (Nat.le_trans (Nat.le_refl _) (Nat.le_refl _)) hZ272 hown272 (hh ▸ CR273) P272_1 P272_2 P272_3 P272_4 (r0) (r1) (r2)
  · rw [hk271]
    refine zisN Y B o500 (s3 rfl) <| zilN Y B o501 rfl <| zsp Y B o502 (v := 255) rfl <| ziand Y B o503 rfl <| zi2c Y B o504 rfl <| zis Y B o505 (s4 rfl) <| zilN Y B o506 rfl <| zbp Y B o507 (v := 8) rfl ?_
    refine ziushr Y B o508 rfl <| zsp Y B o509 (v := 255) rfl <| ziand Y B o510 rfl <| zi2c Y B o511 rfl <| zis Y B o512 (s5 rfl) <| zilN Y B o513 rfl <| zbp Y B o514 (v := 16) rfl <| ziushr Y B o515 rfl ?_
    refine zsp Y B o516 (v := 255) rfl <| ziand Y B o517 rfl <| zi2c Y B o518 rfl <| zis Y B o519 (s6 rfl) <| zilN Y B o520 rfl <| zil Y B o521 rfl <| zil Y B o522 rfl <| zil Y B o523 rfl ?_
    have r0 := ch_lo i1
    have r1 := ch_lo ((i1.toUInt32 >>> ((8 : Int32) &&& 31).toUInt32).toInt32)
    have r2 := ch_lo ((i1.toUInt32 >>> ((16 : Int32) &&& 31).toUInt32).toInt32)
    refine zcs Y B hZ hown (ow0 hw) (ow1 hw) (ow2 hw) (ow3 hw) (by decide) (rm_mk1 l Z a0 hw [] ((i1 &&& (255 : Int32)).toUInt32.toUInt16.toUInt32.toInt32) ((((i1.toUInt32 >>> ((8 : Int32) &&& 31).toUInt32).toInt32) &&& (255 : Int32)).toUInt32.toUInt16.toUInt32.toInt32) ((((i1.toUInt32 >>> ((16 : Int32) &&& 31).toUInt32).toInt32) &&& (255 : Int32)).toUInt32.toUInt16.toUInt32.toInt32) G1 h0 n0 (Nat.le_trans Z0 (Nat.le_refl _)) (r0) (r1) (r2) O2 P5 X00) e0 hml opd_28 rfl o524 rfl rfl rfl rfl rfl fun _ T274 _ Y hQ => ?_
    obtain ⟨x_274, t_274, kt_274, rfl, N274q, K274q, P274_0, P274_1, P274_2, P274_3, P274_4⟩ := hQ
    have N274 := Fr.app N0 N274q
    have R275 := CHr.keep K274q all0 CR0.1
    have CR275 := CR0.trans R275
    have K275 := K0.trans K274q all0
    have O275 := X00.keep K274q all0
    have Sf276 : Safe Z EL s.vm T274.heap x_274 := Safe.keep K274q all0 CR0.1 (Safe.new P274_0)
    refine zas Y B o525 (s7 rfl) rfl ?_
    exact P46_1 _ _ _ _ _ ((i1 &&& (255 : Int32)).toUInt32.toUInt16.toUInt32.toInt32) ((((i1.toUInt32 >>> ((8 : Int32) &&& 31).toUInt32).toInt32) &&& (255 : Int32)).toUInt32.toUInt16.toUInt32.toInt32) ((((i1.toUInt32 >>> ((16 : Int32) &&& 31).toUInt32).toInt32) &&& (255 : Int32)).toUInt32.toUInt16.toUInt32.toInt32) x_274 t_274 kt_274 (Stand_grow Y (by decide) (by decide)) rfl N274 K275 O275 hS0 (Nat.le_trans (Nat.le_refl _) K275.1) hZ hown (hh ▸ CR275) P274_1 P274_2 P274_3 P274_4 (r0) (r1) (r2)
  · rw [hk271]
    refine zisN Y B o500 (s3 rfl) <| zilN Y B o501 rfl <| zsp Y B o502 (v := 255) rfl <| ziand Y B o503 rfl <| zi2c Y B o504 rfl <| zis Y B o505 (s4 rfl) <| zilN Y B o506 rfl <| zbp Y B o507 (v := 8) rfl ?_
    refine ziushr Y B o508 rfl <| zsp Y B o509 (v := 255) rfl <| ziand Y B o510 rfl <| zi2c Y B o511 rfl <| zis Y B o512 (s5 rfl) <| zilN Y B o513 rfl <| zbp Y B o514 (v := 16) rfl <| ziushr Y B o515 rfl ?_
    refine zsp Y B o516 (v := 255) rfl <| ziand Y B o517 rfl <| zi2c Y B o518 rfl <| zis Y B o519 (s6 rfl) <| zilN Y B o520 rfl <| zil Y B o521 rfl <| zil Y B o522 rfl <| zil Y B o523 rfl ?_
    have r0 := ch_lo i1
    have r1 := ch_lo ((i1.toUInt32 >>> ((8 : Int32) &&& 31).toUInt32).toInt32)
    have r2 := ch_lo ((i1.toUInt32 >>> ((16 : Int32) &&& 31).toUInt32).toInt32)
    refine zcs Y B hZ hown (ow0 hw) (ow1 hw) (ow2 hw) (ow3 hw) (by decide) (rm_mk2 l Z a0 hw [] ((i1 &&& (255 : Int32)).toUInt32.toUInt16.toUInt32.toInt32) ((((i1.toUInt32 >>> ((8 : Int32) &&& 31).toUInt32).toInt32) &&& (255 : Int32)).toUInt32.toUInt16.toUInt32.toInt32) ((((i1.toUInt32 >>> ((16 : Int32) &&& 31).toUInt32).toInt32) &&& (255 : Int32)).toUInt32.toUInt16.toUInt32.toInt32) G1 h0 n0 (Nat.le_trans Z0 (Nat.le_refl _)) (r0) (r1) (r2) O2 P5 X00) e0 hml opd_28 rfl o524 rfl rfl rfl rfl rfl fun _ T277 _ Y hQ => ?_
    obtain ⟨x_277, t_277, kt_277, rfl, N277q, K277q, P277_0, P277_1, P277_2, P277_3, P277_4⟩ := hQ
    have N277 := Fr.app N0 N277q
    have R278 := CHr.keep K277q all0 CR0.1
    have CR278 := CR0.trans R278
    have K278 := K0.trans K277q all0
    have O278 := X00.keep K277q all0
    have Sf279 : Safe Z EL s.vm T277.heap x_277 := Safe.keep K277q all0 CR0.1 (Safe.new P277_0)
    refine zas Y B o525 (s7 rfl) rfl ?_
    exact P46_2 _ _ _ _ _ ((i1 &&& (255 : Int32)).toUInt32.toUInt16.toUInt32.toInt32) ((((i1.toUInt32 >>> ((8 : Int32) &&& 31).toUInt32).toInt32) &&& (255 : Int32)).toUInt32.toUInt16.toUInt32.toInt32) ((((i1.toUInt32 >>> ((16 : Int32) &&& 31).toUInt32).toInt32) &&& (255 : Int32)).toUInt32.toUInt16.toUInt32.toInt32) x_277 t_277 kt_277 (Stand_grow Y (by decide) (by decide)) rfl N277 K278 O278 hS0 (Nat.le_trans (Nat.le_refl _) K278.1) hZ hown (hh ▸ CR278) P277_1 P277_2 P277_3 P277_4 (r0) (r1) (r2)
  · rw [hk271]
    refine zisN Y B o500 (s3 rfl) <| zilN Y B o501 rfl <| zsp Y B o502 (v := 255) rfl <| ziand Y B o503 rfl <| zi2c Y B o504 rfl <| zis Y B o505 (s4 rfl) <| zilN Y B o506 rfl <| zbp Y B o507 (v := 8) rfl ?_
    refine ziushr Y B o508 rfl <| zsp Y B o509 (v := 255) rfl <| ziand Y B o510 rfl <| zi2c Y B o511 rfl <| zis Y B o512 (s5 rfl) <| zilN Y B o513 rfl <| zbp Y B o514 (v := 16) rfl <| ziushr Y B o515 rfl ?_
    refine zsp Y B o516 (v := 255) rfl <| ziand Y B o517 rfl <| zi2c Y B o518 rfl <| zis Y B o519 (s6 rfl) <| zilN Y B o520 rfl <| zil Y B o521 rfl <| zil Y B o522 rfl <| zil Y B o523 rfl ?_
    have r0 := ch_lo i1
    have r1 := ch_lo ((i1.toUInt32 >>> ((8 : Int32) &&& 31).toUInt32).toInt32)
    have r2 := ch_lo ((i1.toUInt32 >>> ((16 : Int32) &&& 31).toUInt32).toInt32)
    refine zcs Y B hZ hown (ow0 hw) (ow1 hw) (ow2 hw) (ow3 hw) (by decide) (rm_mk3 l Z a0 hw [] ((i1 &&& (255 : Int32)).toUInt32.toUInt16.toUInt32.toInt32) ((((i1.toUInt32 >>> ((8 : Int32) &&& 31).toUInt32).toInt32) &&& (255 : Int32)).toUInt32.toUInt16.toUInt32.toInt32) ((((i1.toUInt32 >>> ((16 : Int32) &&& 31).toUInt32).toInt32) &&& (255 : Int32)).toUInt32.toUInt16.toUInt32.toInt32) G1 h0 n0 (Nat.le_trans Z0 (Nat.le_refl _)) (r0) (r1) (r2) O2 P5 X00) e0 hml opd_28 rfl o524 rfl rfl rfl rfl rfl fun _ T280 _ Y hQ => ?_
    obtain ⟨x_280, t_280, kt_280, rfl, N280q, K280q, P280_0, P280_1, P280_2, P280_3, P280_4⟩ := hQ
    have N280 := Fr.app N0 N280q
    have R281 := CHr.keep K280q all0 CR0.1
    have CR281 := CR0.trans R281
    have K281 := K0.trans K280q all0
    have O281 := X00.keep K280q all0
    have Sf282 : Safe Z EL s.vm T280.heap x_280 := Safe.keep K280q all0 CR0.1 (Safe.new P280_0)
    refine zas Y B o525 (s7 rfl) rfl ?_
    exact P46_3 _ _ _ _ _ ((i1 &&& (255 : Int32)).toUInt32.toUInt16.toUInt32.toInt32) ((((i1.toUInt32 >>> ((8 : Int32) &&& 31).toUInt32).toInt32) &&& (255 : Int32)).toUInt32.toUInt16.toUInt32.toInt32) ((((i1.toUInt32 >>> ((16 : Int32) &&& 31).toUInt32).toInt32) &&& (255 : Int32)).toUInt32.toUInt16.toUInt32.toInt32) x_280 t_280 kt_280 (Stand_grow Y (by decide) (by decide)) rfl N280 K281 O281 hS0 (Nat.le_trans (Nat.le_refl _) K281.1) hZ hown (hh ▸ CR281) P280_1 P280_2 P280_3 P280_4 (r0) (r1) (r2)
set_option maxRecDepth 65536 in
set_option maxHeartbeats 40000000 in
theorem comes_1 {Post : Tables → Env → Array Value → State → Outcome → State → Prop} (hpost : ∀ tb e args s v u, (limb_1_1.after args s (.returned v) u = true ∧ limb_1_2.after args s (.returned v) u = true ∧ True) → ReturnedEndW s (.returned v) u (Jvm.fieldLocs frame_1_writes args s ++ Jvm.arrayLocs frame_1_arrays args s ++ Jvm.staticLocs frame_1_statics s) 64 16064 → Post tb e args s (.returned v) u) :
    ArmFor flags0 classFile x code maxLocals ret World_1 tables_1 room_1 Calls_1 rest_1 Pre_1 Post := by
  intro l hfl _ _ p e ha hc hk s m args below hf hA hF happ hP
  obtain ⟨hcalls, hrest, hpre⟩ := hP
  obtain ⟨-, -, -, hnamed, -, -, -, hat⟩ := (Spec.applies_iff hf).mp happ
  obtain ⟨hg, hn⟩ := and_e (Cond.before_iff.mp (show (Jvm.Cond.and given_1 narrow_1).before args s = true from hpre))
  obtain ⟨hcount, r0⟩ := and_e hg
  obtain ⟨k0, r1⟩ := and_e r0
  obtain ⟨k1, r2⟩ := and_e r1
  obtain ⟨w0, w1, w2, rfl⟩ : ∃ w0 w1 w2 : Value, args = #[w0, w1, w2] := by
    have hs : args.size = 3 := by simpa [Cond.value, given_1] using hcount
    obtain ⟨L⟩ := args
    match L, hs with
    | [w0, w1, w2], _ => exact ⟨w0, w1, w2, rfl⟩
  have hw := fun d (hd : d ∈ tables_1) => atoms_spec (ws := Jvm.Cond.code x code maxLocals ret :: tables_1) hat d (List.mem_cons_of_mem _ hd)
  obtain ⟨i0, e0⟩ := is_v k0
  obtain rfl : w0 = (.int i0) := Option.some.inj e0
  obtain ⟨i1, e1⟩ := is_v k1
  obtain rfl : w1 = (.int i1) := Option.some.inj e1
  obtain ⟨i2, e2⟩ := is_v r2
  obtain rfl : w2 = (.int i2) := Option.some.inj e2
  obtain ⟨hsets, hown0⟩ := atoms_of _ (rest_1_c_eq ▸ (show rest_1_c.before _ s = true from hrest))
  have n5 := not_v (Cond.before_iff.mp (hsets _ (List.mem_of_getElem? (i := 2) rfl)))
  obtain ⟨G1, eG1⟩ := is_v (Cond.before_iff.mp (hsets _ (List.mem_of_getElem? (i := 1) rfl)))
  have O2 : Sta s s.heap "java/lang/String" "COMPACT_STRINGS" "Z" (.int G1) := Sta.start eG1 (Or.inl (hsets _ (List.mem_of_getElem? (i := 0) rfl)))
  obtain ⟨G3, eG3, rG3⟩ := isR_v (Cond.before_iff.mp (hsets _ (List.mem_of_getElem? (i := 8) rfl)))
  have O4 : Sta s s.heap "jdk/internal/util/Preconditions" "SIOOBE_FORMATTER" "Ljava/util/function/BiFunction;" G3 := Sta.start eG3 (Or.inl (hsets _ (List.mem_of_getElem? (i := 7) rfl)))
  have P5 : ¬ (G1 = (0 : Int32)) := gotF (Cond.eq_ints eG1 (Term.int_eval (0))) n5
  have hfit : Fit s := fun {y c} hc i hi => by
    obtain ⟨ha, rfl⟩ := Array.getElem?_eq_some_iff.mp hc
    have q := List.all_eq_true.mp ((Array.all_eq_true_iff_forall_mem.mp hF) _ (Array.getElem_mem ha)) i (List.mem_range.mpr hi)
    simpa [Array.getElem?_eq_getElem hi] using q
  have hheld : ∀ p ∈ EL, Jvm.Lit.constHeld s p.1 p.2 := fun p hp => hcalls.2.2.1 p hp
  have hl : l.stackTraces = true := by unfold Launch.stackTraces; rw [hfl]; decide
  obtain ⟨uv, eu, hu⟩ := isR_v (Cond.before_iff.mp (hsets _ (List.mem_of_getElem? (i := 16) rfl)))
  obtain ⟨sv, es, hv⟩ := isR_v (Cond.before_iff.mp (hsets _ (List.mem_of_getElem? (i := 21) rfl)))
  have hknown := own_known hf hcalls.1 hcalls.2.1
  have hCH : CHv s EL s.vm s.heap := CHv.start (hEW hw) hheld (hsets _ (List.mem_of_getElem? (i := 2) rfl)) (ostr hw _ (List.mem_of_getElem? (i := 2) rfl)) (ostr hw _ (List.mem_of_getElem? (i := 1) rfl))
  obtain ⟨n, o, h1, h2, h3, _, L, rfl, ⟨rfl, N, -⟩, -, hq⟩ := rm_law l s _ hw tables_1 i0 i1 i2 uv sv G1 G3 s.heap s.heap.size (Nat.le_refl _) hl (Sta.start eu (Or.inl (hsets _ (List.mem_of_getElem? (i := 15) rfl)))) hu (Sta.start es (Or.inl (hsets _ (List.mem_of_getElem? (i := 20) rfl)))) hv O2 P5 (Old.start s) O4 rG3 p e ha hc hk s m _ below hf ((Spec.applies_iff_loose hf).mp happ).1 ⟨rfl, State.Warmed39.refl s, rfl, hCH⟩ hknown
  refine ⟨n, _, h1, h2, h3, hpost _ _ _ _ _ _ ⟨Cond.after_iff.mpr rfl, Cond.after_iff.mpr (eq_i res_at (Term.int_eval (1)) rfl), trivial⟩ ⟨hq.1, hq.2.1, hq.2.2.1, (hq.2.2.2.sift fun y hy => Or.inr (N y hy)).mono (by decide) (by decide)⟩⟩
theorem main_1_1 : Claimed_1_1 := comes_1 fun _ _ _ _ _ _ h hF => ⟨h.1, hF⟩
theorem main_1_2 : Claimed_1_2 := comes_1 fun _ _ _ _ _ _ h hF => ⟨h.2.1, hF⟩
end Jvm.Pilot.@@N@@
namespace Jvm.Pilot.@@N@@
open Jvm Jvm.ClassFile Sem Op Lib Jvm.Free Jvm.Stand Jvm.Pilot.@@N@@.Jvm.D
/-! MADE BY PROGRAM (witnessworld.py) out of the Statement's table words and the real class files: 41 classes; the members and pool entries that the words name. The judged class is class 1, her method 2. -/
namespace start1
open Jvm.ClassFile
def u (s : String) : CpInfo := .utf8 (stringToUtf16 s)
/-- a pool by its gaps: so many unusable entries, then the entry; so many at the end -/
def gap : Nat → List CpInfo → List CpInfo
  | 0, r => r
  | n + 1, r => .unusable :: gap n r
def poolList (es : List (Nat × CpInfo)) (last : Nat) : List CpInfo := es.foldr (fun e r => gap e.1 (e.2 :: r)) (gap last [])
def pool (es : List (Nat × CpInfo)) (last : Nat) : Array CpInfo := ⟨poolList es last⟩
def fileOf (pool : Array CpInfo) (this : Nat) (attrs : Array Attribute := #[]) (ms : Array MethodInfo := #[]) (fl : Nat := 33) (sup : Nat := 0) (ifs : Array Nat := #[]) (fds : Array FieldInfo := #[]) : ClassFile where
  minorVersion := 0
  majorVersion := 65
  constantPool := pool
  accessFlags := fl
  thisClass := this
  superClass := sup
  interfaces := ifs
  fields := fds
  methods := ms
  attributes := attrs
def plain (name : String) (sup : Option ClassId) : Class where
  name := name
  kind := .ordinary
  loader := none
  accessFlags := 33
  super := sup
  interfaces := #[]
  cf := none
  fields := #[]
  methods := #[]
  instanceTypes := #[]
  staticTypes := #[]
  resolved := #[]
  callSites := []
  init := .initialized
  statics := none
  mirror := none

def pool0 : Array CpInfo := pool [(5, u "<init>"), (0, u "()V"), (1, .class_ 10), (1, u "java/lang/Object")] 113

def k0c0 : Code := { maxStack := 0, maxLocals := 1, code := object_method_1_code, exceptionTable := #[], attributes := #[] }
def k0m0 : Method := { name := "<init>", desc := "()V", sig := { parameters := [], returnType := none }, accessFlags := 1, code := some k0c0 }
/-- java/lang/Object -/
def k0 : Class := { plain "java/lang/Object" none with
  accessFlags := 33
  interfaces := #[]
  cf := some (fileOf pool0 8 #[] #[{ accessFlags := 1, nameIndex := 5, descriptorIndex := 6, attributes := #[] }] 33 0 #[] #[])
  fields := #[]
  methods := #[k0m0]
  instanceTypes := #[]
  staticTypes := #[]
  resolved := Array.replicate 124 none
  statics := none }

def pool1 : Array CpInfo := pool [(2, .class_ 4), (1, u "java/lang/Object"), (0, u "<init>"), (0, u "()V"), (0, .class_ 8), (0, u "java/lang/String"), (0, .methodref 7 10), (0, .nameAndType 5 11), (0, u "([C)V"), (0, .methodref 13 14), (0, .class_ 15), (0, .nameAndType 16 17), (0, u "com/example/ops5/ops5/RefusedExceptionNameTakenPinLaw"), (0, u "mk"), (0, u "(ICCC)Ljava/lang/String;"), (0, .methodref 19 20), (0, .class_ 21), (0, .nameAndType 22 23), (0, u "com/example/ops5/ops5/RefusedException"), (0, u "nameTaken"), (0, u "(Ljava/lang/String;)Lcom/example/ops5/ops5/RefusedException;"), (0, .methodref 19 25), (0, .nameAndType 26 27), (0, u "getMessage"), (0, u "()Ljava/lang/String;"), (0, .string 29), (0, u "the store already holds a document named ''"), (0, .methodref 7 31), (0, .nameAndType 32 33), (0, u "equals"), (0, u "(Ljava/lang/Object;)Z"), (0, .methodref 19 35), (0, .nameAndType 36 37), (0, u "getCause"), (0, u "()Ljava/lang/Throwable;"), (0, .methodref 7 39), (0, .nameAndType 40 41), (0, u "length"), (0, u "()I"), (0, .integer 2147483647), (0, .methodref 7 44), (0, .nameAndType 45 46), (0, u "charAt"), (0, u "(I)C"), (3, u "law"), (0, u "(III)Z")] 2

def k1m0 : Method := { name := "<init>", desc := "()V", sig := { parameters := [], returnType := none }, accessFlags := 1, code := none }
def k1c1 : Code := { maxStack := 6, maxLocals := 4, code := method_2_code, exceptionTable := #[], attributes := #[] }
def k1m1 : Method := { name := "mk", desc := "(ICCC)Ljava/lang/String;", sig := { parameters := [.int, .char, .char, .char], returnType := some (.object "java/lang/String") }, accessFlags := 10, code := some k1c1 }
def k1c2 : Code := { maxStack := 4, maxLocals := 12, code := code, exceptionTable := #[], attributes := #[] }
def k1m2 : Method := { name := "law", desc := "(III)Z", sig := { parameters := [.int, .int, .int], returnType := some .boolean }, accessFlags := 9, code := some k1c2 }
/-- com/example/ops5/ops5/RefusedExceptionNameTakenPinLaw -/
def k1 : Class := { plain "com/example/ops5/ops5/RefusedExceptionNameTakenPinLaw" (some 0) with
  accessFlags := 49
  interfaces := #[]
  cf := some (fileOf pool1 13 #[] #[{ accessFlags := 1, nameIndex := 5, descriptorIndex := 6, attributes := #[] }, { accessFlags := 10, nameIndex := 16, descriptorIndex := 17, attributes := #[] }, { accessFlags := 9, nameIndex := 50, descriptorIndex := 51, attributes := #[] }] 49 2 #[] #[])
  fields := #[]
  methods := #[k1m0, k1m1, k1m2]
  instanceTypes := #[]
  staticTypes := #[]
  resolved := Array.replicate 54 none
  statics := none }

def pool2 : Array CpInfo := pool [(1, .class_ 2), (0, u "java/io/Serializable"), (0, .class_ 4), (0, u "java/lang/Object")] 2

/-- java/io/Serializable -/
def k2 : Class := { plain "java/io/Serializable" (some 0) with
  accessFlags := 1537
  interfaces := #[]
  cf := some (fileOf pool2 1 #[] #[] 1537 3 #[] #[])
  fields := #[]
  methods := #[]
  instanceTypes := #[]
  staticTypes := #[]
  resolved := Array.replicate 7 none
  statics := none }

def pool3 : Array CpInfo := pool [(1, .class_ 2), (0, u "java/lang/Comparable"), (0, .class_ 4), (0, u "java/lang/Object")] 7

/-- java/lang/Comparable -/
def k3 : Class := { plain "java/lang/Comparable" (some 0) with
  accessFlags := 1537
  interfaces := #[]
  cf := some (fileOf pool3 1 #[] #[] 1537 3 #[] #[])
  fields := #[]
  methods := #[]
  instanceTypes := #[]
  staticTypes := #[]
  resolved := Array.replicate 12 none
  statics := none }

def pool4 : Array CpInfo := pool [(2, .class_ 4), (1, u "java/lang/CharSequence"), (42, .class_ 48), (0, u "java/lang/CharSequence$1CodePointIterator"), (10, .class_ 60), (0, u "java/lang/CharSequence$1CharIterator"), (5, .class_ 67), (0, u "java/lang/Object")] 63

/-- java/lang/CharSequence -/
def k4 : Class := { plain "java/lang/CharSequence" (some 0) with
  accessFlags := 1537
  interfaces := #[]
  cf := some (fileOf pool4 2 #[.nestMembers #[47, 59]] #[] 1537 66 #[] #[])
  fields := #[]
  methods := #[]
  instanceTypes := #[]
  staticTypes := #[]
  resolved := Array.replicate 131 none
  statics := none }

def pool5 : Array CpInfo := pool [(1, .class_ 2), (0, u "java/lang/constant/Constable"), (0, .class_ 4), (0, u "java/lang/Object")] 6

/-- java/lang/constant/Constable -/
def k5 : Class := { plain "java/lang/constant/Constable" (some 0) with
  accessFlags := 1537
  interfaces := #[]
  cf := some (fileOf pool5 1 #[] #[] 1537 3 #[] #[])
  fields := #[]
  methods := #[]
  instanceTypes := #[]
  staticTypes := #[]
  resolved := Array.replicate 11 none
  statics := none }

def pool6 : Array CpInfo := pool [(1, .class_ 2), (0, u "java/lang/constant/ConstantDesc"), (0, .class_ 4), (0, u "java/lang/Object")] 32

/-- java/lang/constant/ConstantDesc -/
def k6 : Class := { plain "java/lang/constant/ConstantDesc" (some 0) with
  accessFlags := 1537
  interfaces := #[]
  cf := some (fileOf pool6 1 #[] #[] 1537 3 #[] #[])
  fields := #[]
  methods := #[]
  instanceTypes := #[]
  staticTypes := #[]
  resolved := Array.replicate 37 none
  statics := none }

def pool7 : Array CpInfo := pool [(1, .methodref 2 3), (0, .class_ 4), (0, .nameAndType 5 6), (0, u "java/lang/Object"), (0, u "<init>"), (0, u "()V"), (0, .string 8), (0, u ""), (0, .fieldref 10 11), (0, .class_ 12), (0, .nameAndType 13 14), (0, u "java/lang/String"), (0, u "value"), (0, u "[B"), (0, .fieldref 10 16), (0, .nameAndType 17 18), (0, u "coder"), (0, u "B"), (2, u "hash"), (0, u "I"), (2, u "hashIsZero"), (0, u "Z"), (0, .methodref 10 28), (0, .nameAndType 5 29), (0, u "([CIILjava/lang/Void;)V"), (8, .fieldref 10 39), (0, .nameAndType 40 26), (0, u "COMPACT_STRINGS"), (1, .class_ 44), (1, u "java/lang/StringUTF16"), (0, u "compress"), (1, .methodref 42 48), (0, .nameAndType 49 50), (0, u "coderFromArrayLen"), (0, u "([BI)B"), (3, .methodref 55 56), (0, .class_ 57), (0, .nameAndType 58 59), (0, u "java/util/Arrays"), (0, u "copyOfRange"), (0, u "([BII)[B"), (47, .class_ 109), (1, u "java/lang/StringLatin1"), (32, u "()Z"), (34, .methodref 42 178), (0, .nameAndType 45 179), (0, u "([CII)[B"), (13, .class_ 195), (1, u "java/lang/System"), (16, .methodref 193 213), (0, .nameAndType 214 215), (0, u "arraycopy"), (0, u "(Ljava/lang/Object;ILjava/lang/Object;II)V"), (118, u "()I"), (0, .methodref 10 336), (0, .nameAndType 17 337), (0, u "()B"), (2, u "()[B"), (22, u "([BI)C"), (27, u "(II)V"), (35, u "(I)C"), (61, .methodref 10 490), (0, .nameAndType 5 491), (0, u "(Ljava/lang/AbstractStringBuilder;Ljava/lang/Void;)V"), (0, .methodref 10 493), (0, .nameAndType 494 142), (0, u "isLatin1"), (0, .methodref 107 496), (0, .nameAndType 497 363), (0, u "charAt"), (3, u "checkIndex"), (4, .nameAndType 507 334), (0, u "length"), (24, u "getBytes"), (8, .methodref 107 542), (0, .nameAndType 543 544), (0, u "equals"), (0, u "([B[B)Z"), (4, .methodref 550 506), (0, .class_ 551), (0, u "java/lang/AbstractStringBuilder"), (0, .methodref 550 553), (0, .nameAndType 554 340), (0, u "getValue"), (18, u "(Ljava/lang/Object;)Z"), (1, .class_ 576), (0, u "java/lang/CharSequence"), (22, u "CASE_INSENSITIVE_ORDER"), (0, u "Ljava/util/Comparator;"), (220, u "([BIB)V"), (188, u "([C)V"), (36, .methodref 550 493), (5, .fieldref 1054 1055), (0, .class_ 1056), (0, .nameAndType 1057 1058), (0, u "jdk/internal/util/Preconditions"), (0, u "SIOOBE_FORMATTER"), (0, u "Ljava/util/function/BiFunction;"), (0, .methodref 1054 1060), (0, .nameAndType 501 1061), (0, u "(IILjava/util/function/BiFunction;)I"), (39, u "serialPersistentFields"), (0, u "[Ljava/io/ObjectStreamField;"), (0, .class_ 1104), (0, u "java/lang/String$CaseInsensitiveComparator"), (1, .class_ 1107), (0, u "java/io/Serializable"), (0, .class_ 1109), (0, u "java/lang/Comparable"), (0, .class_ 1111), (0, u "java/lang/constant/Constable"), (0, .class_ 1113), (0, u "java/lang/constant/ConstantDesc"), (2, u "serialVersionUID"), (0, u "J"), (3, u "REPL"), (0, u "C"), (2, u "LATIN1"), (1, u "UTF16"), (105, u "(Ljava/lang/StringBuilder;)V")] 217

def k7m0 : Method := { name := "<init>", desc := "()V", sig := { parameters := [], returnType := none }, accessFlags := 1, code := none }
def k7c1 : Code := { maxStack := 5, maxLocals := 2, code := jdk_42_method_3_code, exceptionTable := #[], attributes := #[] }
def k7m1 : Method := { name := "<init>", desc := "([C)V", sig := { parameters := [(.array .char)], returnType := none }, accessFlags := 1, code := some k7c1 }
def k7c2 : Code := { maxStack := 3, maxLocals := 2, code := jdk_42_method_53_code, exceptionTable := #[], attributes := #[] }
def k7m2 : Method := { name := "<init>", desc := "(Ljava/lang/StringBuilder;)V", sig := { parameters := [(.object "java/lang/StringBuilder")], returnType := none }, accessFlags := 1, code := some k7c2 }
def k7c3 : Code := { maxStack := 2, maxLocals := 1, code := jdk_42_method_54_code, exceptionTable := #[], attributes := #[] }
def k7m3 : Method := { name := "length", desc := "()I", sig := { parameters := [], returnType := some .int }, accessFlags := 1, code := some k7c3 }
def k7c4 : Code := { maxStack := 2, maxLocals := 2, code := jdk_42_method_56_code, exceptionTable := #[], attributes := #[] }
def k7m4 : Method := { name := "charAt", desc := "(I)C", sig := { parameters := [.int], returnType := some .char }, accessFlags := 1, code := some k7c4 }
def k7c5 : Code := { maxStack := 2, maxLocals := 3, code := jdk_42_method_66_code, exceptionTable := #[], attributes := #[] }
def k7m5 : Method := { name := "equals", desc := "(Ljava/lang/Object;)Z", sig := { parameters := [(.object "java/lang/Object")], returnType := some .boolean }, accessFlags := 1, code := some k7c5 }
def k7c6 : Code := { maxStack := 5, maxLocals := 4, code := jdk_42_method_147_code, exceptionTable := #[], attributes := #[] }
def k7m6 : Method := { name := "getBytes", desc := "([BIB)V", sig := { parameters := [(.array .byte), .int, .byte], returnType := none }, accessFlags := 0, code := some k7c6 }
def k7c7 : Code := { maxStack := 4, maxLocals := 6, code := jdk_42_method_149_code, exceptionTable := #[], attributes := #[] }
def k7m7 : Method := { name := "<init>", desc := "([CIILjava/lang/Void;)V", sig := { parameters := [(.array .char), .int, .int, (.object "java/lang/Void")], returnType := none }, accessFlags := 2, code := some k7c7 }
def k7c8 : Code := { maxStack := 5, maxLocals := 5, code := jdk_42_method_150_code, exceptionTable := #[], attributes := #[] }
def k7m8 : Method := { name := "<init>", desc := "(Ljava/lang/AbstractStringBuilder;Ljava/lang/Void;)V", sig := { parameters := [(.object "java/lang/AbstractStringBuilder"), (.object "java/lang/Void")], returnType := none }, accessFlags := 0, code := some k7c8 }
def k7c9 : Code := { maxStack := 1, maxLocals := 1, code := jdk_42_method_152_code, exceptionTable := #[], attributes := #[] }
def k7m9 : Method := { name := "coder", desc := "()B", sig := { parameters := [], returnType := some .byte }, accessFlags := 0, code := some k7c9 }
def k7c10 : Code := { maxStack := 1, maxLocals := 1, code := jdk_42_method_154_code, exceptionTable := #[], attributes := #[] }
def k7m10 : Method := { name := "isLatin1", desc := "()Z", sig := { parameters := [], returnType := some .boolean }, accessFlags := 0, code := some k7c10 }
def k7c11 : Code := { maxStack := 3, maxLocals := 2, code := jdk_42_method_155_code, exceptionTable := #[], attributes := #[] }
def k7m11 : Method := { name := "checkIndex", desc := "(II)V", sig := { parameters := [.int, .int], returnType := none }, accessFlags := 8, code := some k7c11 }
/-- java/lang/String -/
def k7 : Class := { plain "java/lang/String" (some 0) with
  accessFlags := 49
  interfaces := #[2, 3, 4, 5, 6]
  cf := some (fileOf pool7 10 #[.nestMembers #[1103]] #[{ accessFlags := 1, nameIndex := 5, descriptorIndex := 6, attributes := #[] }, { accessFlags := 1, nameIndex := 5, descriptorIndex := 1010, attributes := #[] }, { accessFlags := 1, nameIndex := 5, descriptorIndex := 1233, attributes := #[] }, { accessFlags := 1, nameIndex := 507, descriptorIndex := 334, attributes := #[] }, { accessFlags := 1, nameIndex := 497, descriptorIndex := 427, attributes := #[] }, { accessFlags := 1, nameIndex := 543, descriptorIndex := 573, attributes := #[] }, { accessFlags := 0, nameIndex := 532, descriptorIndex := 821, attributes := #[] }, { accessFlags := 2, nameIndex := 5, descriptorIndex := 29, attributes := #[] }, { accessFlags := 0, nameIndex := 5, descriptorIndex := 491, attributes := #[] }, { accessFlags := 0, nameIndex := 17, descriptorIndex := 337, attributes := #[] }, { accessFlags := 0, nameIndex := 494, descriptorIndex := 142, attributes := #[] }, { accessFlags := 8, nameIndex := 501, descriptorIndex := 391, attributes := #[] }] 49 2 #[1106, 1108, 575, 1110, 1112] #[{ accessFlags := 18, nameIndex := 13, descriptorIndex := 14, attributes := #[] }, { accessFlags := 18, nameIndex := 17, descriptorIndex := 18, attributes := #[] }, { accessFlags := 2, nameIndex := 21, descriptorIndex := 22, attributes := #[] }, { accessFlags := 2, nameIndex := 25, descriptorIndex := 26, attributes := #[] }, { accessFlags := 26, nameIndex := 1116, descriptorIndex := 1117, attributes := #[] }, { accessFlags := 24, nameIndex := 40, descriptorIndex := 26, attributes := #[] }, { accessFlags := 26, nameIndex := 1101, descriptorIndex := 1102, attributes := #[] }, { accessFlags := 26, nameIndex := 1121, descriptorIndex := 1122, attributes := #[] }, { accessFlags := 25, nameIndex := 599, descriptorIndex := 600, attributes := #[] }, { accessFlags := 24, nameIndex := 1125, descriptorIndex := 18, attributes := #[] }, { accessFlags := 24, nameIndex := 1127, descriptorIndex := 18, attributes := #[] }])
  fields := #[{ name := "value", type := (.array .byte), accessFlags := 18, slot := 0, constantValue := 0 }, { name := "coder", type := .byte, accessFlags := 18, slot := 1, constantValue := 0 }, { name := "hash", type := .int, accessFlags := 2, slot := 2, constantValue := 0 }, { name := "hashIsZero", type := .boolean, accessFlags := 2, slot := 3, constantValue := 0 }, { name := "serialVersionUID", type := .long, accessFlags := 26, slot := 0, constantValue := 0 }, { name := "COMPACT_STRINGS", type := .boolean, accessFlags := 24, slot := 1, constantValue := 0 }, { name := "serialPersistentFields", type := (.array (.object "java/io/ObjectStreamField")), accessFlags := 26, slot := 2, constantValue := 0 }, { name := "REPL", type := .char, accessFlags := 26, slot := 3, constantValue := 0 }, { name := "CASE_INSENSITIVE_ORDER", type := (.object "java/util/Comparator"), accessFlags := 25, slot := 4, constantValue := 0 }, { name := "LATIN1", type := .byte, accessFlags := 24, slot := 5, constantValue := 0 }, { name := "UTF16", type := .byte, accessFlags := 24, slot := 6, constantValue := 0 }]
  methods := #[k7m0, k7m1, k7m2, k7m3, k7m4, k7m5, k7m6, k7m7, k7m8, k7m9, k7m10, k7m11]
  instanceTypes := #[(.array .byte), .byte, .int, .boolean]
  staticTypes := #[.long, .boolean, (.array (.object "java/io/ObjectStreamField")), .char, (.object "java/util/Comparator"), .byte, .byte]
  resolved := Array.replicate 1451 none
  statics := some 0 }

def pool8 : Array CpInfo := pool [(1, .methodref 2 3), (0, .class_ 4), (0, .nameAndType 5 6), (0, u "java/lang/Object"), (0, u "<init>"), (0, u "()V"), (0, .fieldref 8 9), (0, .class_ 10), (0, .nameAndType 11 12), (0, u "java/lang/Throwable"), (0, u "cause"), (0, u "Ljava/lang/Throwable;"), (0, .fieldref 8 14), (0, .nameAndType 15 16), (0, u "UNASSIGNED_STACK"), (0, u "[Ljava/lang/StackTraceElement;"), (0, .fieldref 8 18), (0, .nameAndType 19 16), (0, u "stackTrace"), (0, .fieldref 8 21), (0, .nameAndType 22 23), (0, u "SUPPRESSED_SENTINEL"), (0, u "Ljava/util/List;"), (0, .fieldref 8 25), (0, .nameAndType 26 23), (0, u "suppressedExceptions"), (0, .methodref 8 28), (0, .nameAndType 29 30), (0, u "fillInStackTrace"), (0, u "()Ljava/lang/Throwable;"), (0, .fieldref 8 32), (0, .nameAndType 33 34), (0, u "detailMessage"), (0, u "Ljava/lang/String;"), (3, u "()Ljava/lang/String;"), (2, u "getMessage"), (51, .class_ 94), (0, u "java/lang/Throwable$WrappedPrintStream"), (6, .class_ 103), (1, u "java/lang/Throwable$PrintStreamOrWriter"), (54, u "getCause"), (6, u "$assertionsDisabled"), (0, u "Z"), (26, .class_ 194), (0, u "java/lang/Throwable$WrappedPrintWriter"), (3, .fieldref 8 199), (0, .nameAndType 200 201), (0, u "backtrace"), (0, u "Ljava/lang/Object;"), (0, .methodref 8 203), (0, .nameAndType 29 204), (0, u "(I)Ljava/lang/Throwable;"), (6, u "depth"), (0, u "I"), (10, u "(Ljava/lang/String;)V"), (45, .class_ 271), (1, u "java/lang/Throwable$SentinelHolder"), (32, u "EMPTY_THROWABLE_ARRAY"), (0, u "[Ljava/lang/Throwable;"), (12, .class_ 319), (0, u "java/io/Serializable"), (0, u "serialVersionUID"), (0, u "J"), (5, u "NULL_CAUSE_MESSAGE"), (0, u "SELF_SUPPRESSION_MESSAGE"), (0, u "CAUSE_CAPTION"), (0, u "SUPPRESSED_CAPTION")] 73

def k8c0 : Code := { maxStack := 2, maxLocals := 1, code := jdk_78_method_1_code, exceptionTable := #[], attributes := #[] }
def k8m0 : Method := { name := "<init>", desc := "()V", sig := { parameters := [], returnType := none }, accessFlags := 1, code := some k8c0 }
def k8c1 : Code := { maxStack := 2, maxLocals := 2, code := jdk_78_method_2_code, exceptionTable := #[], attributes := #[] }
def k8m1 : Method := { name := "<init>", desc := "(Ljava/lang/String;)V", sig := { parameters := [(.object "java/lang/String")], returnType := none }, accessFlags := 1, code := some k8c1 }
def k8c2 : Code := { maxStack := 1, maxLocals := 1, code := jdk_78_method_6_code, exceptionTable := #[], attributes := #[] }
def k8m2 : Method := { name := "getMessage", desc := "()Ljava/lang/String;", sig := { parameters := [], returnType := some (.object "java/lang/String") }, accessFlags := 1, code := some k8c2 }
def k8c3 : Code := { maxStack := 2, maxLocals := 1, code := ⟨#[0x2a, 0xb4, 0x00, 0x07, 0x2a, 0xa6, 0x00, 0x07, 0x01, 0xa7, 0x00, 0x07, 0x2a, 0xb4, 0x00, 0x07, 0xb0]⟩, exceptionTable := #[], attributes := #[] }
def k8m3 : Method := { name := "getCause", desc := "()Ljava/lang/Throwable;", sig := { parameters := [], returnType := some (.object "java/lang/Throwable") }, accessFlags := 33, code := some k8c3 }
def k8c4 : Code := { maxStack := 2, maxLocals := 1, code := ⟨#[0x2a, 0xb4, 0x00, 0x11, 0xc7, 0x00, 0x0a, 0x2a, 0xb4, 0x00, 0xc6, 0xc6, 0x00, 0x10, 0x2a, 0x03, 0xb6, 0x00, 0xca, 0x57, 0x2a, 0xb2, 0x00, 0x0d, 0xb5, 0x00, 0x11, 0x2a, 0xb0]⟩, exceptionTable := #[], attributes := #[] }
def k8m4 : Method := { name := "fillInStackTrace", desc := "()Ljava/lang/Throwable;", sig := { parameters := [], returnType := some (.object "java/lang/Throwable") }, accessFlags := 33, code := some k8c4 }
def k8m5 : Method := { name := "fillInStackTrace", desc := "(I)Ljava/lang/Throwable;", sig := { parameters := [.int], returnType := some (.object "java/lang/Throwable") }, accessFlags := 258, code := none }
/-- java/lang/Throwable -/
def k8 : Class := { plain "java/lang/Throwable" (some 0) with
  accessFlags := 33
  interfaces := #[2]
  cf := some (fileOf pool8 8 #[.nestMembers #[193, 93, 101, 269]] #[{ accessFlags := 1, nameIndex := 5, descriptorIndex := 6, attributes := #[] }, { accessFlags := 1, nameIndex := 5, descriptorIndex := 223, attributes := #[] }, { accessFlags := 1, nameIndex := 41, descriptorIndex := 38, attributes := #[] }, { accessFlags := 33, nameIndex := 158, descriptorIndex := 30, attributes := #[] }, { accessFlags := 33, nameIndex := 29, descriptorIndex := 30, attributes := #[] }, { accessFlags := 258, nameIndex := 29, descriptorIndex := 204, attributes := #[] }] 33 2 #[318] #[{ accessFlags := 26, nameIndex := 320, descriptorIndex := 321, attributes := #[] }, { accessFlags := 130, nameIndex := 200, descriptorIndex := 201, attributes := #[] }, { accessFlags := 2, nameIndex := 33, descriptorIndex := 34, attributes := #[] }, { accessFlags := 26, nameIndex := 15, descriptorIndex := 16, attributes := #[] }, { accessFlags := 2, nameIndex := 11, descriptorIndex := 12, attributes := #[] }, { accessFlags := 2, nameIndex := 19, descriptorIndex := 16, attributes := #[] }, { accessFlags := 130, nameIndex := 211, descriptorIndex := 212, attributes := #[] }, { accessFlags := 26, nameIndex := 22, descriptorIndex := 23, attributes := #[] }, { accessFlags := 2, nameIndex := 26, descriptorIndex := 23, attributes := #[] }, { accessFlags := 26, nameIndex := 327, descriptorIndex := 34, attributes := #[] }, { accessFlags := 26, nameIndex := 328, descriptorIndex := 34, attributes := #[] }, { accessFlags := 26, nameIndex := 329, descriptorIndex := 34, attributes := #[] }, { accessFlags := 26, nameIndex := 330, descriptorIndex := 34, attributes := #[] }, { accessFlags := 26, nameIndex := 304, descriptorIndex := 305, attributes := #[] }, { accessFlags := 4120, nameIndex := 165, descriptorIndex := 166, attributes := #[] }])
  fields := #[{ name := "serialVersionUID", type := .long, accessFlags := 26, slot := 0, constantValue := 0 }, { name := "backtrace", type := (.object "java/lang/Object"), accessFlags := 130, slot := 0, constantValue := 0 }, { name := "detailMessage", type := (.object "java/lang/String"), accessFlags := 2, slot := 1, constantValue := 0 }, { name := "UNASSIGNED_STACK", type := (.array (.object "java/lang/StackTraceElement")), accessFlags := 26, slot := 1, constantValue := 0 }, { name := "cause", type := (.object "java/lang/Throwable"), accessFlags := 2, slot := 2, constantValue := 0 }, { name := "stackTrace", type := (.array (.object "java/lang/StackTraceElement")), accessFlags := 2, slot := 3, constantValue := 0 }, { name := "depth", type := .int, accessFlags := 130, slot := 4, constantValue := 0 }, { name := "SUPPRESSED_SENTINEL", type := (.object "java/util/List"), accessFlags := 26, slot := 2, constantValue := 0 }, { name := "suppressedExceptions", type := (.object "java/util/List"), accessFlags := 2, slot := 5, constantValue := 0 }, { name := "NULL_CAUSE_MESSAGE", type := (.object "java/lang/String"), accessFlags := 26, slot := 3, constantValue := 0 }, { name := "SELF_SUPPRESSION_MESSAGE", type := (.object "java/lang/String"), accessFlags := 26, slot := 4, constantValue := 0 }, { name := "CAUSE_CAPTION", type := (.object "java/lang/String"), accessFlags := 26, slot := 5, constantValue := 0 }, { name := "SUPPRESSED_CAPTION", type := (.object "java/lang/String"), accessFlags := 26, slot := 6, constantValue := 0 }, { name := "EMPTY_THROWABLE_ARRAY", type := (.array (.object "java/lang/Throwable")), accessFlags := 26, slot := 7, constantValue := 0 }, { name := "$assertionsDisabled", type := .boolean, accessFlags := 4120, slot := 8, constantValue := 0 }]
  methods := #[k8m0, k8m1, k8m2, k8m3, k8m4, k8m5]
  instanceTypes := #[(.object "java/lang/Object"), (.object "java/lang/String"), (.object "java/lang/Throwable"), (.array (.object "java/lang/StackTraceElement")), .int, (.object "java/util/List")]
  staticTypes := #[.long, (.array (.object "java/lang/StackTraceElement")), (.object "java/util/List"), (.object "java/lang/String"), (.object "java/lang/String"), (.object "java/lang/String"), (.object "java/lang/String"), (.array (.object "java/lang/Throwable")), .boolean]
  resolved := Array.replicate 404 none
  statics := some 1 }

def pool9 : Array CpInfo := pool [(2, .class_ 4), (1, u "java/lang/Throwable"), (0, u "<init>"), (0, u "()V"), (0, .methodref 2 8), (0, .nameAndType 5 9), (0, u "(Ljava/lang/String;)V"), (9, .class_ 20), (0, u "java/lang/Exception"), (0, u "serialVersionUID"), (0, u "J")] 17

def k9m0 : Method := { name := "<init>", desc := "()V", sig := { parameters := [], returnType := none }, accessFlags := 1, code := none }
def k9c1 : Code := { maxStack := 2, maxLocals := 2, code := jdk_59_method_2_code, exceptionTable := #[], attributes := #[] }
def k9m1 : Method := { name := "<init>", desc := "(Ljava/lang/String;)V", sig := { parameters := [(.object "java/lang/String")], returnType := none }, accessFlags := 1, code := some k9c1 }
/-- java/lang/Exception -/
def k9 : Class := { plain "java/lang/Exception" (some 8) with
  accessFlags := 33
  interfaces := #[]
  cf := some (fileOf pool9 19 #[] #[{ accessFlags := 1, nameIndex := 5, descriptorIndex := 6, attributes := #[] }, { accessFlags := 1, nameIndex := 5, descriptorIndex := 9, attributes := #[] }] 33 2 #[] #[{ accessFlags := 24, nameIndex := 21, descriptorIndex := 22, attributes := #[] }])
  fields := #[{ name := "serialVersionUID", type := .long, accessFlags := 24, slot := 0, constantValue := 0 }]
  methods := #[k9m0, k9m1]
  instanceTypes := #[(.object "java/lang/Object"), (.object "java/lang/String"), (.object "java/lang/Throwable"), (.array (.object "java/lang/StackTraceElement")), .int, (.object "java/util/List")]
  staticTypes := #[.long]
  resolved := Array.replicate 40 none
  statics := none }

def pool10 : Array CpInfo := pool [(1, .methodref 2 3), (0, .class_ 4), (0, .nameAndType 5 6), (0, u "java/lang/Exception"), (0, u "<init>"), (0, u "(Ljava/lang/String;)V"), (3, .class_ 11), (0, u "com/example/ops5/ops5/RefusedException"), (35, .class_ 48), (0, u "java/lang/StringBuilder"), (0, .methodref 47 50), (0, .nameAndType 5 51), (0, u "()V"), (0, .string 53), (0, u "the store already holds a document named '"), (0, .methodref 47 55), (0, .nameAndType 56 57), (0, u "append"), (0, u "(Ljava/lang/String;)Ljava/lang/StringBuilder;"), (0, .string 59), (0, u "'"), (0, .methodref 47 61), (0, .nameAndType 62 63), (0, u "toString"), (0, u "()Ljava/lang/String;"), (0, .methodref 10 3), (36, u "serialVersionUID"), (0, u "J"), (5, u "nameTaken"), (0, u "(Ljava/lang/String;)Lcom/example/ops5/ops5/RefusedException;")] 7

def k10c0 : Code := { maxStack := 2, maxLocals := 2, code := prog_5_method_1_code, exceptionTable := #[], attributes := #[] }
def k10m0 : Method := { name := "<init>", desc := "(Ljava/lang/String;)V", sig := { parameters := [(.object "java/lang/String")], returnType := none }, accessFlags := 0, code := some k10c0 }
def k10c1 : Code := { maxStack := 4, maxLocals := 1, code := prog_5_method_4_code, exceptionTable := #[], attributes := #[] }
def k10m1 : Method := { name := "nameTaken", desc := "(Ljava/lang/String;)Lcom/example/ops5/ops5/RefusedException;", sig := { parameters := [(.object "java/lang/String")], returnType := some (.object "com/example/ops5/ops5/RefusedException") }, accessFlags := 8, code := some k10c1 }
/-- com/example/ops5/ops5/RefusedException -/
def k10 : Class := { plain "com/example/ops5/ops5/RefusedException" (some 9) with
  accessFlags := 48
  interfaces := #[]
  cf := some (fileOf pool10 10 #[] #[{ accessFlags := 0, nameIndex := 5, descriptorIndex := 6, attributes := #[] }, { accessFlags := 8, nameIndex := 108, descriptorIndex := 109, attributes := #[] }] 48 2 #[] #[{ accessFlags := 26, nameIndex := 101, descriptorIndex := 102, attributes := #[] }])
  fields := #[{ name := "serialVersionUID", type := .long, accessFlags := 26, slot := 0, constantValue := 0 }]
  methods := #[k10m0, k10m1]
  instanceTypes := #[(.object "java/lang/Object"), (.object "java/lang/String"), (.object "java/lang/Throwable"), (.array (.object "java/lang/StackTraceElement")), .int, (.object "java/util/List")]
  staticTypes := #[.long]
  resolved := Array.replicate 117 none
  statics := none }

def pool11 : Array CpInfo := pool [(1, .class_ 2), (0, u "java/lang/Appendable"), (0, .class_ 4), (0, u "java/lang/Object")] 9

/-- java/lang/Appendable -/
def k11 : Class := { plain "java/lang/Appendable" (some 0) with
  accessFlags := 1537
  interfaces := #[]
  cf := some (fileOf pool11 1 #[] #[] 1537 3 #[] #[])
  fields := #[]
  methods := #[]
  instanceTypes := #[]
  staticTypes := #[]
  resolved := Array.replicate 14 none
  statics := none }

def pool12 : Array CpInfo := pool [(1, .class_ 2), (0, u "java/lang/String"), (0, .methodref 4 5), (0, .class_ 6), (0, .nameAndType 7 8), (0, u "java/lang/Object"), (0, u "<init>"), (0, u "()V"), (1, .class_ 12), (1, u "java/lang/AbstractStringBuilder"), (0, u "EMPTYVALUE"), (0, u "[B"), (0, .fieldref 10 16), (0, .nameAndType 17 14), (0, u "value"), (0, .fieldref 1 19), (0, .nameAndType 20 21), (0, u "COMPACT_STRINGS"), (0, u "Z"), (0, .fieldref 10 23), (0, .nameAndType 24 25), (0, u "coder"), (0, u "B"), (6, .methodref 1 33), (0, .nameAndType 34 35), (0, u "length"), (0, u "()I"), (3, .integer 2147483647), (0, .methodref 1 41), (0, .nameAndType 24 42), (0, u "()B"), (2, u "append"), (0, u "(Ljava/lang/String;)Ljava/lang/AbstractStringBuilder;"), (1, .class_ 49), (0, u "java/lang/CharSequence"), (19, u "(Ljava/lang/String;)V"), (5, u "maybeLatin1"), (3, .fieldref 10 80), (0, .nameAndType 81 82), (0, u "count"), (0, u "I"), (2, u "isLatin1"), (0, u "()Z"), (13, .methodref 10 101), (0, .nameAndType 102 103), (0, u "ensureCapacityInternal"), (0, u "(I)V"), (0, .methodref 10 105), (0, .nameAndType 106 107), (0, u "newCapacity"), (0, u "(I)I"), (0, .methodref 109 110), (0, .class_ 111), (0, .nameAndType 112 113), (0, u "java/util/Arrays"), (0, u "copyOf"), (0, u "([BI)[B"), (0, .methodref 115 116), (0, .class_ 117), (0, .nameAndType 118 119), (0, u "jdk/internal/util/ArraysSupport"), (0, u "newLength"), (0, u "(III)I"), (88, .methodref 10 209), (0, .nameAndType 210 211), (0, u "putStringAt"), (0, u "(ILjava/lang/String;)V"), (5, u "inflateIfNeededFor"), (2, .nameAndType 221 222), (0, u "getBytes"), (0, u "([BIB)V"), (174, .methodref 10 398), (0, .nameAndType 217 69), (0, .methodref 1 220), (3, u "()[B"), (40, .class_ 445), (0, u "java/lang/Appendable"), (106, u "getValue")] 56

def k12m0 : Method := { name := "<init>", desc := "()V", sig := { parameters := [], returnType := none }, accessFlags := 0, code := none }
def k12c1 : Code := { maxStack := 2, maxLocals := 2, code := jdk_68_method_2_code, exceptionTable := #[], attributes := #[] }
def k12m1 : Method := { name := "<init>", desc := "(I)V", sig := { parameters := [.int], returnType := none }, accessFlags := 0, code := some k12c1 }
def k12c2 : Code := { maxStack := 1, maxLocals := 1, code := jdk_68_method_6_code, exceptionTable := #[], attributes := #[] }
def k12m2 : Method := { name := "length", desc := "()I", sig := { parameters := [], returnType := some .int }, accessFlags := 1, code := some k12c2 }
def k12c3 : Code := { maxStack := 4, maxLocals := 3, code := jdk_68_method_9_code, exceptionTable := #[], attributes := #[] }
def k12m3 : Method := { name := "ensureCapacityInternal", desc := "(I)V", sig := { parameters := [.int], returnType := none }, accessFlags := 2, code := some k12c3 }
def k12c4 : Code := { maxStack := 5, maxLocals := 6, code := jdk_68_method_10_code, exceptionTable := #[], attributes := #[] }
def k12m4 : Method := { name := "newCapacity", desc := "(I)I", sig := { parameters := [.int], returnType := some .int }, accessFlags := 2, code := some k12c4 }
def k12c5 : Code := { maxStack := 3, maxLocals := 3, code := jdk_68_method_22_code, exceptionTable := #[], attributes := #[] }
def k12m5 : Method := { name := "append", desc := "(Ljava/lang/String;)Ljava/lang/AbstractStringBuilder;", sig := { parameters := [(.object "java/lang/String")], returnType := some (.object "java/lang/AbstractStringBuilder") }, accessFlags := 1, code := some k12c5 }
def k12c6 : Code := { maxStack := 1, maxLocals := 1, code := jdk_68_method_64_code, exceptionTable := #[], attributes := #[] }
def k12m6 : Method := { name := "getValue", desc := "()[B", sig := { parameters := [], returnType := some (.array .byte) }, accessFlags := 16, code := some k12c6 }
def k12c7 : Code := { maxStack := 1, maxLocals := 1, code := jdk_68_method_68_code, exceptionTable := #[], attributes := #[] }
def k12m7 : Method := { name := "isLatin1", desc := "()Z", sig := { parameters := [], returnType := some .boolean }, accessFlags := 16, code := some k12c7 }
def k12c8 : Code := { maxStack := 2, maxLocals := 2, code := jdk_68_method_71_code, exceptionTable := #[], attributes := #[] }
def k12m8 : Method := { name := "inflateIfNeededFor", desc := "(Ljava/lang/String;)V", sig := { parameters := [(.object "java/lang/String")], returnType := none }, accessFlags := 2, code := some k12c8 }
def k12c9 : Code := { maxStack := 4, maxLocals := 3, code := jdk_68_method_73_code, exceptionTable := #[], attributes := #[] }
def k12m9 : Method := { name := "putStringAt", desc := "(ILjava/lang/String;)V", sig := { parameters := [.int, (.object "java/lang/String")], returnType := none }, accessFlags := 2, code := some k12c9 }
/-- java/lang/AbstractStringBuilder -/
def k12 : Class := { plain "java/lang/AbstractStringBuilder" (some 0) with
  accessFlags := 1056
  interfaces := #[11, 4]
  cf := some (fileOf pool12 10 #[] #[{ accessFlags := 0, nameIndex := 7, descriptorIndex := 8, attributes := #[] }, { accessFlags := 0, nameIndex := 7, descriptorIndex := 103, attributes := #[] }, { accessFlags := 1, nameIndex := 34, descriptorIndex := 35, attributes := #[] }, { accessFlags := 2, nameIndex := 102, descriptorIndex := 103, attributes := #[] }, { accessFlags := 2, nameIndex := 106, descriptorIndex := 107, attributes := #[] }, { accessFlags := 1, nameIndex := 45, descriptorIndex := 46, attributes := #[] }, { accessFlags := 16, nameIndex := 552, descriptorIndex := 403, attributes := #[] }, { accessFlags := 16, nameIndex := 85, descriptorIndex := 86, attributes := #[] }, { accessFlags := 2, nameIndex := 217, descriptorIndex := 69, attributes := #[] }, { accessFlags := 2, nameIndex := 210, descriptorIndex := 211, attributes := #[] }] 1056 4 #[444, 48] #[{ accessFlags := 0, nameIndex := 17, descriptorIndex := 14, attributes := #[] }, { accessFlags := 0, nameIndex := 24, descriptorIndex := 25, attributes := #[] }, { accessFlags := 0, nameIndex := 75, descriptorIndex := 21, attributes := #[] }, { accessFlags := 0, nameIndex := 81, descriptorIndex := 82, attributes := #[] }, { accessFlags := 26, nameIndex := 13, descriptorIndex := 14, attributes := #[] }])
  fields := #[{ name := "value", type := (.array .byte), accessFlags := 0, slot := 0, constantValue := 0 }, { name := "coder", type := .byte, accessFlags := 0, slot := 1, constantValue := 0 }, { name := "maybeLatin1", type := .boolean, accessFlags := 0, slot := 2, constantValue := 0 }, { name := "count", type := .int, accessFlags := 0, slot := 3, constantValue := 0 }, { name := "EMPTYVALUE", type := (.array .byte), accessFlags := 26, slot := 0, constantValue := 0 }]
  methods := #[k12m0, k12m1, k12m2, k12m3, k12m4, k12m5, k12m6, k12m7, k12m8, k12m9]
  instanceTypes := #[(.array .byte), .byte, .boolean, .int]
  staticTypes := #[(.array .byte)]
  resolved := Array.replicate 609 none
  statics := none }

def pool13 : Array CpInfo := pool [(1, .methodref 2 3), (0, .class_ 4), (0, .nameAndType 5 6), (0, u "java/lang/AbstractStringBuilder"), (0, u "<init>"), (0, u "(I)V"), (11, .class_ 20), (1, u "java/lang/String"), (3, .class_ 26), (1, u "java/lang/StringBuilder"), (0, u "append"), (0, u "(Ljava/lang/String;)Ljava/lang/StringBuilder;"), (0, .methodref 2 30), (0, .nameAndType 27 31), (0, u "(Ljava/lang/String;)Ljava/lang/AbstractStringBuilder;"), (105, .methodref 18 138), (0, .nameAndType 5 139), (0, u "(Ljava/lang/StringBuilder;)V"), (5, u "()V"), (10, u "()I"), (186, .methodref 2 344), (0, .nameAndType 345 156), (0, u "length"), (3, .class_ 350), (0, u "java/lang/Appendable"), (0, .class_ 352), (0, u "java/io/Serializable"), (0, .class_ 354), (0, u "java/lang/Comparable"), (0, .class_ 356), (0, u "java/lang/CharSequence"), (0, u "serialVersionUID"), (0, u "J"), (40, u "toString"), (0, u "()Ljava/lang/String;")] 21

def k13c0 : Code := { maxStack := 2, maxLocals := 1, code := jdk_67_method_1_code, exceptionTable := #[], attributes := #[] }
def k13m0 : Method := { name := "<init>", desc := "()V", sig := { parameters := [], returnType := none }, accessFlags := 1, code := some k13c0 }
def k13c1 : Code := { maxStack := 2, maxLocals := 2, code := jdk_67_method_7_code, exceptionTable := #[], attributes := #[] }
def k13m1 : Method := { name := "append", desc := "(Ljava/lang/String;)Ljava/lang/StringBuilder;", sig := { parameters := [(.object "java/lang/String")], returnType := some (.object "java/lang/StringBuilder") }, accessFlags := 1, code := some k13c1 }
def k13c2 : Code := { maxStack := 3, maxLocals := 1, code := jdk_67_method_42_code, exceptionTable := #[], attributes := #[] }
def k13m2 : Method := { name := "toString", desc := "()Ljava/lang/String;", sig := { parameters := [], returnType := some (.object "java/lang/String") }, accessFlags := 1, code := some k13c2 }
def k13c3 : Code := { maxStack := 1, maxLocals := 1, code := jdk_67_method_93_code, exceptionTable := #[], attributes := #[] }
def k13m3 : Method := { name := "length", desc := "()I", sig := { parameters := [], returnType := some .int }, accessFlags := 4161, code := some k13c3 }
/-- java/lang/StringBuilder -/
def k13 : Class := { plain "java/lang/StringBuilder" (some 12) with
  accessFlags := 49
  interfaces := #[11, 2, 3, 4]
  cf := some (fileOf pool13 24 #[] #[{ accessFlags := 1, nameIndex := 5, descriptorIndex := 145, attributes := #[] }, { accessFlags := 1, nameIndex := 27, descriptorIndex := 28, attributes := #[] }, { accessFlags := 1, nameIndex := 399, descriptorIndex := 400, attributes := #[] }, { accessFlags := 4161, nameIndex := 345, descriptorIndex := 156, attributes := #[] }] 49 2 #[349, 351, 353, 355] #[{ accessFlags := 24, nameIndex := 357, descriptorIndex := 358, attributes := #[] }])
  fields := #[{ name := "serialVersionUID", type := .long, accessFlags := 24, slot := 0, constantValue := 0 }]
  methods := #[k13m0, k13m1, k13m2, k13m3]
  instanceTypes := #[(.array .byte), .byte, .boolean, .int]
  staticTypes := #[.long]
  resolved := Array.replicate 422 none
  statics := none }

def pool14 : Array CpInfo := pool [(9, u "<init>"), (6, .class_ 18), (1, u "java/lang/Object"), (0, u "()V"), (1, .class_ 23), (1, u "jdk/internal/util/ArraysSupport"), (0, u "LOG2_ARRAY_LONG_INDEX_SCALE"), (0, u "I"), (2, u "U"), (0, u "Ljdk/internal/misc/Unsafe;"), (8, u "BIG_ENDIAN"), (0, u "Z"), (8, u "LOG2_BYTE_BIT_SIZE"), (4, u "LOG2_ARRAY_INT_INDEX_SCALE"), (54, u "JLA"), (0, u "Ljdk/internal/access/JavaLangAccess;"), (11, u "LOG2_ARRAY_BOOLEAN_INDEX_SCALE"), (9, u "LOG2_ARRAY_BYTE_INDEX_SCALE"), (5, u "LOG2_ARRAY_CHAR_INDEX_SCALE"), (5, u "LOG2_ARRAY_SHORT_INDEX_SCALE"), (18, u "LOG2_ARRAY_FLOAT_INDEX_SCALE"), (24, u "LOG2_ARRAY_DOUBLE_INDEX_SCALE"), (6, .methodref 195 196), (0, .class_ 197), (0, .nameAndType 198 199), (0, u "java/lang/Math"), (0, u "max"), (0, u "(II)I"), (0, .integer 2147483639), (76, u "T_BOOLEAN"), (2, u "T_CHAR"), (1, u "T_FLOAT"), (1, u "T_DOUBLE"), (1, u "T_BYTE"), (1, u "T_SHORT"), (1, u "T_INT"), (1, u "T_LONG"), (1, u "SOFT_MAX_ARRAY_LENGTH"), (56, u "newLength"), (0, u "(III)I")] 25

def k14m0 : Method := { name := "<init>", desc := "()V", sig := { parameters := [], returnType := none }, accessFlags := 2, code := none }
def k14c1 : Code := { maxStack := 3, maxLocals := 4, code := jdk_48_method_27_code, exceptionTable := #[], attributes := #[] }
def k14m1 : Method := { name := "newLength", desc := "(III)I", sig := { parameters := [.int, .int, .int], returnType := some .int }, accessFlags := 9, code := some k14c1 }
/-- jdk/internal/util/ArraysSupport -/
def k14 : Class := { plain "jdk/internal/util/ArraysSupport" (some 0) with
  accessFlags := 33
  interfaces := #[]
  cf := some (fileOf pool14 21 #[] #[{ accessFlags := 2, nameIndex := 9, descriptorIndex := 19, attributes := #[] }, { accessFlags := 9, nameIndex := 351, descriptorIndex := 352, attributes := #[] }] 33 16 #[] #[{ accessFlags := 24, nameIndex := 28, descriptorIndex := 29, attributes := #[] }, { accessFlags := 26, nameIndex := 38, descriptorIndex := 39, attributes := #[] }, { accessFlags := 25, nameIndex := 121, descriptorIndex := 25, attributes := #[] }, { accessFlags := 25, nameIndex := 131, descriptorIndex := 25, attributes := #[] }, { accessFlags := 25, nameIndex := 137, descriptorIndex := 25, attributes := #[] }, { accessFlags := 25, nameIndex := 143, descriptorIndex := 25, attributes := #[] }, { accessFlags := 25, nameIndex := 53, descriptorIndex := 25, attributes := #[] }, { accessFlags := 25, nameIndex := 24, descriptorIndex := 25, attributes := #[] }, { accessFlags := 25, nameIndex := 162, descriptorIndex := 25, attributes := #[] }, { accessFlags := 25, nameIndex := 187, descriptorIndex := 25, attributes := #[] }, { accessFlags := 26, nameIndex := 48, descriptorIndex := 25, attributes := #[] }, { accessFlags := 25, nameIndex := 277, descriptorIndex := 25, attributes := #[] }, { accessFlags := 25, nameIndex := 280, descriptorIndex := 25, attributes := #[] }, { accessFlags := 25, nameIndex := 282, descriptorIndex := 25, attributes := #[] }, { accessFlags := 25, nameIndex := 284, descriptorIndex := 25, attributes := #[] }, { accessFlags := 25, nameIndex := 286, descriptorIndex := 25, attributes := #[] }, { accessFlags := 25, nameIndex := 288, descriptorIndex := 25, attributes := #[] }, { accessFlags := 25, nameIndex := 290, descriptorIndex := 25, attributes := #[] }, { accessFlags := 25, nameIndex := 292, descriptorIndex := 25, attributes := #[] }, { accessFlags := 26, nameIndex := 108, descriptorIndex := 109, attributes := #[] }, { accessFlags := 25, nameIndex := 294, descriptorIndex := 25, attributes := #[] }])
  fields := #[{ name := "U", type := (.object "jdk/internal/misc/Unsafe"), accessFlags := 24, slot := 0, constantValue := 0 }, { name := "BIG_ENDIAN", type := .boolean, accessFlags := 26, slot := 1, constantValue := 0 }, { name := "LOG2_ARRAY_BOOLEAN_INDEX_SCALE", type := .int, accessFlags := 25, slot := 2, constantValue := 0 }, { name := "LOG2_ARRAY_BYTE_INDEX_SCALE", type := .int, accessFlags := 25, slot := 3, constantValue := 0 }, { name := "LOG2_ARRAY_CHAR_INDEX_SCALE", type := .int, accessFlags := 25, slot := 4, constantValue := 0 }, { name := "LOG2_ARRAY_SHORT_INDEX_SCALE", type := .int, accessFlags := 25, slot := 5, constantValue := 0 }, { name := "LOG2_ARRAY_INT_INDEX_SCALE", type := .int, accessFlags := 25, slot := 6, constantValue := 0 }, { name := "LOG2_ARRAY_LONG_INDEX_SCALE", type := .int, accessFlags := 25, slot := 7, constantValue := 0 }, { name := "LOG2_ARRAY_FLOAT_INDEX_SCALE", type := .int, accessFlags := 25, slot := 8, constantValue := 0 }, { name := "LOG2_ARRAY_DOUBLE_INDEX_SCALE", type := .int, accessFlags := 25, slot := 9, constantValue := 0 }, { name := "LOG2_BYTE_BIT_SIZE", type := .int, accessFlags := 26, slot := 10, constantValue := 0 }, { name := "T_BOOLEAN", type := .int, accessFlags := 25, slot := 11, constantValue := 0 }, { name := "T_CHAR", type := .int, accessFlags := 25, slot := 12, constantValue := 0 }, { name := "T_FLOAT", type := .int, accessFlags := 25, slot := 13, constantValue := 0 }, { name := "T_DOUBLE", type := .int, accessFlags := 25, slot := 14, constantValue := 0 }, { name := "T_BYTE", type := .int, accessFlags := 25, slot := 15, constantValue := 0 }, { name := "T_SHORT", type := .int, accessFlags := 25, slot := 16, constantValue := 0 }, { name := "T_INT", type := .int, accessFlags := 25, slot := 17, constantValue := 0 }, { name := "T_LONG", type := .int, accessFlags := 25, slot := 18, constantValue := 0 }, { name := "JLA", type := (.object "jdk/internal/access/JavaLangAccess"), accessFlags := 26, slot := 19, constantValue := 0 }, { name := "SOFT_MAX_ARRAY_LENGTH", type := .int, accessFlags := 25, slot := 20, constantValue := 0 }]
  methods := #[k14m0, k14m1]
  instanceTypes := #[]
  staticTypes := #[(.object "jdk/internal/misc/Unsafe"), .boolean, .int, .int, .int, .int, .int, .int, .int, .int, .int, .int, .int, .int, .int, .int, .int, .int, .int, (.object "jdk/internal/access/JavaLangAccess"), .int]
  resolved := Array.replicate 378 none
  statics := none }

def pool15 : Array CpInfo := pool [(1, .class_ 2), (0, u "java/lang/Math"), (1, .class_ 6), (1, u "java/lang/Object"), (0, u "<init>"), (0, u "()V"), (89, .class_ 100), (1, u "java/lang/Math$RandomNumberGeneratorHolder"), (71, u "negativeZeroFloatBits"), (0, u "J"), (2, u "negativeZeroDoubleBits"), (21, u "max"), (2, u "min"), (43, u "$assertionsDisabled"), (0, u "Z"), (88, u "(II)I"), (2, u "twoToTheDoubleScaleDown"), (0, u "D"), (4, u "twoToTheDoubleScaleUp"), (9, u "E"), (3, u "PI"), (2, u "TAU"), (2, u "DEGREES_TO_RADIANS"), (0, u "RADIANS_TO_DEGREES")] 94

def k15m0 : Method := { name := "<init>", desc := "()V", sig := { parameters := [], returnType := none }, accessFlags := 2, code := none }
def k15c1 : Code := { maxStack := 2, maxLocals := 2, code := jdk_29_method_65_code, exceptionTable := #[], attributes := #[] }
def k15m1 : Method := { name := "max", desc := "(II)I", sig := { parameters := [.int, .int], returnType := some .int }, accessFlags := 9, code := some k15c1 }
def k15c2 : Code := { maxStack := 2, maxLocals := 2, code := jdk_29_method_69_code, exceptionTable := #[], attributes := #[] }
def k15m2 : Method := { name := "min", desc := "(II)I", sig := { parameters := [.int, .int], returnType := some .int }, accessFlags := 9, code := some k15c2 }
/-- java/lang/Math -/
def k15 : Class := { plain "java/lang/Math" (some 0) with
  accessFlags := 49
  interfaces := #[]
  cf := some (fileOf pool15 1 #[.nestMembers #[98]] #[{ accessFlags := 2, nameIndex := 7, descriptorIndex := 8, attributes := #[] }, { accessFlags := 9, nameIndex := 198, descriptorIndex := 335, attributes := #[] }, { accessFlags := 9, nameIndex := 201, descriptorIndex := 335, attributes := #[] }] 49 4 #[] #[{ accessFlags := 25, nameIndex := 354, descriptorIndex := 339, attributes := #[] }, { accessFlags := 25, nameIndex := 358, descriptorIndex := 339, attributes := #[] }, { accessFlags := 25, nameIndex := 361, descriptorIndex := 339, attributes := #[] }, { accessFlags := 26, nameIndex := 364, descriptorIndex := 339, attributes := #[] }, { accessFlags := 26, nameIndex := 365, descriptorIndex := 339, attributes := #[] }, { accessFlags := 26, nameIndex := 172, descriptorIndex := 173, attributes := #[] }, { accessFlags := 26, nameIndex := 176, descriptorIndex := 173, attributes := #[] }, { accessFlags := 8, nameIndex := 344, descriptorIndex := 339, attributes := #[] }, { accessFlags := 8, nameIndex := 338, descriptorIndex := 339, attributes := #[] }, { accessFlags := 4120, nameIndex := 245, descriptorIndex := 246, attributes := #[] }])
  fields := #[{ name := "E", type := .double, accessFlags := 25, slot := 0, constantValue := 0 }, { name := "PI", type := .double, accessFlags := 25, slot := 1, constantValue := 0 }, { name := "TAU", type := .double, accessFlags := 25, slot := 2, constantValue := 0 }, { name := "DEGREES_TO_RADIANS", type := .double, accessFlags := 26, slot := 3, constantValue := 0 }, { name := "RADIANS_TO_DEGREES", type := .double, accessFlags := 26, slot := 4, constantValue := 0 }, { name := "negativeZeroFloatBits", type := .long, accessFlags := 26, slot := 5, constantValue := 0 }, { name := "negativeZeroDoubleBits", type := .long, accessFlags := 26, slot := 6, constantValue := 0 }, { name := "twoToTheDoubleScaleUp", type := .double, accessFlags := 8, slot := 7, constantValue := 0 }, { name := "twoToTheDoubleScaleDown", type := .double, accessFlags := 8, slot := 8, constantValue := 0 }, { name := "$assertionsDisabled", type := .boolean, accessFlags := 4120, slot := 9, constantValue := 0 }]
  methods := #[k15m0, k15m1, k15m2]
  instanceTypes := #[]
  staticTypes := #[.double, .double, .double, .double, .double, .long, .long, .double, .double, .boolean]
  resolved := Array.replicate 460 none
  statics := none }

def pool16 : Array CpInfo := pool [(2, .class_ 4), (1, u "java/lang/Object"), (0, u "<init>"), (0, u "()V"), (7, .class_ 16), (1, u "java/util/Arrays"), (57, .class_ 76), (1, u "java/util/Arrays$NaturalOrder"), (36, .class_ 115), (1, u "java/util/Arrays$LegacyMergeSort"), (1, u "Z"), (21, u "copyOfRange"), (10, .methodref 151 152), (0, .class_ 153), (0, .nameAndType 154 155), (0, u "java/lang/System"), (0, u "arraycopy"), (0, u "(Ljava/lang/Object;ILjava/lang/Object;II)V"), (146, u "copyOf"), (1, .methodref 305 306), (0, .class_ 307), (0, .nameAndType 308 309), (0, u "java/lang/Math"), (0, u "min"), (0, u "(II)I"), (29, .methodref 14 340), (0, .nameAndType 341 342), (0, u "copyOfRangeByte"), (0, u "([BII)[B"), (0, .methodref 14 344), (0, .nameAndType 345 346), (0, u "checkLength"), (0, u "(II)V"), (28, .class_ 376), (0, u "java/util/Arrays$ArrayList"), (68, u "$assertionsDisabled"), (269, u "MIN_ARRAY_SORT_GRAN"), (0, u "I"), (2, u "INSERTIONSORT_THRESHOLD"), (149, u "([BI)[B"), (105, .class_ 976), (0, u "java/util/Arrays$ArrayItr")] 52

def k16m0 : Method := { name := "<init>", desc := "()V", sig := { parameters := [], returnType := none }, accessFlags := 2, code := none }
def k16c1 : Code := { maxStack := 6, maxLocals := 3, code := jdk_65_method_121_code, exceptionTable := #[], attributes := #[] }
def k16m1 : Method := { name := "copyOf", desc := "([BI)[B", sig := { parameters := [(.array .byte), .int], returnType := some (.array .byte) }, accessFlags := 9, code := some k16c1 }
def k16c2 : Code := { maxStack := 4, maxLocals := 2, code := jdk_65_method_131_code, exceptionTable := #[], attributes := #[] }
def k16m2 : Method := { name := "checkLength", desc := "(II)V", sig := { parameters := [.int, .int], returnType := none }, accessFlags := 10, code := some k16c2 }
def k16c3 : Code := { maxStack := 3, maxLocals := 3, code := jdk_65_method_132_code, exceptionTable := #[], attributes := #[] }
def k16m3 : Method := { name := "copyOfRange", desc := "([BII)[B", sig := { parameters := [(.array .byte), .int, .int], returnType := some (.array .byte) }, accessFlags := 9, code := some k16c3 }
def k16c4 : Code := { maxStack := 6, maxLocals := 5, code := jdk_65_method_133_code, exceptionTable := #[], attributes := #[] }
def k16m4 : Method := { name := "copyOfRangeByte", desc := "([BII)[B", sig := { parameters := [(.array .byte), .int, .int], returnType := some (.array .byte) }, accessFlags := 10, code := some k16c4 }
/-- java/util/Arrays -/
def k16 : Class := { plain "java/util/Arrays" (some 0) with
  accessFlags := 49
  interfaces := #[]
  cf := some (fileOf pool16 14 #[.nestMembers #[975, 375, 113, 74]] #[{ accessFlags := 2, nameIndex := 5, descriptorIndex := 6, attributes := #[] }, { accessFlags := 9, nameIndex := 302, descriptorIndex := 869, attributes := #[] }, { accessFlags := 10, nameIndex := 345, descriptorIndex := 346, attributes := #[] }, { accessFlags := 9, nameIndex := 139, descriptorIndex := 342, attributes := #[] }, { accessFlags := 10, nameIndex := 341, descriptorIndex := 342, attributes := #[] }] 49 2 #[] #[{ accessFlags := 26, nameIndex := 715, descriptorIndex := 716, attributes := #[] }, { accessFlags := 26, nameIndex := 719, descriptorIndex := 716, attributes := #[] }, { accessFlags := 4120, nameIndex := 445, descriptorIndex := 117, attributes := #[] }])
  fields := #[{ name := "MIN_ARRAY_SORT_GRAN", type := .int, accessFlags := 26, slot := 0, constantValue := 0 }, { name := "INSERTIONSORT_THRESHOLD", type := .int, accessFlags := 26, slot := 1, constantValue := 0 }, { name := "$assertionsDisabled", type := .boolean, accessFlags := 4120, slot := 2, constantValue := 0 }]
  methods := #[k16m0, k16m1, k16m2, k16m3, k16m4]
  instanceTypes := #[]
  staticTypes := #[.int, .int, .boolean]
  resolved := Array.replicate 1029 none
  statics := none }

def pool17 : Array CpInfo := pool [(2, .class_ 4), (1, u "java/lang/Object"), (0, u "<init>"), (0, u "()V"), (1, .class_ 10), (1, u "java/lang/System"), (0, u "allowSecurityManager"), (0, u "I"), (16, u "cons"), (0, u "Ljava/io/Console;"), (77, .class_ 110), (1, u "java/lang/System$CallersHolder"), (43, u "initialErrStream"), (0, u "Ljava/io/PrintStream;"), (19, u "security"), (0, u "Ljava/lang/SecurityManager;"), (31, .class_ 209), (0, u "java/lang/System$1"), (7, u "props"), (0, u "Ljava/util/Properties;"), (2, u "lineSeparator"), (0, u "Ljava/lang/String;"), (96, .class_ 321), (1, u "java/lang/System$LoggerFinder"), (5, .class_ 328), (0, u "java/lang/System$Logger"), (67, u "err"), (2, u "out"), (91, u "notSupportedJnuEncoding"), (15, u "in"), (17, u "initialIn"), (0, u "Ljava/io/InputStream;"), (35, u "bootLayer"), (0, u "Ljava/lang/ModuleLayer;"), (99, .class_ 664), (0, u "java/lang/System$2"), (9, u "NEVER"), (2, u "MAYBE"), (49, u "arraycopy"), (0, u "(Ljava/lang/Object;ILjava/lang/Object;II)V"), (72, .class_ 802), (0, u "java/lang/System$Logger$Level")] 31

def k17m0 : Method := { name := "<init>", desc := "()V", sig := { parameters := [], returnType := none }, accessFlags := 2, code := none }
def k17m1 : Method := { name := "arraycopy", desc := "(Ljava/lang/Object;ILjava/lang/Object;II)V", sig := { parameters := [(.object "java/lang/Object"), .int, (.object "java/lang/Object"), .int, .int], returnType := none }, accessFlags := 265, code := none }
/-- java/lang/System -/
def k17 : Class := { plain "java/lang/System" (some 0) with
  accessFlags := 49
  interfaces := #[]
  cf := some (fileOf pool17 8 #[.nestMembers #[319, 327, 801, 108, 663, 208]] #[{ accessFlags := 2, nameIndex := 5, descriptorIndex := 6, attributes := #[] }, { accessFlags := 265, nameIndex := 727, descriptorIndex := 728, attributes := #[] }] 49 2 #[] #[{ accessFlags := 25, nameIndex := 507, descriptorIndex := 526, attributes := #[] }, { accessFlags := 25, nameIndex := 399, descriptorIndex := 155, attributes := #[] }, { accessFlags := 25, nameIndex := 396, descriptorIndex := 155, attributes := #[] }, { accessFlags := 10, nameIndex := 525, descriptorIndex := 526, attributes := #[] }, { accessFlags := 26, nameIndex := 674, descriptorIndex := 12, attributes := #[] }, { accessFlags := 26, nameIndex := 677, descriptorIndex := 12, attributes := #[] }, { accessFlags := 10, nameIndex := 11, descriptorIndex := 12, attributes := #[] }, { accessFlags := 74, nameIndex := 175, descriptorIndex := 176, attributes := #[] }, { accessFlags := 10, nameIndex := 491, descriptorIndex := 222, attributes := #[] }, { accessFlags := 74, nameIndex := 29, descriptorIndex := 30, attributes := #[] }, { accessFlags := 74, nameIndex := 154, descriptorIndex := 155, attributes := #[] }, { accessFlags := 10, nameIndex := 217, descriptorIndex := 218, attributes := #[] }, { accessFlags := 10, nameIndex := 221, descriptorIndex := 222, attributes := #[] }, { accessFlags := 8, nameIndex := 562, descriptorIndex := 563, attributes := #[] }])
  fields := #[{ name := "in", type := (.object "java/io/InputStream"), accessFlags := 25, slot := 0, constantValue := 0 }, { name := "out", type := (.object "java/io/PrintStream"), accessFlags := 25, slot := 1, constantValue := 0 }, { name := "err", type := (.object "java/io/PrintStream"), accessFlags := 25, slot := 2, constantValue := 0 }, { name := "initialIn", type := (.object "java/io/InputStream"), accessFlags := 10, slot := 3, constantValue := 0 }, { name := "NEVER", type := .int, accessFlags := 26, slot := 4, constantValue := 0 }, { name := "MAYBE", type := .int, accessFlags := 26, slot := 5, constantValue := 0 }, { name := "allowSecurityManager", type := .int, accessFlags := 10, slot := 6, constantValue := 0 }, { name := "security", type := (.object "java/lang/SecurityManager"), accessFlags := 74, slot := 7, constantValue := 0 }, { name := "notSupportedJnuEncoding", type := (.object "java/lang/String"), accessFlags := 10, slot := 8, constantValue := 0 }, { name := "cons", type := (.object "java/io/Console"), accessFlags := 74, slot := 9, constantValue := 0 }, { name := "initialErrStream", type := (.object "java/io/PrintStream"), accessFlags := 74, slot := 10, constantValue := 0 }, { name := "props", type := (.object "java/util/Properties"), accessFlags := 10, slot := 11, constantValue := 0 }, { name := "lineSeparator", type := (.object "java/lang/String"), accessFlags := 10, slot := 12, constantValue := 0 }, { name := "bootLayer", type := (.object "java/lang/ModuleLayer"), accessFlags := 8, slot := 13, constantValue := 0 }]
  methods := #[k17m0, k17m1]
  instanceTypes := #[]
  staticTypes := #[(.object "java/io/InputStream"), (.object "java/io/PrintStream"), (.object "java/io/PrintStream"), (.object "java/io/InputStream"), .int, .int, .int, (.object "java/lang/SecurityManager"), (.object "java/lang/String"), (.object "java/io/Console"), (.object "java/io/PrintStream"), (.object "java/util/Properties"), (.object "java/lang/String"), (.object "java/lang/ModuleLayer")]
  resolved := Array.replicate 834 none
  statics := none }

def pool18 : Array CpInfo := pool [(1, .class_ 2), (0, u "java/lang/String"), (1, .class_ 6), (1, u "java/lang/Object"), (0, u "<init>"), (0, u "()V"), (0, .methodref 1 10), (0, .nameAndType 11 12), (0, u "checkIndex"), (0, u "(II)V"), (1, .class_ 16), (1, u "java/lang/StringLatin1"), (36, u "([BI)C"), (67, u "$assertionsDisabled"), (0, u "Z"), (98, .class_ 223), (1, u "java/lang/StringLatin1$LinesSpliterator"), (28, u "charAt"), (28, u "equals"), (0, u "([B[B)Z"), (107, .class_ 391), (0, u "java/lang/StringLatin1$CharsSpliterator")] 3

def k18m0 : Method := { name := "<init>", desc := "()V", sig := { parameters := [], returnType := none }, accessFlags := 0, code := none }
def k18c1 : Code := { maxStack := 2, maxLocals := 2, code := jdk_43_method_2_code, exceptionTable := #[], attributes := #[] }
def k18m1 : Method := { name := "charAt", desc := "([BI)C", sig := { parameters := [(.array .byte), .int], returnType := some .char }, accessFlags := 9, code := some k18c1 }
def k18c2 : Code := { maxStack := 3, maxLocals := 3, code := jdk_43_method_13_code, exceptionTable := #[], attributes := #[] }
def k18m2 : Method := { name := "equals", desc := "([B[B)Z", sig := { parameters := [(.array .byte), (.array .byte)], returnType := some .boolean }, accessFlags := 9, code := some k18c2 }
/-- java/lang/StringLatin1 -/
def k18 : Class := { plain "java/lang/StringLatin1" (some 0) with
  accessFlags := 48
  interfaces := #[]
  cf := some (fileOf pool18 14 #[.nestMembers #[390, 221]] #[{ accessFlags := 0, nameIndex := 7, descriptorIndex := 8, attributes := #[] }, { accessFlags := 9, nameIndex := 252, descriptorIndex := 53, attributes := #[] }, { accessFlags := 9, nameIndex := 281, descriptorIndex := 282, attributes := #[] }] 48 4 #[] #[{ accessFlags := 4120, nameIndex := 121, descriptorIndex := 122, attributes := #[] }])
  fields := #[{ name := "$assertionsDisabled", type := .boolean, accessFlags := 4120, slot := 0, constantValue := 0 }]
  methods := #[k18m0, k18m1, k18m2]
  instanceTypes := #[]
  staticTypes := #[.boolean]
  resolved := Array.replicate 395 none
  statics := none }

def pool19 : Array CpInfo := pool [(2, .class_ 4), (1, u "java/lang/Object"), (0, u "<init>"), (0, u "()V"), (17, .class_ 26), (1, u "jdk/internal/util/Preconditions"), (6, u "checkIndex"), (21, .class_ 56), (0, u "jdk/internal/util/Preconditions$4"), (57, .class_ 115), (0, u "jdk/internal/util/Preconditions$1"), (7, u "SIOOBE_FORMATTER"), (0, u "Ljava/util/function/BiFunction;"), (0, .class_ 126), (0, u "jdk/internal/util/Preconditions$2"), (3, u "AIOOBE_FORMATTER"), (0, .class_ 132), (0, u "jdk/internal/util/Preconditions$3"), (3, u "IOOBE_FORMATTER"), (41, u "(IILjava/util/function/BiFunction;)I")] 15

def k19m0 : Method := { name := "<init>", desc := "()V", sig := { parameters := [], returnType := none }, accessFlags := 1, code := none }
def k19c1 : Code := { maxStack := 3, maxLocals := 3, code := jdk_41_method_11_code, exceptionTable := #[], attributes := #[] }
def k19m1 : Method := { name := "checkIndex", desc := "(IILjava/util/function/BiFunction;)I", sig := { parameters := [.int, .int, (.object "java/util/function/BiFunction")], returnType := some .int }, accessFlags := 9, code := some k19c1 }
/-- jdk/internal/util/Preconditions -/
def k19 : Class := { plain "jdk/internal/util/Preconditions" (some 0) with
  accessFlags := 33
  interfaces := #[]
  cf := some (fileOf pool19 24 #[.nestMembers #[55, 131, 125, 114]] #[{ accessFlags := 1, nameIndex := 5, descriptorIndex := 6, attributes := #[] }, { accessFlags := 9, nameIndex := 33, descriptorIndex := 178, attributes := #[] }] 33 2 #[] #[{ accessFlags := 25, nameIndex := 123, descriptorIndex := 124, attributes := #[] }, { accessFlags := 25, nameIndex := 130, descriptorIndex := 124, attributes := #[] }, { accessFlags := 25, nameIndex := 136, descriptorIndex := 124, attributes := #[] }])
  fields := #[{ name := "SIOOBE_FORMATTER", type := (.object "java/util/function/BiFunction"), accessFlags := 25, slot := 0, constantValue := 0 }, { name := "AIOOBE_FORMATTER", type := (.object "java/util/function/BiFunction"), accessFlags := 25, slot := 1, constantValue := 0 }, { name := "IOOBE_FORMATTER", type := (.object "java/util/function/BiFunction"), accessFlags := 25, slot := 2, constantValue := 0 }]
  methods := #[k19m0, k19m1]
  instanceTypes := #[]
  staticTypes := #[(.object "java/util/function/BiFunction"), (.object "java/util/function/BiFunction"), (.object "java/util/function/BiFunction")]
  resolved := Array.replicate 194 none
  statics := some 2 }

def pool20 : Array CpInfo := pool [(6, .class_ 8), (1, u "java/lang/Object"), (0, u "<init>"), (0, u "()V"), (1, .class_ 14), (1, u "java/lang/StringUTF16"), (31, u "$assertionsDisabled"), (0, u "Z"), (13, u "HI_BYTE_SHIFT"), (0, u "I"), (2, u "LO_BYTE_SHIFT"), (49, .methodref 12 116), (0, .nameAndType 117 118), (0, u "compress"), (0, u "([CI[BII)I"), (3, u "([CII)[B"), (138, u "coderFromArrayLen"), (0, u "([BI)B"), (106, .class_ 371), (1, u "java/lang/StringUTF16$LinesSpliterator"), (58, u "MAX_LENGTH"), (196, .class_ 628), (0, u "java/lang/StringUTF16$CodePointsSpliterator"), (0, .class_ 630), (0, u "java/lang/StringUTF16$CharsSpliterator")] 4

def k20m0 : Method := { name := "<init>", desc := "()V", sig := { parameters := [], returnType := none }, accessFlags := 0, code := none }
def k20c1 : Code := { maxStack := 2, maxLocals := 2, code := jdk_52_method_15_code, exceptionTable := #[], attributes := #[] }
def k20m1 : Method := { name := "coderFromArrayLen", desc := "([BI)B", sig := { parameters := [(.array .byte), .int], returnType := some .byte }, accessFlags := 8, code := some k20c1 }
def k20c2 : Code := { maxStack := 5, maxLocals := 6, code := jdk_52_method_16_code, exceptionTable := #[], attributes := #[] }
def k20m2 : Method := { name := "compress", desc := "([CII)[B", sig := { parameters := [(.array .char), .int, .int], returnType := some (.array .byte) }, accessFlags := 9, code := some k20c2 }
def k20c3 : Code := { maxStack := 3, maxLocals := 7, code := jdk_52_method_21_code, exceptionTable := #[], attributes := #[] }
def k20m3 : Method := { name := "compress", desc := "([CI[BII)I", sig := { parameters := [(.array .char), .int, (.array .byte), .int, .int], returnType := some .int }, accessFlags := 9, code := some k20c3 }
/-- java/lang/StringUTF16 -/
def k20 : Class := { plain "java/lang/StringUTF16" (some 0) with
  accessFlags := 48
  interfaces := #[]
  cf := some (fileOf pool20 12 #[.nestMembers #[627, 629, 369]] #[{ accessFlags := 0, nameIndex := 9, descriptorIndex := 10, attributes := #[] }, { accessFlags := 8, nameIndex := 261, descriptorIndex := 262, attributes := #[] }, { accessFlags := 9, nameIndex := 117, descriptorIndex := 122, attributes := #[] }, { accessFlags := 9, nameIndex := 117, descriptorIndex := 118, attributes := #[] }] 48 6 #[] #[{ accessFlags := 26, nameIndex := 61, descriptorIndex := 62, attributes := #[] }, { accessFlags := 26, nameIndex := 65, descriptorIndex := 62, attributes := #[] }, { accessFlags := 24, nameIndex := 430, descriptorIndex := 62, attributes := #[] }, { accessFlags := 4120, nameIndex := 46, descriptorIndex := 47, attributes := #[] }])
  fields := #[{ name := "HI_BYTE_SHIFT", type := .int, accessFlags := 26, slot := 0, constantValue := 0 }, { name := "LO_BYTE_SHIFT", type := .int, accessFlags := 26, slot := 1, constantValue := 0 }, { name := "MAX_LENGTH", type := .int, accessFlags := 24, slot := 2, constantValue := 0 }, { name := "$assertionsDisabled", type := .boolean, accessFlags := 4120, slot := 3, constantValue := 0 }]
  methods := #[k20m0, k20m1, k20m2, k20m3]
  instanceTypes := #[]
  staticTypes := #[.int, .int, .int, .boolean]
  resolved := Array.replicate 635 none
  statics := none }

def pool21 : Array CpInfo := pool [(2, .class_ 4), (1, u "java/lang/Object"), (0, u "<init>"), (0, u "()V"), (12, .class_ 20), (0, u "java/util/Collections"), (63, u "r"), (0, u "Ljava/util/Random;"), (80, .class_ 167), (0, u "java/util/Collections$UnmodifiableCollection"), (6, .class_ 175), (0, u "java/util/Collections$UnmodifiableSequencedCollection"), (6, .class_ 183), (0, u "java/util/Collections$UnmodifiableSet"), (6, .class_ 191), (0, u "java/util/Collections$UnmodifiableSequencedSet"), (6, .class_ 199), (0, u "java/util/Collections$UnmodifiableSortedSet"), (6, .class_ 207), (0, u "java/util/Collections$UnmodifiableNavigableSet"), (4, .class_ 213), (0, u "java/util/Collections$UnmodifiableList"), (1, .class_ 216), (0, u "java/util/Collections$UnmodifiableRandomAccessList"), (6, .class_ 224), (0, u "java/util/Collections$UnmodifiableMap"), (6, .class_ 232), (0, u "java/util/Collections$UnmodifiableSequencedMap"), (4, .class_ 238), (0, u "java/util/Collections$UnmodifiableSortedMap"), (6, .class_ 246), (0, u "java/util/Collections$UnmodifiableNavigableMap"), (3, .class_ 251), (0, u "java/util/Collections$SynchronizedCollection"), (4, .class_ 257), (0, u "java/util/Collections$SynchronizedSet"), (4, .class_ 263), (0, u "java/util/Collections$SynchronizedSortedSet"), (1, .class_ 266), (0, u "java/util/Collections$SynchronizedNavigableSet"), (1, .class_ 269), (0, u "java/util/Collections$SynchronizedRandomAccessList"), (1, .class_ 272), (0, u "java/util/Collections$SynchronizedList"), (5, .class_ 279), (0, u "java/util/Collections$SynchronizedMap"), (1, .class_ 282), (0, u "java/util/Collections$SynchronizedSortedMap"), (1, .class_ 285), (0, u "java/util/Collections$SynchronizedNavigableMap"), (1, .class_ 288), (0, u "java/util/Collections$CheckedCollection"), (11, .class_ 301), (0, u "java/util/Collections$CheckedQueue"), (3, .class_ 306), (0, u "java/util/Collections$CheckedSet"), (3, .class_ 311), (0, u "java/util/Collections$CheckedSortedSet"), (3, .class_ 316), (0, u "java/util/Collections$CheckedNavigableSet"), (3, .class_ 321), (0, u "java/util/Collections$CheckedRandomAccessList"), (3, .class_ 326), (0, u "java/util/Collections$CheckedList"), (1, .class_ 329), (0, u "java/util/Collections$CheckedMap"), (3, .class_ 334), (0, u "java/util/Collections$CheckedSortedMap"), (3, .class_ 339), (0, u "java/util/Collections$CheckedNavigableMap"), (4, .class_ 346), (1, u "java/util/Collections$EmptyIterator"), (3, .class_ 352), (1, u "java/util/Collections$EmptyListIterator"), (2, .class_ 357), (1, u "java/util/Collections$EmptyEnumeration"), (4, u "EMPTY_SET"), (0, u "Ljava/util/Set;"), (6, u "EMPTY_LIST"), (0, u "Ljava/util/List;"), (2, u "EMPTY_MAP"), (0, u "Ljava/util/Map;"), (4, .class_ 381), (0, u "java/util/Collections$SingletonSet"), (2, .class_ 385), (0, u "java/util/Collections$1"), (1, .class_ 388), (0, u "java/util/Collections$2"), (1, .class_ 391), (0, u "java/util/Collections$SingletonList"), (1, .class_ 394), (0, u "java/util/Collections$SingletonMap"), (22, .class_ 418), (0, u "java/util/Collections$CopiesList"), (4, .class_ 425), (1, u "java/util/Collections$ReverseComparator"), (8, .class_ 435), (0, u "java/util/Collections$ReverseComparator2"), (6, .class_ 443), (0, u "java/util/Collections$3"), (25, .class_ 470), (0, u "java/util/Collections$SetFromMap"), (2, .class_ 474), (0, u "java/util/Collections$SequencedSetFromMap"), (3, .class_ 479), (0, u "java/util/Collections$AsLIFOQueue"), (11, .class_ 492), (0, u "java/util/Collections$EmptySet"), (1, .class_ 495), (0, u "java/util/Collections$EmptyList"), (1, .class_ 498), (0, u "java/util/Collections$EmptyMap"), (1, u "BINARYSEARCH_THRESHOLD"), (0, u "I"), (2, u "REVERSE_THRESHOLD"), (1, u "SHUFFLE_THRESHOLD"), (1, u "FILL_THRESHOLD"), (1, u "ROTATE_THRESHOLD"), (1, u "COPY_THRESHOLD"), (1, u "REPLACEALL_THRESHOLD"), (1, u "INDEXOFSUBLIST_THRESHOLD"), (333, .class_ 851), (0, u "java/util/Collections$CheckedMap$CheckedEntrySet"), (0, .class_ 853), (0, u "java/util/Collections$CheckedMap$CheckedEntrySet$CheckedEntry"), (0, .class_ 855), (0, u "java/util/Collections$CheckedMap$CheckedEntrySet$1"), (0, .class_ 857), (0, u "java/util/Collections$CheckedList$1"), (0, .class_ 859), (0, u "java/util/Collections$CheckedCollection$1"), (0, .class_ 861), (0, u "java/util/Collections$UnmodifiableNavigableMap$EmptyNavigableMap"), (0, .class_ 863), (0, u "java/util/Collections$UnmodifiableMap$UnmodifiableEntrySet"), (0, .class_ 865), (0, u "java/util/Collections$UnmodifiableMap$UnmodifiableEntrySet$UnmodifiableEntry"), (0, .class_ 867), (0, u "java/util/Collections$UnmodifiableMap$UnmodifiableEntrySet$UnmodifiableEntrySetSpliterator"), (0, .class_ 869), (0, u "java/util/Collections$UnmodifiableMap$UnmodifiableEntrySet$1"), (0, .class_ 871), (0, u "java/util/Collections$UnmodifiableList$1"), (0, .class_ 873), (0, u "java/util/Collections$UnmodifiableNavigableSet$EmptyNavigableSet"), (0, .class_ 875), (0, u "java/util/Collections$UnmodifiableCollection$1")] 57

def k21m0 : Method := { name := "<init>", desc := "()V", sig := { parameters := [], returnType := none }, accessFlags := 2, code := none }
/-- java/util/Collections -/
def k21 : Class := { plain "java/util/Collections" (some 0) with
  accessFlags := 33
  interfaces := #[]
  cf := some (fileOf pool21 19 #[.nestMembers #[478, 473, 469, 434, 423, 417, 393, 390, 380, 497, 494, 491, 355, 350, 344, 338, 333, 328, 850, 852, 854, 320, 325, 856, 315, 310, 305, 300, 287, 858, 284, 281, 278, 268, 271, 265, 262, 256, 250, 245, 860, 237, 231, 223, 862, 864, 866, 868, 215, 212, 870, 206, 872, 198, 190, 182, 174, 166, 874, 442, 387, 384]] #[{ accessFlags := 2, nameIndex := 5, descriptorIndex := 6, attributes := #[] }] 33 2 #[] #[{ accessFlags := 26, nameIndex := 500, descriptorIndex := 501, attributes := #[] }, { accessFlags := 26, nameIndex := 504, descriptorIndex := 501, attributes := #[] }, { accessFlags := 26, nameIndex := 506, descriptorIndex := 501, attributes := #[] }, { accessFlags := 26, nameIndex := 508, descriptorIndex := 501, attributes := #[] }, { accessFlags := 26, nameIndex := 510, descriptorIndex := 501, attributes := #[] }, { accessFlags := 26, nameIndex := 512, descriptorIndex := 501, attributes := #[] }, { accessFlags := 26, nameIndex := 514, descriptorIndex := 501, attributes := #[] }, { accessFlags := 26, nameIndex := 516, descriptorIndex := 501, attributes := #[] }, { accessFlags := 10, nameIndex := 84, descriptorIndex := 85, attributes := #[] }, { accessFlags := 25, nameIndex := 362, descriptorIndex := 363, attributes := #[] }, { accessFlags := 25, nameIndex := 370, descriptorIndex := 371, attributes := #[] }, { accessFlags := 25, nameIndex := 374, descriptorIndex := 375, attributes := #[] }])
  fields := #[{ name := "BINARYSEARCH_THRESHOLD", type := .int, accessFlags := 26, slot := 0, constantValue := 0 }, { name := "REVERSE_THRESHOLD", type := .int, accessFlags := 26, slot := 1, constantValue := 0 }, { name := "SHUFFLE_THRESHOLD", type := .int, accessFlags := 26, slot := 2, constantValue := 0 }, { name := "FILL_THRESHOLD", type := .int, accessFlags := 26, slot := 3, constantValue := 0 }, { name := "ROTATE_THRESHOLD", type := .int, accessFlags := 26, slot := 4, constantValue := 0 }, { name := "COPY_THRESHOLD", type := .int, accessFlags := 26, slot := 5, constantValue := 0 }, { name := "REPLACEALL_THRESHOLD", type := .int, accessFlags := 26, slot := 6, constantValue := 0 }, { name := "INDEXOFSUBLIST_THRESHOLD", type := .int, accessFlags := 26, slot := 7, constantValue := 0 }, { name := "r", type := (.object "java/util/Random"), accessFlags := 10, slot := 8, constantValue := 0 }, { name := "EMPTY_SET", type := (.object "java/util/Set"), accessFlags := 25, slot := 9, constantValue := 0 }, { name := "EMPTY_LIST", type := (.object "java/util/List"), accessFlags := 25, slot := 10, constantValue := 0 }, { name := "EMPTY_MAP", type := (.object "java/util/Map"), accessFlags := 25, slot := 11, constantValue := 0 }]
  methods := #[k21m0]
  instanceTypes := #[]
  staticTypes := #[.int, .int, .int, .int, .int, .int, .int, .int, (.object "java/util/Random"), (.object "java/util/Set"), (.object "java/util/List"), (.object "java/util/Map")]
  resolved := Array.replicate 933 none
  statics := some 3 }

def pool22 : Array CpInfo := pool [(8, .class_ 10), (1, u "java/lang/Iterable"), (24, .class_ 36), (0, u "java/lang/Object")] 25

/-- java/lang/Iterable -/
def k22 : Class := { plain "java/lang/Iterable" (some 0) with
  accessFlags := 1537
  interfaces := #[]
  cf := some (fileOf pool22 8 #[] #[] 1537 35 #[] #[])
  fields := #[]
  methods := #[]
  instanceTypes := #[]
  staticTypes := #[]
  resolved := Array.replicate 62 none
  statics := none }

def pool23 : Array CpInfo := pool [(10, .class_ 12), (1, u "java/util/Collection"), (47, .class_ 61), (0, u "java/lang/Object"), (0, .class_ 63), (0, u "java/lang/Iterable")] 51

/-- java/util/Collection -/
def k23 : Class := { plain "java/util/Collection" (some 0) with
  accessFlags := 1537
  interfaces := #[22]
  cf := some (fileOf pool23 10 #[] #[] 1537 60 #[62] #[])
  fields := #[]
  methods := #[]
  instanceTypes := #[]
  staticTypes := #[]
  resolved := Array.replicate 115 none
  statics := none }

def pool24 : Array CpInfo := pool [(2, .class_ 4), (1, u "java/lang/Object"), (0, u "<init>"), (0, u "()V"), (1, .class_ 10), (1, u "java/util/AbstractCollection"), (66, .class_ 78), (0, u "java/util/Collection")] 81

def k24m0 : Method := { name := "<init>", desc := "()V", sig := { parameters := [], returnType := none }, accessFlags := 4, code := none }
/-- java/util/AbstractCollection -/
def k24 : Class := { plain "java/util/AbstractCollection" (some 0) with
  accessFlags := 1057
  interfaces := #[23]
  cf := some (fileOf pool24 8 #[] #[{ accessFlags := 4, nameIndex := 5, descriptorIndex := 6, attributes := #[] }] 1057 2 #[77] #[])
  fields := #[]
  methods := #[k24m0]
  instanceTypes := #[]
  staticTypes := #[]
  resolved := Array.replicate 160 none
  statics := none }

def pool25 : Array CpInfo := pool [(8, .class_ 10), (1, u "java/util/SequencedCollection"), (15, .class_ 27), (0, u "java/lang/Object"), (0, .class_ 29), (0, u "java/util/Collection")] 27

/-- java/util/SequencedCollection -/
def k25 : Class := { plain "java/util/SequencedCollection" (some 0) with
  accessFlags := 1537
  interfaces := #[23]
  cf := some (fileOf pool25 8 #[] #[] 1537 26 #[28] #[])
  fields := #[]
  methods := #[]
  instanceTypes := #[]
  staticTypes := #[]
  resolved := Array.replicate 57 none
  statics := none }

def pool26 : Array CpInfo := pool [(8, .class_ 10), (1, u "java/util/List"), (92, .class_ 104), (0, u "java/lang/Object"), (15, .class_ 121), (0, u "java/util/SequencedCollection")] 129

/-- java/util/List -/
def k26 : Class := { plain "java/util/List" (some 0) with
  accessFlags := 1537
  interfaces := #[25]
  cf := some (fileOf pool26 8 #[] #[] 1537 103 #[120] #[])
  fields := #[]
  methods := #[]
  instanceTypes := #[]
  staticTypes := #[]
  resolved := Array.replicate 251 none
  statics := none }

def pool27 : Array CpInfo := pool [(2, .class_ 4), (1, u "java/util/AbstractCollection"), (0, u "<init>"), (0, u "()V"), (1, .class_ 10), (1, u "java/util/AbstractList"), (0, u "modCount"), (0, u "I"), (64, .class_ 78), (0, u "java/util/AbstractList$Itr"), (3, .class_ 83), (0, u "java/util/AbstractList$ListItr"), (9, .class_ 94), (0, u "java/util/AbstractList$RandomAccessSubList"), (3, .class_ 99), (0, u "java/util/AbstractList$SubList"), (33, .class_ 134), (0, u "java/util/List"), (73, .class_ 209), (0, u "java/util/AbstractList$SubList$1"), (0, .class_ 211), (0, u "java/util/AbstractList$RandomAccessSpliterator")] 6

def k27m0 : Method := { name := "<init>", desc := "()V", sig := { parameters := [], returnType := none }, accessFlags := 4, code := none }
/-- java/util/AbstractList -/
def k27 : Class := { plain "java/util/AbstractList" (some 24) with
  accessFlags := 1057
  interfaces := #[26]
  cf := some (fileOf pool27 8 #[.nestMembers #[93, 98, 208, 210, 82, 77]] #[{ accessFlags := 4, nameIndex := 5, descriptorIndex := 6, attributes := #[] }] 1057 2 #[133] #[{ accessFlags := 132, nameIndex := 11, descriptorIndex := 12, attributes := #[] }])
  fields := #[{ name := "modCount", type := .int, accessFlags := 132, slot := 0, constantValue := 0 }]
  methods := #[k27m0]
  instanceTypes := #[.int]
  staticTypes := #[]
  resolved := Array.replicate 218 none
  statics := none }

def pool28 : Array CpInfo := pool [(1, .class_ 2), (0, u "java/util/RandomAccess"), (0, .class_ 4), (0, u "java/lang/Object")] 2

/-- java/util/RandomAccess -/
def k28 : Class := { plain "java/util/RandomAccess" (some 0) with
  accessFlags := 1537
  interfaces := #[]
  cf := some (fileOf pool28 1 #[] #[] 1537 3 #[] #[])
  fields := #[]
  methods := #[]
  instanceTypes := #[]
  staticTypes := #[]
  resolved := Array.replicate 7 none
  statics := none }

def pool29 : Array CpInfo := pool [(2, .class_ 4), (1, u "java/util/AbstractList"), (0, u "<init>"), (0, u "()V"), (1, .class_ 10), (1, u "java/util/Collections"), (54, .class_ 66), (0, u "java/util/Collections$EmptyList"), (0, .class_ 68), (0, u "java/util/RandomAccess"), (0, .class_ 70), (0, u "java/io/Serializable"), (0, u "serialVersionUID"), (0, u "J")] 77

def k29m0 : Method := { name := "<init>", desc := "()V", sig := { parameters := [], returnType := none }, accessFlags := 2, code := none }
/-- java/util/Collections$EmptyList -/
def k29 : Class := { plain "java/util/Collections$EmptyList" (some 27) with
  accessFlags := 32
  interfaces := #[28, 2]
  cf := some (fileOf pool29 65 #[.nestHost 8] #[{ accessFlags := 2, nameIndex := 5, descriptorIndex := 6, attributes := #[] }] 32 2 #[67, 69] #[{ accessFlags := 26, nameIndex := 71, descriptorIndex := 72, attributes := #[] }])
  fields := #[{ name := "serialVersionUID", type := .long, accessFlags := 26, slot := 0, constantValue := 0 }]
  methods := #[k29m0]
  instanceTypes := #[.int]
  staticTypes := #[.long]
  resolved := Array.replicate 150 none
  statics := none }

def pool30 : Array CpInfo := pool [(2, .class_ 4), (1, u "java/lang/StackTraceElement"), (0, u "<init>"), (2, .class_ 10), (1, u "java/lang/Object"), (0, u "()V"), (2, u "format"), (0, u "B"), (2, u "classLoaderName"), (0, u "Ljava/lang/String;"), (2, u "moduleName"), (2, u "moduleVersion"), (12, u "declaringClass"), (4, u "methodName"), (2, u "fileName"), (2, u "lineNumber"), (0, u "I"), (65, u "declaringClassObject"), (0, u "Ljava/lang/Class;"), (33, .class_ 153), (1, u "java/lang/StackTraceElement$HashedModules"), (17, .class_ 172), (0, u "java/io/Serializable"), (0, u "NATIVE_METHOD"), (1, u "UNKNOWN_SOURCE"), (2, u "BUILTIN_CLASS_LOADER"), (1, u "JDK_NON_UPGRADEABLE_MODULE"), (1, u "serialVersionUID"), (0, u "J")] 51

def k30m0 : Method := { name := "<init>", desc := "()V", sig := { parameters := [], returnType := none }, accessFlags := 2, code := none }
/-- java/lang/StackTraceElement -/
def k30 : Class := { plain "java/lang/StackTraceElement" (some 0) with
  accessFlags := 49
  interfaces := #[2]
  cf := some (fileOf pool30 2 #[.nestMembers #[151]] #[{ accessFlags := 2, nameIndex := 5, descriptorIndex := 11, attributes := #[] }] 49 8 #[171] #[{ accessFlags := 26, nameIndex := 173, descriptorIndex := 19, attributes := #[] }, { accessFlags := 26, nameIndex := 175, descriptorIndex := 19, attributes := #[] }, { accessFlags := 130, nameIndex := 116, descriptorIndex := 117, attributes := #[] }, { accessFlags := 2, nameIndex := 18, descriptorIndex := 19, attributes := #[] }, { accessFlags := 2, nameIndex := 22, descriptorIndex := 19, attributes := #[] }, { accessFlags := 2, nameIndex := 25, descriptorIndex := 19, attributes := #[] }, { accessFlags := 2, nameIndex := 38, descriptorIndex := 19, attributes := #[] }, { accessFlags := 2, nameIndex := 43, descriptorIndex := 19, attributes := #[] }, { accessFlags := 2, nameIndex := 46, descriptorIndex := 19, attributes := #[] }, { accessFlags := 2, nameIndex := 49, descriptorIndex := 50, attributes := #[] }, { accessFlags := 2, nameIndex := 14, descriptorIndex := 15, attributes := #[] }, { accessFlags := 26, nameIndex := 178, descriptorIndex := 15, attributes := #[] }, { accessFlags := 26, nameIndex := 180, descriptorIndex := 15, attributes := #[] }, { accessFlags := 26, nameIndex := 182, descriptorIndex := 183, attributes := #[] }])
  fields := #[{ name := "NATIVE_METHOD", type := (.object "java/lang/String"), accessFlags := 26, slot := 0, constantValue := 0 }, { name := "UNKNOWN_SOURCE", type := (.object "java/lang/String"), accessFlags := 26, slot := 1, constantValue := 0 }, { name := "declaringClassObject", type := (.object "java/lang/Class"), accessFlags := 130, slot := 0, constantValue := 0 }, { name := "classLoaderName", type := (.object "java/lang/String"), accessFlags := 2, slot := 1, constantValue := 0 }, { name := "moduleName", type := (.object "java/lang/String"), accessFlags := 2, slot := 2, constantValue := 0 }, { name := "moduleVersion", type := (.object "java/lang/String"), accessFlags := 2, slot := 3, constantValue := 0 }, { name := "declaringClass", type := (.object "java/lang/String"), accessFlags := 2, slot := 4, constantValue := 0 }, { name := "methodName", type := (.object "java/lang/String"), accessFlags := 2, slot := 5, constantValue := 0 }, { name := "fileName", type := (.object "java/lang/String"), accessFlags := 2, slot := 6, constantValue := 0 }, { name := "lineNumber", type := .int, accessFlags := 2, slot := 7, constantValue := 0 }, { name := "format", type := .byte, accessFlags := 2, slot := 8, constantValue := 0 }, { name := "BUILTIN_CLASS_LOADER", type := .byte, accessFlags := 26, slot := 2, constantValue := 0 }, { name := "JDK_NON_UPGRADEABLE_MODULE", type := .byte, accessFlags := 26, slot := 3, constantValue := 0 }, { name := "serialVersionUID", type := .long, accessFlags := 26, slot := 4, constantValue := 0 }]
  methods := #[k30m0]
  instanceTypes := #[(.object "java/lang/Class"), (.object "java/lang/String"), (.object "java/lang/String"), (.object "java/lang/String"), (.object "java/lang/String"), (.object "java/lang/String"), (.object "java/lang/String"), .int, .byte]
  staticTypes := #[(.object "java/lang/String"), (.object "java/lang/String"), .byte, .byte, .long]
  resolved := Array.replicate 235 none
  statics := none }

def pool31 : Array CpInfo := pool [(1, u "java/lang/Cloneable"), (0, .class_ 1), (0, u "java/lang/Object"), (0, .class_ 3)] 3

/-- java/lang/Cloneable -/
def k31 : Class := { plain "java/lang/Cloneable" (some 0) with
  accessFlags := 1537
  interfaces := #[]
  cf := some (fileOf pool31 2 #[] #[] 1537 4 #[] #[])
  fields := #[]
  methods := #[]
  instanceTypes := #[]
  staticTypes := #[]
  resolved := Array.replicate 8 none
  statics := none }

/-- the primitive byte -/
def k32 : Class := { plain "byte" none with kind := .primitive 'B', accessFlags := 0x411 }
/-- [B -/
def k33 : Class := { plain "[B" (some 0) with kind := .array 32 .byte, interfaces := #[31, 2], accessFlags := 1041 }

/-- the primitive char -/
def k34 : Class := { plain "char" none with kind := .primitive 'C', accessFlags := 0x411 }
/-- [C -/
def k35 : Class := { plain "[C" (some 0) with kind := .array 34 .char, interfaces := #[31, 2], accessFlags := 1041 }

/-- the primitive int -/
def k36 : Class := { plain "int" none with kind := .primitive 'I', accessFlags := 0x411 }
/-- [I -/
def k37 : Class := { plain "[I" (some 0) with kind := .array 36 .int, interfaces := #[31, 2], accessFlags := 1041 }

/-- [Ljava/lang/Object; -/
def k38 : Class := { plain "[Ljava/lang/Object;" (some 0) with kind := .array 0 (.object "java/lang/Object"), interfaces := #[31, 2], accessFlags := 1041 }

/-- [Ljava/lang/StackTraceElement; -/
def k39 : Class := { plain "[Ljava/lang/StackTraceElement;" (some 0) with kind := .array 30 (.object "java/lang/StackTraceElement"), interfaces := #[31, 2], accessFlags := 1041 }

/-- [Ljava/lang/Throwable; -/
def k40 : Class := { plain "[Ljava/lang/Throwable;" (some 0) with kind := .array 8 (.object "java/lang/Throwable"), interfaces := #[31, 2], accessFlags := 1041 }

def heap : Heap := #[{ cls := 7, slots := #[.long 0, .int 1, .null, .int 0, .null, .int 0, .int 0], vm := .statics 7 },
  { cls := 8, slots := #[.long 0, .ref 4, .ref 5, .null, .null, .null, .null, .ref 6, .int 1], vm := .statics 8 },
  { cls := 19, slots := #[.null, .null, .null], vm := .statics 19 },
  { cls := 21, slots := #[.int 0, .int 0, .int 0, .int 0, .int 0, .int 0, .int 0, .int 0, .null, .null, .ref 5, .null], vm := .statics 21 },
  { cls := 39, slots := #[], vm := .none },
  { cls := 29, slots := #[.int 0], vm := .none },
  { cls := 40, slots := #[], vm := .none }]
def classes : Array Class := #[k0, k1, k2, k3, k4, k5, k6, k7, k8, k9, k10, k11, k12, k13, k14, k15, k16, k17, k18, k19, k20, k21, k22, k23, k24, k25, k26, k27, k28, k29, k30, k31, k32, k33, k34, k35, k36, k37, k38, k39, k40]
def interned : List (Array UInt16 × Addr) := []
def slotsUsed : Nat := 32
def theMethod : MethodId := ⟨1, 2⟩
def args0 : Array Value := #[.int 5, .int 5, .int 5]
def aboutOver (below : List Frame) : State where
  vm := { classes := classes, interned := interned.toArray }
  heap := heap
  slotsUsed := slotsUsed
  threads := #[{ frames := .invoking theMethod args0 :: below }]
def below0 : List Frame := [.native { method := ⟨0, 0⟩, args := #[] }]
def about1 : State := aboutOver below0
def p0 : Program := .bare "" "" ""
def e0 : Env := launch0.env 0 0 0
theorem w_frames : about1.frames = Frame.invoking theMethod args0 :: below0 := rfl
set_option maxRecDepth 65536 in
theorem w_args : argsFit about1.vm theMethod args0 = true := by decide +kernel
set_option maxRecDepth 65536 in
theorem w_heap : heapFits about1 = true := by decide +kernel
set_option maxRecDepth 65536 in
theorem w_runnable : about1.curStatus? = some .runnable := by decide +kernel
set_option maxRecDepth 65536 in
theorem w_alone : about1.alone = true := by decide +kernel
set_option maxRecDepth 65536 in
theorem w_named : about1.methodNamed? x = some theMethod := by decide +kernel
set_option maxRecDepth 65536 in
theorem w_hears : about1.hears theMethod below0 = true := by decide +kernel
set_option maxRecDepth 65536 in
theorem w_ripe : about1.ripe theMethod args0 below0 = true := by decide +kernel
theorem w_running : about1.status = .running := rfl
set_option maxRecDepth 65536 in
theorem w_room : about1.hasRoom e0.platform room_1 = true :=
  launch0.hasRoom_least _ room_1 (by decide +kernel) (by decide +kernel) (by decide +kernel) (by decide +kernel) (by decide +kernel) (by decide +kernel)
theorem allAtoms_all (ts : List Jvm.Cond) (a : Array Jvm.Value) (st : Jvm.State) : (allAtoms ts).before a st = ts.all (fun c => c.before a st) := by
  induction ts with
  | nil => rfl
  | cons c t ih =>
    show (Jvm.Cond.and c (allAtoms t)).before a st = _
    rw [Jvm.Cond.before_and, ih, List.all_cons]
def words1 : List Jvm.Cond := Jvm.Cond.code x code maxLocals ret :: tables_1
/-- a 'code' word, met by the world's own term for the bytes: nothing is compared byte by byte -/
theorem code_word {y : MethodName} {bytes : ByteArray} {mx : Nat} {rt : Option FieldType} {a : Array Value} {s : State} {m : MethodId} {meth : Method} {c : Code} (h1 : s.methodNamed? y = some m) (h2 : s.vm.method? m = some meth) (h3 : meth.code = some c) (h4 : c.code = bytes)
    (h5 : (c.maxLocals == mx && c.exceptionTable.isEmpty && decide (c.maxStack ≤ mostOperands) && decide (meth.sig.returnType = rt) && !meth.locks && decide (parseMethodDescriptor y.desc = some meth.sig)) = true) : (Jvm.Cond.code y bytes mx rt).before a s = true := by
  simp only [Bool.and_eq_true, beq_iff_eq, Bool.not_eq_true', decide_eq_true_eq] at h5
  obtain ⟨⟨⟨⟨⟨g1, g2⟩, g3⟩, g4⟩, g5⟩, g6⟩ := h5
  simp [Cond.before, Cond.holds, Cond.value, h1, h2, h3, h4, g1, g2, g3, g4, g5, g6]
def isCode : Jvm.Cond → Bool
  | .code _ _ _ _ => true
  | _ => false
theorem all_split {L : List Jvm.Cond} {P : Jvm.Cond → Bool} (h1 : L.all (fun c => isCode c || P c) = true) (h2 : ∀ c ∈ L.filter isCode, P c = true) : L.all P = true := by
  refine List.all_eq_true.mpr fun c hc => ?_
  have h := List.all_eq_true.mp h1 c hc
  rcases Bool.eq_false_or_eq_true (isCode c) with hi | hi
  · exact h2 c (List.mem_filter.mpr ⟨hc, hi⟩)
  · simpa [hi] using h
set_option maxRecDepth 65536 in
theorem w_c0 : (Jvm.Cond.code x code maxLocals ret).before args0 about1 = true := code_word (m := ⟨1, 2⟩) (meth := k1m2) (c := k1c2) (by decide +kernel) rfl rfl rfl (by decide +kernel)
set_option maxRecDepth 65536 in
theorem w_c1 : (Jvm.Cond.code ({ cls := "com/example/ops5/ops5/RefusedExceptionNameTakenPinLaw", name := "mk", desc := "(ICCC)Ljava/lang/String;" } : Jvm.MethodName) method_2_code (4 : Nat) (Option.some (Jvm.ClassFile.FieldType.object "java/lang/String"))).before args0 about1 = true := code_word (m := ⟨1, 1⟩) (meth := k1m1) (c := k1c1) (by decide +kernel) rfl rfl rfl (by decide +kernel)
set_option maxRecDepth 65536 in
theorem w_c2 : (Jvm.Cond.code ({ cls := "java/lang/String", name := "<init>", desc := "([C)V" } : Jvm.MethodName) jdk_42_method_3_code (2 : Nat) (Option.none : Option Jvm.ClassFile.FieldType)).before args0 about1 = true := code_word (m := ⟨7, 1⟩) (meth := k7m1) (c := k7c1) (by decide +kernel) rfl rfl rfl (by decide +kernel)
set_option maxRecDepth 65536 in
theorem w_c3 : (Jvm.Cond.code ({ cls := "java/lang/String", name := "<init>", desc := "([CIILjava/lang/Void;)V" } : Jvm.MethodName) jdk_42_method_149_code (6 : Nat) (Option.none : Option Jvm.ClassFile.FieldType)).before args0 about1 = true := code_word (m := ⟨7, 7⟩) (meth := k7m7) (c := k7c7) (by decide +kernel) rfl rfl rfl (by decide +kernel)
set_option maxRecDepth 65536 in
theorem w_c4 : (Jvm.Cond.code ({ cls := "java/lang/Object", name := "<init>", desc := "()V" } : Jvm.MethodName) object_method_1_code (1 : Nat) (Option.none : Option Jvm.ClassFile.FieldType)).before args0 about1 = true := code_word (m := ⟨0, 0⟩) (meth := k0m0) (c := k0c0) (by decide +kernel) rfl rfl rfl (by decide +kernel)
set_option maxRecDepth 65536 in
theorem w_c5 : (Jvm.Cond.code ({ cls := "com/example/ops5/ops5/RefusedException", name := "nameTaken", desc := "(Ljava/lang/String;)Lcom/example/ops5/ops5/RefusedException;" } : Jvm.MethodName) prog_5_method_4_code (1 : Nat) (Option.some (Jvm.ClassFile.FieldType.object "com/example/ops5/ops5/RefusedException"))).before args0 about1 = true := code_word (m := ⟨10, 1⟩) (meth := k10m1) (c := k10c1) (by decide +kernel) rfl rfl rfl (by decide +kernel)
set_option maxRecDepth 65536 in
theorem w_c6 : (Jvm.Cond.code ({ cls := "java/lang/StringBuilder", name := "<init>", desc := "()V" } : Jvm.MethodName) jdk_67_method_1_code (1 : Nat) (Option.none : Option Jvm.ClassFile.FieldType)).before args0 about1 = true := code_word (m := ⟨13, 0⟩) (meth := k13m0) (c := k13c0) (by decide +kernel) rfl rfl rfl (by decide +kernel)
set_option maxRecDepth 65536 in
theorem w_c7 : (Jvm.Cond.code ({ cls := "java/lang/AbstractStringBuilder", name := "<init>", desc := "(I)V" } : Jvm.MethodName) jdk_68_method_2_code (2 : Nat) (Option.none : Option Jvm.ClassFile.FieldType)).before args0 about1 = true := code_word (m := ⟨12, 1⟩) (meth := k12m1) (c := k12c1) (by decide +kernel) rfl rfl rfl (by decide +kernel)
set_option maxRecDepth 65536 in
theorem w_c8 : (Jvm.Cond.code ({ cls := "java/lang/StringBuilder", name := "append", desc := "(Ljava/lang/String;)Ljava/lang/StringBuilder;" } : Jvm.MethodName) jdk_67_method_7_code (2 : Nat) (Option.some (Jvm.ClassFile.FieldType.object "java/lang/StringBuilder"))).before args0 about1 = true := code_word (m := ⟨13, 1⟩) (meth := k13m1) (c := k13c1) (by decide +kernel) rfl rfl rfl (by decide +kernel)
set_option maxRecDepth 65536 in
theorem w_c9 : (Jvm.Cond.code ({ cls := "java/lang/AbstractStringBuilder", name := "append", desc := "(Ljava/lang/String;)Ljava/lang/AbstractStringBuilder;" } : Jvm.MethodName) jdk_68_method_22_code (3 : Nat) (Option.some (Jvm.ClassFile.FieldType.object "java/lang/AbstractStringBuilder"))).before args0 about1 = true := code_word (m := ⟨12, 5⟩) (meth := k12m5) (c := k12c5) (by decide +kernel) rfl rfl rfl (by decide +kernel)
set_option maxRecDepth 65536 in
theorem w_c10 : (Jvm.Cond.code ({ cls := "java/lang/String", name := "length", desc := "()I" } : Jvm.MethodName) jdk_42_method_54_code (1 : Nat) (Option.some Jvm.ClassFile.FieldType.int)).before args0 about1 = true := code_word (m := ⟨7, 3⟩) (meth := k7m3) (c := k7c3) (by decide +kernel) rfl rfl rfl (by decide +kernel)
set_option maxRecDepth 65536 in
theorem w_c11 : (Jvm.Cond.code ({ cls := "java/lang/String", name := "coder", desc := "()B" } : Jvm.MethodName) jdk_42_method_152_code (1 : Nat) (Option.some Jvm.ClassFile.FieldType.byte)).before args0 about1 = true := code_word (m := ⟨7, 9⟩) (meth := k7m9) (c := k7c9) (by decide +kernel) rfl rfl rfl (by decide +kernel)
set_option maxRecDepth 65536 in
theorem w_c12 : (Jvm.Cond.code ({ cls := "java/lang/AbstractStringBuilder", name := "ensureCapacityInternal", desc := "(I)V" } : Jvm.MethodName) jdk_68_method_9_code (3 : Nat) (Option.none : Option Jvm.ClassFile.FieldType)).before args0 about1 = true := code_word (m := ⟨12, 3⟩) (meth := k12m3) (c := k12c3) (by decide +kernel) rfl rfl rfl (by decide +kernel)
set_option maxRecDepth 65536 in
theorem w_c13 : (Jvm.Cond.code ({ cls := "java/lang/AbstractStringBuilder", name := "newCapacity", desc := "(I)I" } : Jvm.MethodName) jdk_68_method_10_code (6 : Nat) (Option.some Jvm.ClassFile.FieldType.int)).before args0 about1 = true := code_word (m := ⟨12, 4⟩) (meth := k12m4) (c := k12c4) (by decide +kernel) rfl rfl rfl (by decide +kernel)
set_option maxRecDepth 65536 in
theorem w_c14 : (Jvm.Cond.code ({ cls := "jdk/internal/util/ArraysSupport", name := "newLength", desc := "(III)I" } : Jvm.MethodName) jdk_48_method_27_code (4 : Nat) (Option.some Jvm.ClassFile.FieldType.int)).before args0 about1 = true := code_word (m := ⟨14, 1⟩) (meth := k14m1) (c := k14c1) (by decide +kernel) rfl rfl rfl (by decide +kernel)
set_option maxRecDepth 65536 in
theorem w_c15 : (Jvm.Cond.code ({ cls := "java/lang/Math", name := "max", desc := "(II)I" } : Jvm.MethodName) jdk_29_method_65_code (2 : Nat) (Option.some Jvm.ClassFile.FieldType.int)).before args0 about1 = true := code_word (m := ⟨15, 1⟩) (meth := k15m1) (c := k15c1) (by decide +kernel) rfl rfl rfl (by decide +kernel)
set_option maxRecDepth 65536 in
theorem w_c16 : (Jvm.Cond.code ({ cls := "java/util/Arrays", name := "copyOf", desc := "([BI)[B" } : Jvm.MethodName) jdk_65_method_121_code (3 : Nat) (Option.some (Jvm.ClassFile.FieldType.array Jvm.ClassFile.FieldType.byte))).before args0 about1 = true := code_word (m := ⟨16, 1⟩) (meth := k16m1) (c := k16c1) (by decide +kernel) rfl rfl rfl (by decide +kernel)
set_option maxRecDepth 65536 in
theorem w_c17 : (Jvm.Cond.code ({ cls := "java/lang/Math", name := "min", desc := "(II)I" } : Jvm.MethodName) jdk_29_method_69_code (2 : Nat) (Option.some Jvm.ClassFile.FieldType.int)).before args0 about1 = true := code_word (m := ⟨15, 2⟩) (meth := k15m2) (c := k15c2) (by decide +kernel) rfl rfl rfl (by decide +kernel)
set_option maxRecDepth 65536 in
theorem w_c18 : (Jvm.Cond.code ({ cls := "java/lang/AbstractStringBuilder", name := "putStringAt", desc := "(ILjava/lang/String;)V" } : Jvm.MethodName) jdk_68_method_73_code (3 : Nat) (Option.none : Option Jvm.ClassFile.FieldType)).before args0 about1 = true := code_word (m := ⟨12, 9⟩) (meth := k12m9) (c := k12c9) (by decide +kernel) rfl rfl rfl (by decide +kernel)
set_option maxRecDepth 65536 in
theorem w_c19 : (Jvm.Cond.code ({ cls := "java/lang/AbstractStringBuilder", name := "inflateIfNeededFor", desc := "(Ljava/lang/String;)V" } : Jvm.MethodName) jdk_68_method_71_code (2 : Nat) (Option.none : Option Jvm.ClassFile.FieldType)).before args0 about1 = true := code_word (m := ⟨12, 8⟩) (meth := k12m8) (c := k12c8) (by decide +kernel) rfl rfl rfl (by decide +kernel)
set_option maxRecDepth 65536 in
theorem w_c20 : (Jvm.Cond.code ({ cls := "java/lang/String", name := "getBytes", desc := "([BIB)V" } : Jvm.MethodName) jdk_42_method_147_code (4 : Nat) (Option.none : Option Jvm.ClassFile.FieldType)).before args0 about1 = true := code_word (m := ⟨7, 6⟩) (meth := k7m6) (c := k7c6) (by decide +kernel) rfl rfl rfl (by decide +kernel)
set_option maxRecDepth 65536 in
theorem w_c21 : (Jvm.Cond.code ({ cls := "java/lang/StringBuilder", name := "toString", desc := "()Ljava/lang/String;" } : Jvm.MethodName) jdk_67_method_42_code (1 : Nat) (Option.some (Jvm.ClassFile.FieldType.object "java/lang/String"))).before args0 about1 = true := code_word (m := ⟨13, 2⟩) (meth := k13m2) (c := k13c2) (by decide +kernel) rfl rfl rfl (by decide +kernel)
set_option maxRecDepth 65536 in
theorem w_c22 : (Jvm.Cond.code ({ cls := "java/lang/String", name := "<init>", desc := "(Ljava/lang/StringBuilder;)V" } : Jvm.MethodName) jdk_42_method_53_code (2 : Nat) (Option.none : Option Jvm.ClassFile.FieldType)).before args0 about1 = true := code_word (m := ⟨7, 2⟩) (meth := k7m2) (c := k7c2) (by decide +kernel) rfl rfl rfl (by decide +kernel)
set_option maxRecDepth 65536 in
theorem w_c23 : (Jvm.Cond.code ({ cls := "java/lang/String", name := "<init>", desc := "(Ljava/lang/AbstractStringBuilder;Ljava/lang/Void;)V" } : Jvm.MethodName) jdk_42_method_150_code (5 : Nat) (Option.none : Option Jvm.ClassFile.FieldType)).before args0 about1 = true := code_word (m := ⟨7, 8⟩) (meth := k7m8) (c := k7c8) (by decide +kernel) rfl rfl rfl (by decide +kernel)
set_option maxRecDepth 65536 in
theorem w_c24 : (Jvm.Cond.code ({ cls := "java/lang/AbstractStringBuilder", name := "getValue", desc := "()[B" } : Jvm.MethodName) jdk_68_method_64_code (1 : Nat) (Option.some (Jvm.ClassFile.FieldType.array Jvm.ClassFile.FieldType.byte))).before args0 about1 = true := code_word (m := ⟨12, 6⟩) (meth := k12m6) (c := k12c6) (by decide +kernel) rfl rfl rfl (by decide +kernel)
set_option maxRecDepth 65536 in
theorem w_c25 : (Jvm.Cond.code ({ cls := "java/lang/StringBuilder", name := "length", desc := "()I" } : Jvm.MethodName) jdk_67_method_93_code (1 : Nat) (Option.some Jvm.ClassFile.FieldType.int)).before args0 about1 = true := code_word (m := ⟨13, 3⟩) (meth := k13m3) (c := k13c3) (by decide +kernel) rfl rfl rfl (by decide +kernel)
set_option maxRecDepth 65536 in
theorem w_c26 : (Jvm.Cond.code ({ cls := "java/lang/AbstractStringBuilder", name := "length", desc := "()I" } : Jvm.MethodName) jdk_68_method_6_code (1 : Nat) (Option.some Jvm.ClassFile.FieldType.int)).before args0 about1 = true := code_word (m := ⟨12, 2⟩) (meth := k12m2) (c := k12c2) (by decide +kernel) rfl rfl rfl (by decide +kernel)
set_option maxRecDepth 65536 in
theorem w_c27 : (Jvm.Cond.code ({ cls := "java/lang/AbstractStringBuilder", name := "isLatin1", desc := "()Z" } : Jvm.MethodName) jdk_68_method_68_code (1 : Nat) (Option.some Jvm.ClassFile.FieldType.boolean)).before args0 about1 = true := code_word (m := ⟨12, 7⟩) (meth := k12m7) (c := k12c7) (by decide +kernel) rfl rfl rfl (by decide +kernel)
set_option maxRecDepth 65536 in
theorem w_c28 : (Jvm.Cond.code ({ cls := "java/util/Arrays", name := "copyOfRange", desc := "([BII)[B" } : Jvm.MethodName) jdk_65_method_132_code (3 : Nat) (Option.some (Jvm.ClassFile.FieldType.array Jvm.ClassFile.FieldType.byte))).before args0 about1 = true := code_word (m := ⟨16, 3⟩) (meth := k16m3) (c := k16c3) (by decide +kernel) rfl rfl rfl (by decide +kernel)
set_option maxRecDepth 65536 in
theorem w_c29 : (Jvm.Cond.code ({ cls := "java/util/Arrays", name := "copyOfRangeByte", desc := "([BII)[B" } : Jvm.MethodName) jdk_65_method_133_code (5 : Nat) (Option.some (Jvm.ClassFile.FieldType.array Jvm.ClassFile.FieldType.byte))).before args0 about1 = true := code_word (m := ⟨16, 4⟩) (meth := k16m4) (c := k16c4) (by decide +kernel) rfl rfl rfl (by decide +kernel)
set_option maxRecDepth 65536 in
theorem w_c30 : (Jvm.Cond.code ({ cls := "java/util/Arrays", name := "checkLength", desc := "(II)V" } : Jvm.MethodName) jdk_65_method_131_code (2 : Nat) (Option.none : Option Jvm.ClassFile.FieldType)).before args0 about1 = true := code_word (m := ⟨16, 2⟩) (meth := k16m2) (c := k16c2) (by decide +kernel) rfl rfl rfl (by decide +kernel)
set_option maxRecDepth 65536 in
theorem w_c31 : (Jvm.Cond.code ({ cls := "com/example/ops5/ops5/RefusedException", name := "<init>", desc := "(Ljava/lang/String;)V" } : Jvm.MethodName) prog_5_method_1_code (2 : Nat) (Option.none : Option Jvm.ClassFile.FieldType)).before args0 about1 = true := code_word (m := ⟨10, 0⟩) (meth := k10m0) (c := k10c0) (by decide +kernel) rfl rfl rfl (by decide +kernel)
set_option maxRecDepth 65536 in
theorem w_c32 : (Jvm.Cond.code ({ cls := "java/lang/Exception", name := "<init>", desc := "(Ljava/lang/String;)V" } : Jvm.MethodName) jdk_59_method_2_code (2 : Nat) (Option.none : Option Jvm.ClassFile.FieldType)).before args0 about1 = true := code_word (m := ⟨9, 1⟩) (meth := k9m1) (c := k9c1) (by decide +kernel) rfl rfl rfl (by decide +kernel)
set_option maxRecDepth 65536 in
theorem w_c33 : (Jvm.Cond.code ({ cls := "java/lang/Throwable", name := "<init>", desc := "(Ljava/lang/String;)V" } : Jvm.MethodName) jdk_78_method_2_code (2 : Nat) (Option.none : Option Jvm.ClassFile.FieldType)).before args0 about1 = true := code_word (m := ⟨8, 1⟩) (meth := k8m1) (c := k8c1) (by decide +kernel) rfl rfl rfl (by decide +kernel)
set_option maxRecDepth 65536 in
theorem w_c34 : (Jvm.Cond.code ({ cls := "java/lang/Throwable", name := "<init>", desc := "()V" } : Jvm.MethodName) jdk_78_method_1_code (1 : Nat) (Option.none : Option Jvm.ClassFile.FieldType)).before args0 about1 = true := code_word (m := ⟨8, 0⟩) (meth := k8m0) (c := k8c0) (by decide +kernel) rfl rfl rfl (by decide +kernel)
set_option maxRecDepth 65536 in
theorem w_c35 : (Jvm.Cond.code ({ cls := "java/lang/Throwable", name := "getMessage", desc := "()Ljava/lang/String;" } : Jvm.MethodName) jdk_78_method_6_code (1 : Nat) (Option.some (Jvm.ClassFile.FieldType.object "java/lang/String"))).before args0 about1 = true := code_word (m := ⟨8, 2⟩) (meth := k8m2) (c := k8c2) (by decide +kernel) rfl rfl rfl (by decide +kernel)
set_option maxRecDepth 65536 in
theorem w_c36 : (Jvm.Cond.code ({ cls := "java/lang/String", name := "equals", desc := "(Ljava/lang/Object;)Z" } : Jvm.MethodName) jdk_42_method_66_code (3 : Nat) (Option.some Jvm.ClassFile.FieldType.boolean)).before args0 about1 = true := code_word (m := ⟨7, 5⟩) (meth := k7m5) (c := k7c5) (by decide +kernel) rfl rfl rfl (by decide +kernel)
set_option maxRecDepth 65536 in
theorem w_c37 : (Jvm.Cond.code ({ cls := "java/lang/StringLatin1", name := "equals", desc := "([B[B)Z" } : Jvm.MethodName) jdk_43_method_13_code (3 : Nat) (Option.some Jvm.ClassFile.FieldType.boolean)).before args0 about1 = true := code_word (m := ⟨18, 2⟩) (meth := k18m2) (c := k18c2) (by decide +kernel) rfl rfl rfl (by decide +kernel)
set_option maxRecDepth 65536 in
theorem w_c38 : (Jvm.Cond.code ({ cls := "java/lang/String", name := "charAt", desc := "(I)C" } : Jvm.MethodName) jdk_42_method_56_code (2 : Nat) (Option.some Jvm.ClassFile.FieldType.char)).before args0 about1 = true := code_word (m := ⟨7, 4⟩) (meth := k7m4) (c := k7c4) (by decide +kernel) rfl rfl rfl (by decide +kernel)
set_option maxRecDepth 65536 in
theorem w_c39 : (Jvm.Cond.code ({ cls := "java/lang/String", name := "isLatin1", desc := "()Z" } : Jvm.MethodName) jdk_42_method_154_code (1 : Nat) (Option.some Jvm.ClassFile.FieldType.boolean)).before args0 about1 = true := code_word (m := ⟨7, 10⟩) (meth := k7m10) (c := k7c10) (by decide +kernel) rfl rfl rfl (by decide +kernel)
set_option maxRecDepth 65536 in
theorem w_c40 : (Jvm.Cond.code ({ cls := "java/lang/StringLatin1", name := "charAt", desc := "([BI)C" } : Jvm.MethodName) jdk_43_method_2_code (2 : Nat) (Option.some Jvm.ClassFile.FieldType.char)).before args0 about1 = true := code_word (m := ⟨18, 1⟩) (meth := k18m1) (c := k18c1) (by decide +kernel) rfl rfl rfl (by decide +kernel)
set_option maxRecDepth 65536 in
theorem w_c41 : (Jvm.Cond.code ({ cls := "java/lang/String", name := "checkIndex", desc := "(II)V" } : Jvm.MethodName) jdk_42_method_155_code (2 : Nat) (Option.none : Option Jvm.ClassFile.FieldType)).before args0 about1 = true := code_word (m := ⟨7, 11⟩) (meth := k7m11) (c := k7c11) (by decide +kernel) rfl rfl rfl (by decide +kernel)
set_option maxRecDepth 65536 in
theorem w_c42 : (Jvm.Cond.code ({ cls := "jdk/internal/util/Preconditions", name := "checkIndex", desc := "(IILjava/util/function/BiFunction;)I" } : Jvm.MethodName) jdk_41_method_11_code (3 : Nat) (Option.some Jvm.ClassFile.FieldType.int)).before args0 about1 = true := code_word (m := ⟨19, 1⟩) (meth := k19m1) (c := k19c1) (by decide +kernel) rfl rfl rfl (by decide +kernel)
set_option maxRecDepth 65536 in
theorem w_c43 : (Jvm.Cond.code ({ cls := "java/lang/StringUTF16", name := "compress", desc := "([CII)[B" } : Jvm.MethodName) jdk_52_method_16_code (6 : Nat) (Option.some (Jvm.ClassFile.FieldType.array Jvm.ClassFile.FieldType.byte))).before args0 about1 = true := code_word (m := ⟨20, 2⟩) (meth := k20m2) (c := k20c2) (by decide +kernel) rfl rfl rfl (by decide +kernel)
set_option maxRecDepth 65536 in
theorem w_c44 : (Jvm.Cond.code ({ cls := "java/lang/StringUTF16", name := "compress", desc := "([CI[BII)I" } : Jvm.MethodName) jdk_52_method_21_code (7 : Nat) (Option.some Jvm.ClassFile.FieldType.int)).before args0 about1 = true := code_word (m := ⟨20, 3⟩) (meth := k20m3) (c := k20c3) (by decide +kernel) rfl rfl rfl (by decide +kernel)
set_option maxRecDepth 65536 in
theorem w_c45 : (Jvm.Cond.code ({ cls := "java/lang/StringUTF16", name := "coderFromArrayLen", desc := "([BI)B" } : Jvm.MethodName) jdk_52_method_15_code (2 : Nat) (Option.some Jvm.ClassFile.FieldType.byte)).before args0 about1 = true := code_word (m := ⟨20, 1⟩) (meth := k20m1) (c := k20c1) (by decide +kernel) rfl rfl rfl (by decide +kernel)
def codes1 : List Jvm.Cond := [Jvm.Cond.code x code maxLocals ret, Jvm.Cond.code ({ cls := "com/example/ops5/ops5/RefusedExceptionNameTakenPinLaw", name := "mk", desc := "(ICCC)Ljava/lang/String;" } : Jvm.MethodName) method_2_code (4 : Nat) (Option.some (Jvm.ClassFile.FieldType.object "java/lang/String")), Jvm.Cond.code ({ cls := "java/lang/String", name := "<init>", desc := "([C)V" } : Jvm.MethodName) jdk_42_method_3_code (2 : Nat) (Option.none : Option Jvm.ClassFile.FieldType), Jvm.Cond.code ({ cls := "java/lang/String", name := "<init>", desc := "([CIILjava/lang/Void;)V" } : Jvm.MethodName) jdk_42_method_149_code (6 : Nat) (Option.none : Option Jvm.ClassFile.FieldType), Jvm.Cond.code ({ cls := "java/lang/Object", name := "<init>", desc := "()V" } : Jvm.MethodName) object_method_1_code (1 : Nat) (Option.none : Option Jvm.ClassFile.FieldType), Jvm.Cond.code ({ cls := "com/example/ops5/ops5/RefusedException", name := "nameTaken", desc := "(Ljava/lang/String;)Lcom/example/ops5/ops5/RefusedException;" } : Jvm.MethodName) prog_5_method_4_code (1 : Nat) (Option.some (Jvm.ClassFile.FieldType.object "com/example/ops5/ops5/RefusedException")), Jvm.Cond.code ({ cls := "java/lang/StringBuilder", name := "<init>", desc := "()V" } : Jvm.MethodName) jdk_67_method_1_code (1 : Nat) (Option.none : Option Jvm.ClassFile.FieldType), Jvm.Cond.code ({ cls := "java/lang/AbstractStringBuilder", name := "<init>", desc := "(I)V" } : Jvm.MethodName) jdk_68_method_2_code (2 : Nat) (Option.none : Option Jvm.ClassFile.FieldType), Jvm.Cond.code ({ cls := "java/lang/StringBuilder", name := "append", desc := "(Ljava/lang/String;)Ljava/lang/StringBuilder;" } : Jvm.MethodName) jdk_67_method_7_code (2 : Nat) (Option.some (Jvm.ClassFile.FieldType.object "java/lang/StringBuilder")), Jvm.Cond.code ({ cls := "java/lang/AbstractStringBuilder", name := "append", desc := "(Ljava/lang/String;)Ljava/lang/AbstractStringBuilder;" } : Jvm.MethodName) jdk_68_method_22_code (3 : Nat) (Option.some (Jvm.ClassFile.FieldType.object "java/lang/AbstractStringBuilder")), Jvm.Cond.code ({ cls := "java/lang/String", name := "length", desc := "()I" } : Jvm.MethodName) jdk_42_method_54_code (1 : Nat) (Option.some Jvm.ClassFile.FieldType.int), Jvm.Cond.code ({ cls := "java/lang/String", name := "coder", desc := "()B" } : Jvm.MethodName) jdk_42_method_152_code (1 : Nat) (Option.some Jvm.ClassFile.FieldType.byte), Jvm.Cond.code ({ cls := "java/lang/AbstractStringBuilder", name := "ensureCapacityInternal", desc := "(I)V" } : Jvm.MethodName) jdk_68_method_9_code (3 : Nat) (Option.none : Option Jvm.ClassFile.FieldType), Jvm.Cond.code ({ cls := "java/lang/AbstractStringBuilder", name := "newCapacity", desc := "(I)I" } : Jvm.MethodName) jdk_68_method_10_code (6 : Nat) (Option.some Jvm.ClassFile.FieldType.int), Jvm.Cond.code ({ cls := "jdk/internal/util/ArraysSupport", name := "newLength", desc := "(III)I" } : Jvm.MethodName) jdk_48_method_27_code (4 : Nat) (Option.some Jvm.ClassFile.FieldType.int), Jvm.Cond.code ({ cls := "java/lang/Math", name := "max", desc := "(II)I" } : Jvm.MethodName) jdk_29_method_65_code (2 : Nat) (Option.some Jvm.ClassFile.FieldType.int), Jvm.Cond.code ({ cls := "java/util/Arrays", name := "copyOf", desc := "([BI)[B" } : Jvm.MethodName) jdk_65_method_121_code (3 : Nat) (Option.some (Jvm.ClassFile.FieldType.array Jvm.ClassFile.FieldType.byte)), Jvm.Cond.code ({ cls := "java/lang/Math", name := "min", desc := "(II)I" } : Jvm.MethodName) jdk_29_method_69_code (2 : Nat) (Option.some Jvm.ClassFile.FieldType.int), Jvm.Cond.code ({ cls := "java/lang/AbstractStringBuilder", name := "putStringAt", desc := "(ILjava/lang/String;)V" } : Jvm.MethodName) jdk_68_method_73_code (3 : Nat) (Option.none : Option Jvm.ClassFile.FieldType), Jvm.Cond.code ({ cls := "java/lang/AbstractStringBuilder", name := "inflateIfNeededFor", desc := "(Ljava/lang/String;)V" } : Jvm.MethodName) jdk_68_method_71_code (2 : Nat) (Option.none : Option Jvm.ClassFile.FieldType), Jvm.Cond.code ({ cls := "java/lang/String", name := "getBytes", desc := "([BIB)V" } : Jvm.MethodName) jdk_42_method_147_code (4 : Nat) (Option.none : Option Jvm.ClassFile.FieldType), Jvm.Cond.code ({ cls := "java/lang/StringBuilder", name := "toString", desc := "()Ljava/lang/String;" } : Jvm.MethodName) jdk_67_method_42_code (1 : Nat) (Option.some (Jvm.ClassFile.FieldType.object "java/lang/String")), Jvm.Cond.code ({ cls := "java/lang/String", name := "<init>", desc := "(Ljava/lang/StringBuilder;)V" } : Jvm.MethodName) jdk_42_method_53_code (2 : Nat) (Option.none : Option Jvm.ClassFile.FieldType), Jvm.Cond.code ({ cls := "java/lang/String", name := "<init>", desc := "(Ljava/lang/AbstractStringBuilder;Ljava/lang/Void;)V" } : Jvm.MethodName) jdk_42_method_150_code (5 : Nat) (Option.none : Option Jvm.ClassFile.FieldType), Jvm.Cond.code ({ cls := "java/lang/AbstractStringBuilder", name := "getValue", desc := "()[B" } : Jvm.MethodName) jdk_68_method_64_code (1 : Nat) (Option.some (Jvm.ClassFile.FieldType.array Jvm.ClassFile.FieldType.byte)), Jvm.Cond.code ({ cls := "java/lang/StringBuilder", name := "length", desc := "()I" } : Jvm.MethodName) jdk_67_method_93_code (1 : Nat) (Option.some Jvm.ClassFile.FieldType.int), Jvm.Cond.code ({ cls := "java/lang/AbstractStringBuilder", name := "length", desc := "()I" } : Jvm.MethodName) jdk_68_method_6_code (1 : Nat) (Option.some Jvm.ClassFile.FieldType.int), Jvm.Cond.code ({ cls := "java/lang/AbstractStringBuilder", name := "isLatin1", desc := "()Z" } : Jvm.MethodName) jdk_68_method_68_code (1 : Nat) (Option.some Jvm.ClassFile.FieldType.boolean), Jvm.Cond.code ({ cls := "java/util/Arrays", name := "copyOfRange", desc := "([BII)[B" } : Jvm.MethodName) jdk_65_method_132_code (3 : Nat) (Option.some (Jvm.ClassFile.FieldType.array Jvm.ClassFile.FieldType.byte)), Jvm.Cond.code ({ cls := "java/util/Arrays", name := "copyOfRangeByte", desc := "([BII)[B" } : Jvm.MethodName) jdk_65_method_133_code (5 : Nat) (Option.some (Jvm.ClassFile.FieldType.array Jvm.ClassFile.FieldType.byte)), Jvm.Cond.code ({ cls := "java/util/Arrays", name := "checkLength", desc := "(II)V" } : Jvm.MethodName) jdk_65_method_131_code (2 : Nat) (Option.none : Option Jvm.ClassFile.FieldType), Jvm.Cond.code ({ cls := "com/example/ops5/ops5/RefusedException", name := "<init>", desc := "(Ljava/lang/String;)V" } : Jvm.MethodName) prog_5_method_1_code (2 : Nat) (Option.none : Option Jvm.ClassFile.FieldType), Jvm.Cond.code ({ cls := "java/lang/Exception", name := "<init>", desc := "(Ljava/lang/String;)V" } : Jvm.MethodName) jdk_59_method_2_code (2 : Nat) (Option.none : Option Jvm.ClassFile.FieldType), Jvm.Cond.code ({ cls := "java/lang/Throwable", name := "<init>", desc := "(Ljava/lang/String;)V" } : Jvm.MethodName) jdk_78_method_2_code (2 : Nat) (Option.none : Option Jvm.ClassFile.FieldType), Jvm.Cond.code ({ cls := "java/lang/Throwable", name := "<init>", desc := "()V" } : Jvm.MethodName) jdk_78_method_1_code (1 : Nat) (Option.none : Option Jvm.ClassFile.FieldType), Jvm.Cond.code ({ cls := "java/lang/Throwable", name := "getMessage", desc := "()Ljava/lang/String;" } : Jvm.MethodName) jdk_78_method_6_code (1 : Nat) (Option.some (Jvm.ClassFile.FieldType.object "java/lang/String")), Jvm.Cond.code ({ cls := "java/lang/String", name := "equals", desc := "(Ljava/lang/Object;)Z" } : Jvm.MethodName) jdk_42_method_66_code (3 : Nat) (Option.some Jvm.ClassFile.FieldType.boolean), Jvm.Cond.code ({ cls := "java/lang/StringLatin1", name := "equals", desc := "([B[B)Z" } : Jvm.MethodName) jdk_43_method_13_code (3 : Nat) (Option.some Jvm.ClassFile.FieldType.boolean), Jvm.Cond.code ({ cls := "java/lang/String", name := "charAt", desc := "(I)C" } : Jvm.MethodName) jdk_42_method_56_code (2 : Nat) (Option.some Jvm.ClassFile.FieldType.char), Jvm.Cond.code ({ cls := "java/lang/String", name := "isLatin1", desc := "()Z" } : Jvm.MethodName) jdk_42_method_154_code (1 : Nat) (Option.some Jvm.ClassFile.FieldType.boolean), Jvm.Cond.code ({ cls := "java/lang/StringLatin1", name := "charAt", desc := "([BI)C" } : Jvm.MethodName) jdk_43_method_2_code (2 : Nat) (Option.some Jvm.ClassFile.FieldType.char), Jvm.Cond.code ({ cls := "java/lang/String", name := "checkIndex", desc := "(II)V" } : Jvm.MethodName) jdk_42_method_155_code (2 : Nat) (Option.none : Option Jvm.ClassFile.FieldType), Jvm.Cond.code ({ cls := "jdk/internal/util/Preconditions", name := "checkIndex", desc := "(IILjava/util/function/BiFunction;)I" } : Jvm.MethodName) jdk_41_method_11_code (3 : Nat) (Option.some Jvm.ClassFile.FieldType.int), Jvm.Cond.code ({ cls := "java/lang/StringUTF16", name := "compress", desc := "([CII)[B" } : Jvm.MethodName) jdk_52_method_16_code (6 : Nat) (Option.some (Jvm.ClassFile.FieldType.array Jvm.ClassFile.FieldType.byte)), Jvm.Cond.code ({ cls := "java/lang/StringUTF16", name := "compress", desc := "([CI[BII)I" } : Jvm.MethodName) jdk_52_method_21_code (7 : Nat) (Option.some Jvm.ClassFile.FieldType.int), Jvm.Cond.code ({ cls := "java/lang/StringUTF16", name := "coderFromArrayLen", desc := "([BI)B" } : Jvm.MethodName) jdk_52_method_15_code (2 : Nat) (Option.some Jvm.ClassFile.FieldType.byte)]
set_option maxRecDepth 65536 in
theorem codes_eq : words1.filter isCode = codes1 := rfl
theorem w_codes : ∀ c ∈ words1.filter isCode, c.before args0 about1 = true := by
  rw [codes_eq]
  intro c hc
  simp only [codes1, List.mem_cons, List.not_mem_nil, or_false] at hc
  rcases hc with rfl | rfl | rfl | rfl | rfl | rfl | rfl | rfl | rfl | rfl | rfl | rfl | rfl | rfl | rfl | rfl | rfl | rfl | rfl | rfl | rfl | rfl | rfl | rfl | rfl | rfl | rfl | rfl | rfl | rfl | rfl | rfl | rfl | rfl | rfl | rfl | rfl | rfl | rfl | rfl | rfl | rfl | rfl | rfl | rfl | rfl
  · exact w_c0
  · exact w_c1
  · exact w_c2
  · exact w_c3
  · exact w_c4
  · exact w_c5
  · exact w_c6
  · exact w_c7
  · exact w_c8
  · exact w_c9
  · exact w_c10
  · exact w_c11
  · exact w_c12
  · exact w_c13
  · exact w_c14
  · exact w_c15
  · exact w_c16
  · exact w_c17
  · exact w_c18
  · exact w_c19
  · exact w_c20
  · exact w_c21
  · exact w_c22
  · exact w_c23
  · exact w_c24
  · exact w_c25
  · exact w_c26
  · exact w_c27
  · exact w_c28
  · exact w_c29
  · exact w_c30
  · exact w_c31
  · exact w_c32
  · exact w_c33
  · exact w_c34
  · exact w_c35
  · exact w_c36
  · exact w_c37
  · exact w_c38
  · exact w_c39
  · exact w_c40
  · exact w_c41
  · exact w_c42
  · exact w_c43
  · exact w_c44
  · exact w_c45
set_option maxRecDepth 65536 in
theorem w_t1 : (words1.take 24).all (fun c => isCode c || c.before args0 about1) = true := by decide +kernel
set_option maxRecDepth 65536 in
theorem w_t2 : ((words1.drop 24).take 24).all (fun c => isCode c || c.before args0 about1) = true := by decide +kernel
set_option maxRecDepth 65536 in
theorem w_t3 : (((words1.drop 24).drop 24).take 24).all (fun c => isCode c || c.before args0 about1) = true := by decide +kernel
set_option maxRecDepth 65536 in
theorem w_t4 : ((((words1.drop 24).drop 24).drop 24).take 24).all (fun c => isCode c || c.before args0 about1) = true := by decide +kernel
set_option maxRecDepth 65536 in
theorem w_t5 : (((((words1.drop 24).drop 24).drop 24).drop 24).take 24).all (fun c => isCode c || c.before args0 about1) = true := by decide +kernel
set_option maxRecDepth 65536 in
theorem w_t6 : ((((((words1.drop 24).drop 24).drop 24).drop 24).drop 24).take 24).all (fun c => isCode c || c.before args0 about1) = true := by decide +kernel
set_option maxRecDepth 65536 in
theorem w_t7 : (((((((words1.drop 24).drop 24).drop 24).drop 24).drop 24).drop 24).take 24).all (fun c => isCode c || c.before args0 about1) = true := by decide +kernel
set_option maxRecDepth 65536 in
theorem w_t8 : ((((((((words1.drop 24).drop 24).drop 24).drop 24).drop 24).drop 24).drop 24).take 24).all (fun c => isCode c || c.before args0 about1) = true := by decide +kernel
set_option maxRecDepth 65536 in
theorem w_t9 : (((((((((words1.drop 24).drop 24).drop 24).drop 24).drop 24).drop 24).drop 24).drop 24).take 24).all (fun c => isCode c || c.before args0 about1) = true := by decide +kernel
set_option maxRecDepth 65536 in
theorem w_t10 : ((((((((((words1.drop 24).drop 24).drop 24).drop 24).drop 24).drop 24).drop 24).drop 24).drop 24).take 24).all (fun c => isCode c || c.before args0 about1) = true := by decide +kernel
set_option maxRecDepth 65536 in
theorem w_t11 : (((((((((((words1.drop 24).drop 24).drop 24).drop 24).drop 24).drop 24).drop 24).drop 24).drop 24).drop 24).take 24).all (fun c => isCode c || c.before args0 about1) = true := by decide +kernel
set_option maxRecDepth 65536 in
theorem w_t12 : (((((((((((words1.drop 24).drop 24).drop 24).drop 24).drop 24).drop 24).drop 24).drop 24).drop 24).drop 24).drop 24).all (fun c => isCode c || c.before args0 about1) = true := by decide +kernel
theorem w_tables : (allAtoms (Jvm.Cond.code x code maxLocals ret :: tables_1)).before args0 about1 = true := by
  rw [allAtoms_all]
  show words1.all (fun c => c.before args0 about1) = true
  refine all_split ?_ w_codes
  rw [← List.take_append_drop 24 words1, List.all_append, w_t1, ← List.take_append_drop 24 (words1.drop 24), List.all_append, w_t2, ← List.take_append_drop 24 ((words1.drop 24).drop 24), List.all_append, w_t3, ← List.take_append_drop 24 (((words1.drop 24).drop 24).drop 24), List.all_append, w_t4, ← List.take_append_drop 24 ((((words1.drop 24).drop 24).drop 24).drop 24), List.all_append, w_t5, ← List.take_append_drop 24 (((((words1.drop 24).drop 24).drop 24).drop 24).drop 24), List.all_append, w_t6, ← List.take_append_drop 24 ((((((words1.drop 24).drop 24).drop 24).drop 24).drop 24).drop 24), List.all_append, w_t7, ← List.take_append_drop 24 (((((((words1.drop 24).drop 24).drop 24).drop 24).drop 24).drop 24).drop 24), List.all_append, w_t8, ← List.take_append_drop 24 ((((((((words1.drop 24).drop 24).drop 24).drop 24).drop 24).drop 24).drop 24).drop 24), List.all_append, w_t9, ← List.take_append_drop 24 (((((((((words1.drop 24).drop 24).drop 24).drop 24).drop 24).drop 24).drop 24).drop 24).drop 24), List.all_append, w_t10, ← List.take_append_drop 24 ((((((((((words1.drop 24).drop 24).drop 24).drop 24).drop 24).drop 24).drop 24).drop 24).drop 24).drop 24), List.all_append, w_t11, w_t12]
  rfl
set_option maxRecDepth 65536 in
theorem w_rest : rest_1_c.before args0 about1 = true := by decide +kernel
set_option maxRecDepth 65536 in
theorem w_case : (Jvm.Cond.and given_1 narrow_1).before args0 about1 = true := by decide +kernel
set_option maxRecDepth 65536 in
theorem w_consts : constsHeld consts_1 about1 := Jvm.Lit.constsHeldB_iff.mp (by decide +kernel)
theorem w_applies : (headSpec (Jvm.Cond.code x code maxLocals ret :: tables_1) room_1).applies x e0.platform about1 = true :=
  (Spec.applies_iff w_frames).mpr ⟨w_running, w_runnable, w_alone, w_named, w_hears, w_ripe, w_room, w_tables⟩
theorem atStart : AtStart classFile x code maxLocals ret World_1 tables_1 room_1 Calls_1 rest_1 Pre_1 launch0 p0 e0 about1 theMethod args0 below0 :=
  ⟨lists_1, trivial, launch0.admits_env _ _ _, launch0.least_env, fairChoices_fair.cas, fairChoices_fair.clock, w_frames, w_args, w_heap, w_applies, ⟨(by decide +kernel : framesKnown about1 = true), ⟨(by decide +kernel : tablesKnown about1 = true), ⟨w_consts, trivial⟩⟩⟩, w_rest, w_case⟩
end start1
theorem witness_1 : WitnessClaimed_1 := ⟨start1.p0, start1.e0, start1.about1, start1.theMethod, start1.args0, start1.below0, start1.atStart⟩
end Jvm.Pilot.@@N@@
